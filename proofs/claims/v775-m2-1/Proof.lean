import JvmDerived
import JvmDerived.Pilot.@@N@@Statement
import JvmDerived.Pilot.@@N@@Code
set_option linter.unusedVariables false
set_option linter.unusedSimpArgs false
namespace Jvm.Pilot.@@N@@
open Jvm Jvm.ClassFile Sem Op Lib Jvm.Free Jvm.Stand Jvm.LawKit Jvm.RoadKit Bundle Jvm.Pilot.@@N@@.Jvm.D
abbrev s1' : String := "com/example/fuchun/fuchun/remoting/RemotingCommand"
abbrev s2' : String := "java/util/HashMap$HashIterator"
abbrev s3' : String := "java/util/LinkedHashMap"
abbrev s4' : String := "java/util/HashMap$EntrySet"
abbrev s5' : String := "java/util/HashMap$Node"
abbrev s6' : String := "java/util/Collections$UnmodifiableMap"
abbrev s7' : String := "java/util/HashMap$EntryIterator"
abbrev s8' : String := "com/example/fuchun/fuchun/remoting/RemotingCommandIsOnewayPinLaw"
section OwnKit
variable {p : Program} {l : Launch} {e : Env} {R : Room} {s : State} {m : MethodId} {args : Array Value} {below : List Frame} {meth : Method} {c : Code} {T : State} {locs : List Loc} {cells slots : Nat} {Z : State} {a0 : Array Value} {h : Heap}
/-- from A the walk comes to an end of which F holds -/
def Rch (p : Program) (e : Env) (below : List Frame) (F : Outcome → State → Prop) (A : State) : Prop := ∃ s₂ o, Steps p.tables e below A s₂ ∧ s₂.status = .running ∧ Ended s₂ below o ∧ F o s₂
theorem Rch.go {F : Outcome → State → Prop} {A B : State} (h : ∀ t, Steps p.tables e below B t → Steps p.tables e below A t) (r : Rch p e below F B) : Rch p e below F A := by
  obtain ⟨t, o, h1, h2⟩ := r
  exact ⟨t, o, h t h1, h2⟩
/-- what a body leaves -/
def Leaves (s : State) (C S : Nat) (Q : Option Value → Heap → List Loc → Prop) (o : Outcome) (U : State) : Prop := ∃ v L, o = .returned v ∧ Q v U.heap L ∧ FrameEnd s o U L C S
/-- a body's contract, at one heap and one row of arguments -/
def Ctr (l : Launch) (Z : State) (ws : List Jvm.Cond) (y : MethodName) (bytes : ByteArray) (maxL : Nat) (ret : Option FieldType) (as' : Array Value) (h0 : Heap) (rm : Room) (Q : Option Value → Heap → List Loc → Prop) : Prop :=
  MetFree l y (head1 (Jvm.Cond.code y bytes maxL ret :: ws) rm) (fun a U => a = as' ∧ Z.Warmed39 U.vm ∧ U.heap = h0) (fun _ _ _ _ _ => True) (fun _ U o U' => ∃ v L, o = .returned v ∧ Q v U'.heap L ∧ FrameEnd U o U' L rm.cells rm.slots)
theorem Ctr.of {ws : List Jvm.Cond} {y : MethodName} {bytes : ByteArray} {maxL : Nat} {ret : Option FieldType} {as' : Array Value} {h0 : Heap} {rm : Room} {Q : Option Value → Heap → List Loc → Prop} {Ls : Array Slot} (hpn : plainFor y = true) (ef : ∀ m, entryFrame m as' maxL = mkF m 0 Ls [])
    (H : ∀ (p : Program) (e : Env) (s : State) (m : MethodId) (below : List Frame) (meth : Method) (c : Code) (T : State), p.tables.exec = Jvm.exec → Z.Warmed39 s.vm → c.code = bytes → c.maxLocals = maxL → s.vm.findClass y.cls = some m.cls → meth.name = y.name → meth.sig.returnType = ret → meth.locks = false →
      Stand p l e rm s m as' below meth c T [] 0 0 → T.heap = h0 → Rch p e below (Leaves s rm.cells rm.slots Q) (T.setTop (mkF m 0 Ls []))) : Ctr l Z ws y bytes maxL ret as' h0 rm Q := by
  refine MetFree.of_bodySF hpn hisR ?_
  intro p e s m args below meth c s₁ Bd hml0 hP hK
  obtain ⟨rfl, hZ, hh⟩ := hP
  have e0 : s₁.heap = h0 := by rw [← hh, Bd.state]; rfl
  obtain ⟨t, o, r1, r2, r3, r4⟩ := H p e s m below meth c s₁ Bd.exec hZ Bd.bytes hml0 (findClass_of_methodNamed Bd.named) (name_of_methodNamed Bd.named Bd.method).1 Bd.returns Bd.notSynchronized (Stand.of_body Bd) e0
  exact ⟨t, o, castTop (ef m) r1, r2, r3, r4⟩
theorem Rch.val (X : Stand p l e R s m args below meth c T locs cells slots) (hx : p.tables.exec = Jvm.exec) {pc : Nat} {Ls : Array Slot} {w : Value} {t : FieldType} {i : Instr} {rest : List Value} {Q : Option Value → Heap → List Loc → Prop} {C S : Nat} (hret : meth.sig.returnType = some t) (hlk : meth.locks = false) (hn : narrow t w = w)
    (hi : (i = .ireturn ∧ (t = .int ∨ t = .boolean ∨ t = .byte ∨ t = .char ∨ t = .short) ∧ ∃ z, w = .int z) ∨ (i = .lreturn ∧ t = .long ∧ ∃ z, w = .long z) ∨ (i = .dreturn ∧ t = .double ∧ ∃ z, w = .double z) ∨ (i = .freturn ∧ t = .float ∧ ∃ z, w = .float z) ∨ (i = .areturn ∧ t.isReference = true ∧ w.isRef = true))
    (hd : decode c.code pc = .ok (i, 1)) (hc : cells ≤ C) (hs : slots ≤ S) (hq : Q (some w) T.heap locs) : Rch p e below (Leaves s C S Q) (T.setTop (mkF m pc Ls (w :: rest))) := by
  obtain ⟨fs, hr, hrun, hended, hW, hsame⟩ := X.leave (v := some w) (fun h => by rw [hret] at h; cases h) hlk
  exact ⟨_, _, retOut X hx hret hn hi hd hr, hrun, hended, _, _, rfl, hq, ⟨_, rfl⟩, hW, hsame.mono hc hs⟩
theorem Rch.void (X : Stand p l e R s m args below meth c T locs cells slots) (hx : p.tables.exec = Jvm.exec) {pc : Nat} {Ls : Array Slot} {Q : Option Value → Heap → List Loc → Prop} {C S : Nat} (hret : meth.sig.returnType = none) (hlk : meth.locks = false)
    (hd : decode c.code pc = .ok (.return_, 1)) (hc : cells ≤ C) (hs : slots ≤ S) (hq : Q none T.heap locs) : Rch p e below (Leaves s C S Q) (T.setTop (mkF m pc Ls [])) := by
  obtain ⟨fs, hr, hrun, hended, hW, hsame⟩ := X.leave (v := none) (fun _ => rfl) hlk
  exact ⟨_, _, X.returnOut hx hret hd hr, hrun, hended, _, _, rfl, hq, ⟨_, rfl⟩, hW, hsame.mono hc hs⟩
theorem mayI {t : FieldType} {z : Int32} (ht : t = .int ∨ t = .boolean ∨ t = .byte ∨ t = .char ∨ t = .short) : ((Instr.ireturn : Instr) = .ireturn ∧ (t = .int ∨ t = .boolean ∨ t = .byte ∨ t = .char ∨ t = .short) ∧ ∃ y, (Value.int z) = .int y) ∨ ((Instr.ireturn : Instr) = .lreturn ∧ t = .long ∧ ∃ y, (Value.int z) = .long y) ∨ ((Instr.ireturn : Instr) = .dreturn ∧ t = .double ∧ ∃ y, (Value.int z) = .double y) ∨ ((Instr.ireturn : Instr) = .freturn ∧ t = .float ∧ ∃ y, (Value.int z) = .float y) ∨ ((Instr.ireturn : Instr) = .areturn ∧ t.isReference = true ∧ (Value.int z).isRef = true) := Or.inl ⟨rfl, ht, z, rfl⟩
end OwnKit
section OwnWide
variable {p : Program} {l : Launch} {e : Env} {R : Room} {s : State} {m : MethodId} {args : Array Value} {below : List Frame} {meth : Method} {c : Code} {T : State} {locs : List Loc} {cells slots : Nat} {Z : State} {a0 : Array Value} {h : Heap}
/-- what a body leaves that may have loaded String constants -/
def LeavesW (s : State) (C S : Nat) (Q : Option Value → Heap → List Loc → Prop) (o : Outcome) (U : State) : Prop := ∃ v L, o = .returned v ∧ Q v U.heap L ∧ ReturnedEndW s o U L C S
def CtrW (l : Launch) (Z : State) (ws : List Jvm.Cond) (y : MethodName) (bytes : ByteArray) (maxL : Nat) (ret : Option FieldType) (as' : Array Value) (h0 : Heap) (rm : Room) (Q : Option Value → Heap → List Loc → Prop) : Prop :=
  MetFree l y (head1 (Jvm.Cond.code y bytes maxL ret :: ws) rm) (fun a U => a = as' ∧ Z.Warmed39 U.vm ∧ U.heap = h0) (fun _ _ _ _ _ => True) (fun _ U o U' => ∃ v L, o = .returned v ∧ Q v U'.heap L ∧ ReturnedEndW U o U' L rm.cells rm.slots)
theorem CtrW.of {ws : List Jvm.Cond} {y : MethodName} {bytes : ByteArray} {maxL : Nat} {ret : Option FieldType} {as' : Array Value} {h0 : Heap} {rm : Room} {Q : Option Value → Heap → List Loc → Prop} {Ls : Array Slot} (hpn : plainFor y = true) (ef : ∀ m, entryFrame m as' maxL = mkF m 0 Ls [])
    (H : ∀ (p : Program) (e : Env) (s : State) (vm0 : Vm) (m : MethodId) (below : List Frame) (meth : Method) (c : Code) (T : State), p.tables.exec = Jvm.exec → Z.Warmed39 vm0 → c.code = bytes → c.maxLocals = maxL → vm0.findClass y.cls = some m.cls → meth.name = y.name → meth.sig.returnType = ret → meth.locks = false →
      s.Since vm0 h0.size → Stand p l e rm (s.setVm vm0) m as' below meth c T [] 0 0 → T.heap = h0 → Rch p e below (LeavesW s rm.cells rm.slots Q) (T.setTop (mkF m 0 Ls []))) : CtrW l Z ws y bytes maxL ret as' h0 rm Q := by
  refine MetFree.of_bodySF hpn hisR ?_
  intro p e s m args below meth c s₁ Bd hml0 hP hK
  obtain ⟨rfl, hZ, hh⟩ := hP
  have e0 : s₁.heap = h0 := by rw [← hh, Bd.state]; rfl
  obtain ⟨t, o, r1, r2, r3, r4⟩ := H p e s s.vm m below meth c s₁ Bd.exec hZ Bd.bytes hml0 (findClass_of_methodNamed Bd.named) (name_of_methodNamed Bd.named Bd.method).1 Bd.returns Bd.notSynchronized ((State.WarmedH.refl s).since _) (Stand.of_body Bd) e0
  exact ⟨t, o, castTop (ef m) r1, r2, r3, r4⟩
theorem Rch.valW {vm0 : Vm} {k0 : Nat} (X : Stand p l e R (s.setVm vm0) m args below meth c T locs cells slots) (hx : p.tables.exec = Jvm.exec) (hS : s.Since vm0 k0) (eT : T.heap = h) (hk : k0 ≤ h.size) {pc : Nat} {Ls : Array Slot} {w : Value} {t : FieldType} {i : Instr} {rest : List Value} {Q : Option Value → Heap → List Loc → Prop} {C S : Nat} (hret : meth.sig.returnType = some t) (hlk : meth.locks = false) (hn : narrow t w = w)
    (hi : (i = .ireturn ∧ (t = .int ∨ t = .boolean ∨ t = .byte ∨ t = .char ∨ t = .short) ∧ ∃ z, w = .int z) ∨ (i = .lreturn ∧ t = .long ∧ ∃ z, w = .long z) ∨ (i = .dreturn ∧ t = .double ∧ ∃ z, w = .double z) ∨ (i = .freturn ∧ t = .float ∧ ∃ z, w = .float z) ∨ (i = .areturn ∧ t.isReference = true ∧ w.isRef = true))
    (hd : decode c.code pc = .ok (i, 1)) (hc : cells ≤ C) (hs : slots ≤ S) (hq : Q (some w) h locs) : Rch p e below (LeavesW s C S Q) (T.setTop (mkF m pc Ls (w :: rest))) := by
  subst eT
  obtain ⟨fs, hr, hrun, hended, hW⟩ := X.leaveW (v := some w) hS hk (fun h => by rw [hret] at h; cases h) hlk
  exact ⟨_, _, retOut X hx hret hn hi hd hr, hrun, hended, _, _, rfl, hq, hW.1, hW.2.1, hW.2.2.1, hW.2.2.2.mono hc hs⟩
theorem Rch.voidW {vm0 : Vm} {k0 : Nat} (X : Stand p l e R (s.setVm vm0) m args below meth c T locs cells slots) (hx : p.tables.exec = Jvm.exec) (hS : s.Since vm0 k0) (eT : T.heap = h) (hk : k0 ≤ h.size) {pc : Nat} {Ls : Array Slot} {Q : Option Value → Heap → List Loc → Prop} {C S : Nat} (hret : meth.sig.returnType = none) (hlk : meth.locks = false)
    (hd : decode c.code pc = .ok (.return_, 1)) (hc : cells ≤ C) (hs : slots ≤ S) (hq : Q none h locs) : Rch p e below (LeavesW s C S Q) (T.setTop (mkF m pc Ls [])) := by
  subst eT
  obtain ⟨fs, hr, hrun, hended, hW⟩ := X.leaveW (v := none) hS hk (fun _ => rfl) hlk
  exact ⟨_, _, X.returnOut hx hret hd hr, hrun, hended, _, _, rfl, hq, hW.1, hW.2.1, hW.2.2.1, hW.2.2.2.mono hc hs⟩
end OwnWide
section OwnNum
theorem own_pos (x : Int32) : ¬ (x &&& 2147483647) < 0 := fun h => absurd ((XT.and_neg32 x 2147483647).mp h).2 (by decide)
theorem own_rem {y n : Int32} (h : ¬ y < 0) (hn : 0 < n.toInt) : 0 ≤ (y % n).toInt ∧ (y % n).toInt < n.toInt := by
  rw [Int32.toInt_mod]
  have h' : 0 ≤ y.toInt := Int.not_lt.mp fun q => h ((XT.negI32 y).mpr q)
  exact ⟨Int.tmod_nonneg _ h', Int.tmod_lt_of_pos _ hn⟩
end OwnNum
section OwnCase
variable {Z : State} {args : Array Value}
theorem own_fldI {t : Term} {a : Addr} {C n d : String} {k : Int32} (ev : t.eval args Z none [] Z = some (.ref a)) (h : (Cond.eq (.field t C n d) (.int k)).value args Z none Z [] = some true) : Fld Z Z.heap a C n d (.int k) := by
  refine Fld.start ?_
  rw [← fld_at (args := args) (first := Z) (o := none) (idx := []) (C := C) (n := n) (dd := d) ev]
  obtain ⟨x, y, h1, h2, h3, h4⟩ := cmp_v (Or.inl h)
  have h2' : y = .int k := (Option.some.inj ((Term.int_eval k).symm.trans h2)).symm
  subst h2'
  obtain ⟨z, rfl⟩ := h4
  have h5 : z = k := by simpa [Cond.value, h1, Term.int_eval] using h
  rw [h1, h5]
theorem own_fldR {t u : Term} {a b : Addr} {C n d : String} (ev : t.eval args Z none [] Z = some (.ref a)) (eu : u.eval args Z none [] Z = some (.ref b)) (h : (Cond.eq (.field t C n d) u).value args Z none Z [] = some true) : Fld Z Z.heap a C n d (.ref b) := by
  refine Fld.start ?_
  rw [← fld_at (args := args) (first := Z) (o := none) (idx := []) (C := C) (n := n) (dd := d) ev]
  obtain ⟨x, y, h1, h2, h3, h4⟩ := cmp_v (Or.inl h)
  obtain rfl : y = .ref b := Option.some.inj (h2.symm.trans eu)
  rw [h1]
  rcases ref_cases h4.2 with rfl | ⟨z, rfl⟩
  · simp [Cond.value, h1, eu] at h
  · have h5 : z = b := by simpa [Cond.value, h1, eu] using h
    rw [h5]
end OwnCase
section OwnSets
variable {Z : State} {args : Array Value}
theorem own_len {t : Term} {a : Addr} {ty : FieldType} {k : Int32} (ev : t.eval args Z none [] Z = some (.ref a)) (h1 : (Cond.arrayOf t ty).value args Z none Z [] = some true) (h2 : (Cond.eq (.length t) (.int k)).value args Z none Z [] = some true) : ∃ c, Arr Z Z.heap a c ty ∧ c.slots.size < 2 ^ 31 ∧ c.slots.size.toInt32 = k := by
  obtain ⟨c, A⟩ := Arr.start ev h1
  obtain ⟨x, y, e1, e2, e3, e4⟩ := cmp_v (Or.inl h2)
  have e2' : y = .int k := (Option.some.inj ((Term.int_eval k).symm.trans e2)).symm
  subst e2'
  obtain ⟨z, rfl⟩ := e4
  have h5 : z = k := by simpa [Cond.value, e1, Term.int_eval] using h2
  have hA : Z.arrayAt? a = some c := A.fin (Vm.Alike.refl _)
  simp only [Term.eval, ev, hA, Option.bind_eq_bind, Option.bind_some] at e1
  split at e1
  · rename_i hl
    refine ⟨c, A, hl, ?_⟩
    have := Option.some.inj e1
    rw [← h5]; exact Value.int.inj this
  · cases e1
theorem own_elem {t : Term} {a : Addr} {c : Cell} {ty : FieldType} {k : Int32} {v : Value} (A : Arr Z Z.heap a c ty) (ev : t.eval args Z none [] Z = some (.ref a)) (h : (Term.elem t (.int k)).eval args Z none [] Z = some v) : c.slots[k.toNatClampNeg]? = some v := (elem_in h ev (Term.int_eval k) A.1).2
theorem own_eqI {t : Term} {k : Int32} (h : (Cond.eq t (.int k)).value args Z none Z [] = some true) : t.eval args Z none [] Z = some (.int k) := by
  obtain ⟨x, y, e1, e2, e3, e4⟩ := cmp_v (Or.inl h)
  have e2' : y = .int k := (Option.some.inj ((Term.int_eval k).symm.trans e2)).symm
  subst e2'
  obtain ⟨z, rfl⟩ := e4
  have h5 : z = k := by simpa [Cond.value, e1, Term.int_eval] using h
  rw [e1, h5]
theorem own_eqR {t u : Term} {b : Addr} (eu : u.eval args Z none [] Z = some (.ref b)) (h : (Cond.eq t u).value args Z none Z [] = some true) : t.eval args Z none [] Z = some (.ref b) := by
  obtain ⟨x, y, h1, h2, h3, h4⟩ := cmp_v (Or.inl h)
  obtain rfl : y = .ref b := Option.some.inj (h2.symm.trans eu)
  rw [h1]
  rcases ref_cases h4.2 with rfl | ⟨z, rfl⟩
  · simp [Cond.value, h1, eu] at h
  · have h5 : z = b := by simpa [Cond.value, h1, eu] using h
    rw [h5]
theorem own_neI {t : Term} {x k : Int32} (ev : t.eval args Z none [] Z = some (.int x)) (h : (Cond.not (Cond.eq t (.int k))).value args Z none Z [] = some true) : ¬ x = k := fun q => by
  have h' := not_v h
  simp [Cond.value, ev, Term.int_eval, q] at h'
theorem own_fldV {t : Term} {a : Addr} {C n d : String} {v : Value} (ev : t.eval args Z none [] Z = some (.ref a)) (h : (Term.field t C n d).eval args Z none [] Z = some v) : Fld Z Z.heap a C n d v := Fld.start ((fld_at ev).symm.trans h)
theorem own_nref {v : Value} {t : FieldType} (h : v.isRef = true) : narrow t v = v := by cases v <;> first | rfl | (cases h; done) | (cases t <;> rfl)
theorem own_fref {v : Value} {t : FieldType} (h : v.isRef = true) (ht : t.isReference = true := by rfl) : fits t v = true := by cases t <;> first | (cases ht; done) | (cases v <;> first | rfl | (cases h; done))
end OwnSets
section OwnChar
theorem own_lcmp (x : Int64) : lcmpW x x = 0 := by simp [lcmpW]
theorem own_and255 (x : Int32) : ¬ (255 : Int32) < x &&& 255 ∧ ¬ x &&& 255 < 0 := by
  have h : (x &&& 255).toBitVec ≤ 255#32 := by
    show x.toBitVec &&& 255#32 ≤ 255#32
    rw [BitVec.le_def, BitVec.toNat_and]
    exact Nat.and_le_right
  have h2 : (x &&& 255).toInt = ((x &&& 255).toBitVec.toNat : Int) := by
    show (x &&& 255).toBitVec.toInt = _
    rw [BitVec.toInt_eq_toNat_of_lt]
    rw [BitVec.le_def] at h
    have : (255#32).toNat = 255 := rfl
    omega
  rw [BitVec.le_def] at h
  have h3 : (255#32).toNat = 255 := rfl
  rw [Int32.lt_iff_toInt_lt, Int32.lt_iff_toInt_lt, h2]
  have h4 : (255 : Int32).toInt = 255 := rfl
  have h5 : (0 : Int32).toInt = 0 := rfl
  rw [h4, h5]
  omega
/-- a char of eight bits -/
theorem own_chr (x : Int32) : ∃ c, (x &&& 255).toUInt32.toUInt16.toUInt32.toInt32 = c ∧ nar .char c = c ∧ ¬ (255 : Int32) < c ∧ ¬ c < 0 :=
  ⟨x &&& 255, i2c_mask x, i2c_mask x, (own_and255 x).1, (own_and255 x).2⟩
end OwnChar
section OwnInst
variable {p : Program} {l : Launch} {e : Env} {R : Room} {s : State} {m : MethodId} {args : Array Value} {below : List Frame} {meth : Method} {c : Code} {T : State} {locs : List Loc} {cells slots : Nat} {Z : State} {a0 : Array Value} {h : Heap}
/-- the class K is no interface -/
def NI (Z : State) (K : String) : Prop := ∃ (t : ClassId) (k : Class), Z.vm.findClass K = some t ∧ Z.vm.classes[t]? = some k ∧ k.isInterface = false
theorem NI.ofInst {K : String} {n : Nat} (w : (Cond.instantiable K n).before a0 Z = true) : NI Z K := by
  obtain ⟨c, k, h1, h2, -, h3, -⟩ := Cond.instantiable_spec w
  exact ⟨c, k, h1, h2, by simp at h3; exact h3.1⟩
theorem NI.ofSel {C K : String} {y z : MethodName} (w : (Cond.selects C y z).before a0 Z = true) (hz : z.cls = K) : NI Z K := by
  obtain ⟨c2, r2, m2, -, -, q3, -, kP, hkP, hkPi⟩ := Cond.selects_spec w
  exact ⟨m2.cls, kP, hz ▸ findClass_of_methodNamed q3, hkP, hkPi⟩
theorem own_nsRoot {O K : String} (w : (Cond.noSuperclass O).before a0 Z = true) (wk : NI Z K) (hn : O ≠ K) : NS Z O K := by
  obtain ⟨c, k, h1, h2, h3, -, -⟩ := Cond.noSuperclass_spec w
  obtain ⟨t, -, g1, -⟩ := wk
  have ne := ids_ne h1 g1 hn
  refine ⟨c, t, h1, g1, fun fuel => ?_⟩
  cases fuel with
  | zero => rfl
  | succ f => simp [Vm.isSubclassAux, ne, h2, h3]
theorem own_nsNo {C S K : String} (w : (Cond.superclass C S).before a0 Z = true) (wk : NI Z K) (n : NS Z C K) (hn : C ≠ K) : ∃ c t, Z.vm.findClass C = some c ∧ Z.vm.findClass K = some t ∧ Z.vm.assignable c t = false := by
  obtain ⟨c, t, h0, g0, n3⟩ := n
  obtain ⟨p, k, kp, h1, h2, h3, h4, h5, -, h7⟩ := Cond.superclass_spec h0 w
  obtain ⟨t', k', g1, g2, g3⟩ := wk
  cases g0.symm.trans g1
  have ne := ids_ne h0 g0 hn
  refine ⟨c, t, h0, g0, ?_⟩
  show Z.vm.assignableAux (255 + 1) c t = false
  cases hk : k'.kind <;> simp [Vm.assignableAux, ne, h2, g2, h5, hk, g3, Vm.isSubclass, n3]
/-- 'instanceof', whichever it says -/
theorem own_instE (X : Stand p l e R s m args below meth c T locs cells slots) (hx : p.tables.exec = Jvm.exec) (hZ : Z.Warmed39 s.vm) {own K C : String} {index : Nat} (hown : s.vm.findClass own = some m.cls) (w : (Cond.classLink own index K).before a0 Z = true) (eT : T.heap = h) {a : Addr} (E : Exa Z h a C)
    {g : JFrame} (hg : g.method = m) {rest : List Value} (hs : g.stack = .ref a :: rest) (hd : decode c.code g.pc = .ok (.instanceof index, 3)) :
    (Ins Z h a K true ∧ ∃ T', Stand p l e R s m args below meth c T' locs cells slots ∧ T'.heap = h ∧ ∀ target, Steps p.tables e below (T'.setTop { g with pc := g.pc + 3, stack := .int 1 :: rest }) target → Steps p.tables e below (T.setTop g) target) ∨
    (∃ T', Stand p l e R s m args below meth c T' locs cells slots ∧ T'.heap = h ∧ ∀ target, Steps p.tables e below (T'.setTop { g with pc := g.pc + 3, stack := .int 0 :: rest }) target → Steps p.tables e below (T.setTop g) target) := by
  have hpl : e.platform.magicAccessors = ({} : Platform).magicAccessors := by rw [X.admits.platform]
  obtain ⟨t, ht, -⟩ := Cond.classLink_spec hown (mv (args := args) hZ w) e.platform hpl
  rw [hZ.alike.findClass] at ht
  obtain ⟨cell, k, h1, h2, h3, h4, h5⟩ := id E
  cases ha : Z.vm.assignable cell.cls t with
  | true =>
    have I : Ins Z h a K true := ⟨cell, t, h1, ht, by simp [h4, ha]⟩
    exact Or.inl ⟨I, instY X hx hZ hown w eT I hg hs hd⟩
  | false => exact Or.inr (instNo X hx hZ hown w eT E ⟨cell.cls, t, h2, ht, ha⟩ hg hs hd)
end OwnInst
theorem strW {Z : State} {a0 : Array Value} (hw : ∀ d ∈ tables_1, d.before a0 Z = true) : ∀ a ∈ Bundle.stringAtoms, a.before a0 Z = true := by
  intro a ha
  simp only [Bundle.stringAtoms, List.mem_cons, List.not_mem_nil, or_false] at ha
  rcases ha with rfl | rfl | rfl | rfl | rfl | rfl | rfl
  · exact hw _ (List.mem_of_getElem? (i := 2) rfl)
  · exact hw _ (List.mem_of_getElem? (i := 10) rfl)
  · exact hw _ (List.mem_of_getElem? (i := 14) rfl)
  · exact hw _ (List.mem_of_getElem? (i := 23) rfl)
  · exact hw _ (List.mem_of_getElem? (i := 25) rfl)
  · exact hw _ (List.mem_of_getElem? (i := 56) rfl)
  · exact hw _ (List.mem_of_getElem? (i := 57) rfl)
section OwnMirror
variable {p : Program} {l : Launch} {e : Env} {R : Room} {s : State} {m : MethodId} {args : Array Value} {below : List Frame} {meth : Method} {c : Code} {T : State} {locs : List Loc} {cells slots : Nat} {Z : State} {a0 : Array Value} {h : Heap}
/-- the class C has a mirror, at a -/
def MirA (Z : State) (C : String) (a : Addr) : Prop := ∃ (c : ClassId) (k : Class), Z.vm.findClass C = some c ∧ Z.vm.classes[c]? = some k ∧ k.mirror = some a
theorem own_mir {C : String} (h : MirrorMade Z C) : ∃ a, MirA Z C a := by
  obtain ⟨c, k, a, h1, h2, h3⟩ := h
  exact ⟨a, c, k, h1, h2, h3.1⟩
theorem own_ldcM (X : Stand p l e R s m args below meth c T locs cells slots) (hx : p.tables.exec = Jvm.exec) (hZ : Z.Warmed39 s.vm) {own C : String} {index : Nat} {a : Addr} (hown : s.vm.findClass own = some m.cls) (w : (Cond.classLink own index C).before a0 Z = true) (M : MirA Z C a) (eT : T.heap = h)
    {g : JFrame} (hg : g.method = m) (hd : decode c.code g.pc = .ok (.ldc index, 2)) : ∃ T', Stand p l e R s m args below meth c T' locs cells slots ∧ T'.heap = h ∧ ∀ t, Steps p.tables e below (T'.setTop { g with pc := g.pc + 2, stack := .ref a :: g.stack }) t → Steps p.tables e below (T.setTop g) t := by
  obtain ⟨cc, kc, m1, m2, m3⟩ := M
  obtain ⟨k', q, ek⟩ := hZ.alike.2.2 _ _ m2
  have e1 : s.vm.findClass C = some cc := by rw [hZ.alike.findClass]; exact m1
  have e2 : k'.mirror = some a := by rw [ek]; exact m3
  obtain ⟨vm', X', st⟩ := X.ldcMirror hx hown (mv hZ w) (a := a) (by simp [Term.eval, e1, q, e2]) hg hd
  exact ⟨_, X', eT, st⟩
theorem own_gcls (X : Stand p l e R s m args below meth c T locs cells slots) (hx : p.tables.exec = Jvm.exec) (hZ : Z.Warmed39 s.vm) {own C : String} {index : Nat} (hown : s.vm.findClass own = some m.cls)
    (w1 : (Cond.methodLink own index ⟨"java/lang/Object", "getClass", "()Ljava/lang/Class;"⟩).before a0 Z = true) (w2 : (Cond.declares ⟨"java/lang/Object", "getClass", "()Ljava/lang/Class;"⟩).before a0 Z = true) (w4 : (Cond.selects C ⟨"java/lang/Object", "getClass", "()Ljava/lang/Class;"⟩ ⟨"java/lang/Object", "getClass", "()Ljava/lang/Class;"⟩).before a0 Z = true)
    (w5 : (Cond.instanceMethod ⟨"java/lang/Object", "getClass", "()Ljava/lang/Class;"⟩).before a0 Z = true) (w6 : (Cond.native ⟨"java/lang/Object", "getClass", "()Ljava/lang/Class;"⟩).before a0 Z = true) (eT : T.heap = h) {a : Addr} (E : Exa Z h a C) {mr : Addr} (M : MirA Z C mr)
    {g : JFrame} (hg : g.method = m) (hsize : g.locals.size = c.maxLocals) {rest : List Value} (hs : g.stack = .ref a :: rest) (hd : decode c.code g.pc = .ok (.invokevirtual index, 3)) (hf : 1 ≤ R.frames) {W : Nat} (hW : 2 * g.monitorRoom + (rest.map fun v => v.category).sum ≤ W) (hl : W + (nativeFrameWords "java/lang/Object" "getClass" 1 + 11) ≤ R.locals) :
    ∃ T', Stand p l e R s m args below meth c T' locs cells slots ∧ T'.heap = h ∧ ∀ t, Steps p.tables e below (T'.setTop { g with pc := g.pc + 3, stack := .ref mr :: rest }) t → Steps p.tables e below (T.setTop g) t := by
  obtain ⟨cB, kB, i1, i2, i3⟩ := isOf hZ eT E
  obtain ⟨cc, kc, m1, m2, m3⟩ := M
  rw [hZ.alike.findClass] at i1
  cases i1.symm.trans m1
  obtain ⟨k', q, ek⟩ := hZ.alike.2.2 _ _ m2
  obtain ⟨vm', X', st⟩ := X.getClassOf hx hown (mvT hZ w1) (mvT hZ w2) (notFace_of_selects (args := #[]) (mvT hZ w4)) (mvT hZ w4) (mvT hZ w5) (mvT hZ w6) (by rw [hZ.alike.findClass]; exact m1) i3 q (by rw [ek]; exact m3) hg hsize hs hd hf (by omega)
  exact ⟨_, X', eT, st⟩
theorem own_ifm {r o n d : String} (hZ : Z.Warmed39 s.vm) (h : (Cond.interfaceMethod r o n d).before a0 Z = true) : (Cond.interfaceMethod r o n d).before args s = true := by
  have hal := hZ.alike
  obtain ⟨c, k, m, hc, hk, hi, hf, hn⟩ := Cond.interfaceMethod_spec h
  obtain ⟨k', hk', he⟩ := hal.2.2 _ _ hk
  have e1 : s.vm.findClass r = some c := by rw [hal.findClass]; exact hc
  have e2 : (Z.setVm s.vm).methodFound? r n d = some m := by rw [State.methodFound?_setVm hal]; exact hf
  have e2' : s.methodFound? r n d = some m := e2
  have e3 : (Z.setVm s.vm).methodNamed? ⟨o, n, d⟩ = some m := by rw [State.methodNamed?_setVm hal]; exact hn
  have e3' : s.methodNamed? ⟨o, n, d⟩ = some m := e3
  have e4 : k'.isInterface = true := by rw [he]; exact hi
  simp [Cond.before, Cond.holds, Cond.value, e1, e2', e3', hk', e4]
theorem own_gclsI (X : Stand p l e R s m args below meth c T locs cells slots) (hx : p.tables.exec = Jvm.exec) (hZ : Z.Warmed39 s.vm) {own C : String} {index count : Nat} (hown : s.vm.findClass own = some m.cls) {xi : MethodName}
    (w1 : (Cond.methodLink own index xi).before a0 Z = true) (w2 : (Cond.declares ⟨"java/lang/Object", "getClass", "()Ljava/lang/Class;"⟩).before a0 Z = true) (w3 : (Cond.interfaceMethod xi.cls "java/lang/Object" xi.name xi.desc).before a0 Z = true) (w4 : (Cond.selects C xi ⟨"java/lang/Object", "getClass", "()Ljava/lang/Class;"⟩).before a0 Z = true)
    (w5 : (Cond.instanceMethod ⟨"java/lang/Object", "getClass", "()Ljava/lang/Class;"⟩).before a0 Z = true) (w7 : (Cond.publicMethod ⟨"java/lang/Object", "getClass", "()Ljava/lang/Class;"⟩).before a0 Z = true) (w8 : (Cond.unhidden C xi.name xi.desc).before a0 Z = true) (w9 : (Cond.castable C xi.cls).before a0 Z = true)
    (w6 : (Cond.native ⟨"java/lang/Object", "getClass", "()Ljava/lang/Class;"⟩).before a0 Z = true) (hy : xi.cls ≠ "java/lang/invoke/MethodHandle" ∧ xi.cls ≠ "java/lang/invoke/VarHandle") (hxo : xi.cls ≠ "java/lang/Object") (hname : xi.name = "getClass") (hdesc : xi.desc = "()Ljava/lang/Class;") (eT : T.heap = h) {a : Addr} (E : Exa Z h a C) {mr : Addr} (M : MirA Z C mr)
    {g : JFrame} (hg : g.method = m) (hsize : g.locals.size = c.maxLocals) {rest : List Value} (hs : g.stack = .ref a :: rest) (hd : decode c.code g.pc = .ok (.invokeinterface index count, 5)) (hf : 1 ≤ R.frames) {W : Nat} (hW : 2 * g.monitorRoom + (rest.map fun v => v.category).sum ≤ W) (hl : W + (nativeFrameWords "java/lang/Object" "getClass" 1 + 11) ≤ R.locals) :
    ∃ T', Stand p l e R s m args below meth c T' locs cells slots ∧ T'.heap = h ∧ ∀ t, Steps p.tables e below (T'.setTop { g with pc := g.pc + 5, stack := .ref mr :: rest }) t → Steps p.tables e below (T.setTop g) t := by
  obtain ⟨cB, kB, i1, i2, i3⟩ := isOf hZ eT E
  obtain ⟨cc, kc, m1, m2, m3⟩ := M
  have i1' := i1
  rw [hZ.alike.findClass] at i1
  cases i1.symm.trans m1
  obtain ⟨k', q, ek⟩ := hZ.alike.2.2 _ _ m2
  cases i2.symm.trans q
  obtain ⟨vm', X', st⟩ := X.getClassOfI hx hown (mvT hZ w1) (mvT hZ w2) (own_ifm hZ w3) (mvT hZ w4) (mvT hZ w5) (mvT hZ w7) (mvT hZ w8) (mvT hZ w9) (mvT hZ w6) hy hxo hname hdesc i1' i2 i3 (by rw [ek]; exact m3) hg hsize hs hd hf (by omega)
  exact ⟨_, X', eT, st⟩
end OwnMirror
section OwnCalls
variable {p : Program} {l : Launch} {e : Env} {R : Room} {s : State} {m : MethodId} {args : Array Value} {below : List Frame} {meth : Method} {c : Code} {T : State} {locs : List Loc} {cells slots : Nat} {Z : State} {a0 : Array Value} {h : Heap}
theorem callIf (X : Stand p l e R s m args below meth c T locs cells slots) (hx : p.tables.exec = Jvm.exec) (hZ : Z.Warmed39 s.vm) {own C : String} {index count : Nat} {y z : MethodName} {bytes : ByteArray} {maxL : Nat} {ret : Option FieldType} {rm : Room} {as' : Array Value} {Q : Option Value → Heap → List Loc → Prop} (M : Ctr l Z [] z bytes maxL ret as' h rm Q) (eT : T.heap = h)
    (hown : s.vm.findClass own = some m.cls) (w1 : (Cond.methodLink own index y).before a0 Z = true) (w2 : (Cond.declares y).before a0 Z = true) (w7 : (Cond.interfaceMethod y.cls y.cls y.name y.desc).before a0 Z = true) (w3 : (Cond.selects C y z).before a0 Z = true) (w4 : (Cond.instanceMethod z).before a0 Z = true) (w8 : (Cond.publicMethod z).before a0 Z = true) (w9 : (Cond.unhidden C y.name y.desc).before a0 Z = true) (w10 : (Cond.castable C y.cls).before a0 Z = true) (w5 : (Cond.code z bytes maxL ret).before a0 Z = true) (w6 : (Cond.initialized z.cls).before a0 Z = true)
    (hy : y.cls ≠ "java/lang/invoke/MethodHandle" ∧ y.cls ≠ "java/lang/invoke/VarHandle") {pc : Nat} {Ls : Array Slot} {st : List Value} (hd : decode c.code pc = .ok (.invokeinterface index count, 5)) (W : Nat) (hf : rm.frames + 1 ≤ R.frames) (hl : W + (maxL + 11) + rm.locals ≤ R.locals) (hc : cells + rm.cells ≤ R.cells) (hs : slots + rm.slots ≤ R.slots)
    (hsz : Ls.size = c.maxLocals) (a : Addr) (E : Exa Z h a C) (argsL rest : List Value) (has : (.ref a :: argsL).toArray = as') (hlen : ∀ sig, parseMethodDescriptor y.desc = some sig → argsL.length = sig.parameters.length) (hst : st = argsL.reverse ++ .ref a :: rest) (hW : (rest.map fun v => v.category).sum ≤ W) :
    ∃ v T' L, Stand p l e R s m args below meth c T' (locs ++ L) (cells + rm.cells) (slots + rm.slots) ∧ Q v T'.heap L ∧ ∀ t, Steps p.tables e below (T'.setTop (mkF m (pc + 5) Ls (v.toList ++ rest))) t → Steps p.tables e below (T.setTop (mkF m pc Ls st)) t := by
  subst has
  obtain ⟨cq, kq, qa, qb, qc⟩ := isOf hZ eT E
  obtain ⟨v, _, ⟨T', L', k', n'⟩, -, X', ⟨L, hQ, q1, q2, q3⟩, stp⟩ := X.interfaceBack hx (xi := y) (y := z) hown (mvT hZ w1) (mvT hZ w2) (mvT hZ w7 (by simp [Cond.onTables, Cond.keepsFace, Cond.keeps, Cond.faceAtom, hy.1, hy.2])) (mvT hZ w3) (mvT hZ w4) (mvT hZ w8) (mvT hZ w9) (mvT hZ w10) hy (backOf (W := W) M hZ w5 w6 hf hl) qa qb qc (g := mkF m pc Ls st) rfl hsz (Steps.refl _) (argsL := argsL) (rest := rest) hlen hst (by show 2 * 0 + _ ≤ _; rw [Nat.mul_zero, Nat.zero_add]; exact hW) hd (fun _ _ => ⟨rfl, eT, hc, hs⟩)
  dsimp only [Pt.U, Pt.locs, Pt.cells, Pt.slots] at X' q1 q2 q3 stp hQ
  subst q1 q2 q3
  exact ⟨v, T', L, X', hQ, fun t k => stp.trans k⟩
theorem callSp (X : Stand p l e R s m args below meth c T locs cells slots) (hx : p.tables.exec = Jvm.exec) (hZ : Z.Warmed39 s.vm) {own : String} {index : Nat} {y : MethodName} {bytes : ByteArray} {maxL : Nat} {rm : Room} {as' : Array Value} {Q : Option Value → Heap → List Loc → Prop} (M : Ctr l Z [] y bytes maxL none as' h rm Q) (eT : T.heap = h)
    (hown : s.vm.findClass own = some m.cls) (hy1 : y.name = "<init>") (w1 : (Cond.methodLink own index y).before a0 Z = true) (w2 : (Cond.instanceMethod y).before a0 Z = true) (w5 : (Cond.code y bytes maxL none).before a0 Z = true) (w6 : (Cond.initialized y.cls).before a0 Z = true)
    (hy : y.cls ≠ "java/lang/invoke/MethodHandle" ∧ y.cls ≠ "java/lang/invoke/VarHandle") {pc : Nat} {Ls : Array Slot} {st : List Value} (hd : decode c.code pc = .ok (.invokespecial index, 3)) (W : Nat) (hf : rm.frames + 1 ≤ R.frames) (hl : W + (maxL + 11) + rm.locals ≤ R.locals) (hc : cells + rm.cells ≤ R.cells) (hs : slots + rm.slots ≤ R.slots)
    (hsz : Ls.size = c.maxLocals) (a : Addr) (argsL rest : List Value) (has : (.ref a :: argsL).toArray = as') (hlen : ∀ sig, parseMethodDescriptor y.desc = some sig → argsL.length = sig.parameters.length) (hst : st = argsL.reverse ++ .ref a :: rest) (hW : (rest.map fun v => v.category).sum ≤ W) :
    ∃ v T' L, Stand p l e R s m args below meth c T' (locs ++ L) (cells + rm.cells) (slots + rm.slots) ∧ Q v T'.heap L ∧ ∀ t, Steps p.tables e below (T'.setTop (mkF m (pc + 3) Ls (v.toList ++ rest))) t → Steps p.tables e below (T.setTop (mkF m pc Ls st)) t := by
  subst has
  obtain ⟨v, _, ⟨T', L', k', n'⟩, -, X', ⟨L, hQ, q1, q2, q3⟩, stp⟩ := X.specialBack hx (y := y) hy1 hown (mvT hZ w1) (mvT hZ w2) (mvT hZ w5) hy (backOf (W := W) M hZ w5 w6 hf hl) (g := mkF m pc Ls st) rfl hsz (Steps.refl _) (a := a) (argsL := argsL) (rest := rest) hlen hst (by show 2 * 0 + _ ≤ _; rw [Nat.mul_zero, Nat.zero_add]; exact hW) hd (fun _ _ => ⟨rfl, eT, hc, hs⟩)
  dsimp only [Pt.U, Pt.locs, Pt.cells, Pt.slots] at X' q1 q2 q3 stp hQ
  subst q1 q2 q3
  exact ⟨v, T', L, X', hQ, fun t k => stp.trans k⟩
theorem callSt (X : Stand p l e R s m args below meth c T locs cells slots) (hx : p.tables.exec = Jvm.exec) (hZ : Z.Warmed39 s.vm) {own : String} {index : Nat} {y : MethodName} {bytes : ByteArray} {maxL : Nat} {ret : Option FieldType} {rm : Room} {as' : Array Value} {Q : Option Value → Heap → List Loc → Prop} (M : Ctr l Z [] y bytes maxL ret as' h rm Q) (eT : T.heap = h)
    (hown : s.vm.findClass own = some m.cls) (w1 : (Cond.methodLink own index y).before a0 Z = true) (w2 : (Cond.static y).before a0 Z = true) (w5 : (Cond.code y bytes maxL ret).before a0 Z = true) (w6 : (Cond.initialized y.cls).before a0 Z = true)
    (hy : y.cls ≠ "java/lang/invoke/MethodHandle" ∧ y.cls ≠ "java/lang/invoke/VarHandle") {pc : Nat} {Ls : Array Slot} {st : List Value} (hd : decode c.code pc = .ok (.invokestatic index, 3)) (W : Nat) (hf : rm.frames + 1 ≤ R.frames) (hl : W + (maxL + 11) + rm.locals ≤ R.locals) (hc : cells + rm.cells ≤ R.cells) (hs : slots + rm.slots ≤ R.slots)
    (hsz : Ls.size = c.maxLocals) (argsL rest : List Value) (has : argsL.toArray = as') (hlen : ∀ sig, parseMethodDescriptor y.desc = some sig → argsL.length = sig.parameters.length) (hst : st = argsL.reverse ++ rest) (hW : (rest.map fun v => v.category).sum ≤ W) :
    ∃ v T' L, Stand p l e R s m args below meth c T' (locs ++ L) (cells + rm.cells) (slots + rm.slots) ∧ Q v T'.heap L ∧ ∀ t, Steps p.tables e below (T'.setTop (mkF m (pc + 3) Ls (v.toList ++ rest))) t → Steps p.tables e below (T.setTop (mkF m pc Ls st)) t := by
  subst has
  obtain ⟨v, _, ⟨T', L', k', n'⟩, -, X', ⟨L, hQ, q1, q2, q3⟩, stp⟩ := Jvm.LawKit.callS X hx (y := y) hown (mvT hZ w1) (mvT hZ w2) (mvT hZ w6) (mvT hZ w5) hy (backOf (W := W) M hZ w5 w6 hf hl) (g := mkF m pc Ls st) rfl hsz (argsL := argsL) (rest := rest) hlen hst (by show 2 * 0 + _ ≤ _; rw [Nat.mul_zero, Nat.zero_add]; exact hW) hd (fun _ _ => ⟨rfl, eT, hc, hs⟩)
  dsimp only [Pt.U, Pt.locs, Pt.cells, Pt.slots] at X' q1 q2 q3 stp hQ
  subst q1 q2 q3
  exact ⟨v, T', L, X', hQ, stp⟩
theorem callVi (X : Stand p l e R s m args below meth c T locs cells slots) (hx : p.tables.exec = Jvm.exec) (hZ : Z.Warmed39 s.vm) {own C : String} {index : Nat} {y z : MethodName} {bytes : ByteArray} {maxL : Nat} {ret : Option FieldType} {rm : Room} {as' : Array Value} {Q : Option Value → Heap → List Loc → Prop} (M : Ctr l Z [] z bytes maxL ret as' h rm Q) (eT : T.heap = h)
    (hown : s.vm.findClass own = some m.cls) (w1 : (Cond.methodLink own index y).before a0 Z = true) (w2 : (Cond.declares y).before a0 Z = true) (w3 : (Cond.selects C y z).before a0 Z = true) (hnf : NotFace s y) (w4 : (Cond.instanceMethod z).before a0 Z = true) (w5 : (Cond.code z bytes maxL ret).before a0 Z = true) (w6 : (Cond.initialized z.cls).before a0 Z = true)
    (hy : y.cls ≠ "java/lang/invoke/MethodHandle" ∧ y.cls ≠ "java/lang/invoke/VarHandle") {pc : Nat} {Ls : Array Slot} {st : List Value} (hd : decode c.code pc = .ok (.invokevirtual index, 3)) (W : Nat) (hf : rm.frames + 1 ≤ R.frames) (hl : W + (maxL + 11) + rm.locals ≤ R.locals) (hc : cells + rm.cells ≤ R.cells) (hs : slots + rm.slots ≤ R.slots)
    (hsz : Ls.size = c.maxLocals) (a : Addr) (E : Exa Z h a C) (argsL rest : List Value) (has : (.ref a :: argsL).toArray = as') (hlen : ∀ sig, parseMethodDescriptor y.desc = some sig → argsL.length = sig.parameters.length) (hst : st = argsL.reverse ++ .ref a :: rest) (hW : (rest.map fun v => v.category).sum ≤ W) :
    ∃ v T' L, Stand p l e R s m args below meth c T' (locs ++ L) (cells + rm.cells) (slots + rm.slots) ∧ Q v T'.heap L ∧ ∀ t, Steps p.tables e below (T'.setTop (mkF m (pc + 3) Ls (v.toList ++ rest))) t → Steps p.tables e below (T.setTop (mkF m pc Ls st)) t := by
  subst has
  obtain ⟨cq, kq, qa, qb, qc⟩ := isOf hZ eT E
  obtain ⟨v, _, ⟨T', L', k', n'⟩, -, X', ⟨L, hQ, q1, q2, q3⟩, stp⟩ := X.virtualBack hx (y := y) (z := z) hown (mvT hZ w1) (mvT hZ w2) hnf (mvT hZ w3) (mvT hZ w4) hy (backOf (W := W) M hZ w5 w6 hf hl) qa qc (g := mkF m pc Ls st) rfl hsz (Steps.refl _) (argsL := argsL) (rest := rest) hlen hst (by show 2 * 0 + _ ≤ _; rw [Nat.mul_zero, Nat.zero_add]; exact hW) hd (fun _ _ => ⟨rfl, eT, hc, hs⟩)
  dsimp only [Pt.U, Pt.locs, Pt.cells, Pt.slots] at X' q1 q2 q3 stp hQ
  subst q1 q2 q3
  exact ⟨v, T', L, X', hQ, fun t k => stp.trans k⟩
theorem callSpW {vm0 : Vm} {k0 : Nat} (X : Stand p l e R (s.setVm vm0) m args below meth c T locs cells slots) (hx : p.tables.exec = Jvm.exec) (hZ : Z.Warmed39 vm0) (hS : s.Since vm0 k0) (hk : k0 ≤ h.size) {own : String} {index : Nat} {y : MethodName} {bytes : ByteArray} {maxL : Nat} {rm : Room} {as' : Array Value} {Q : Option Value → Heap → List Loc → Prop} (M : CtrW l Z [] y bytes maxL none as' h rm Q) (eT : T.heap = h)
    (hown : vm0.findClass own = some m.cls) (hy1 : y.name = "<init>") (w1 : (Cond.methodLink own index y).before a0 Z = true) (w2 : (Cond.instanceMethod y).before a0 Z = true) (w5 : (Cond.code y bytes maxL none).before a0 Z = true) (w6 : (Cond.initialized y.cls).before a0 Z = true)
    (hy : y.cls ≠ "java/lang/invoke/MethodHandle" ∧ y.cls ≠ "java/lang/invoke/VarHandle") {pc : Nat} {Ls : Array Slot} {st : List Value} (hd : decode c.code pc = .ok (.invokespecial index, 3)) (W : Nat) (hf : rm.frames + 1 ≤ R.frames) (hl : W + (maxL + 11) + rm.locals ≤ R.locals) (hc : cells + rm.cells ≤ R.cells) (hs : slots + rm.slots ≤ R.slots)
    (hsz : Ls.size = c.maxLocals) (a : Addr) (argsL rest : List Value) (has : (.ref a :: argsL).toArray = as') (hlen : ∀ sig, parseMethodDescriptor y.desc = some sig → argsL.length = sig.parameters.length) (hst : st = argsL.reverse ++ .ref a :: rest) (hW : (rest.map fun v => v.category).sum ≤ W) :
    ∃ v T' L, Stand p l e R (s.setVm T'.vm) m args below meth c T' (locs ++ L) (cells + rm.cells) (slots + rm.slots) ∧ Q v T'.heap L ∧ s.Since T'.vm T'.heap.size ∧ Z.Warmed39 T'.vm ∧ T'.vm.findClass own = some m.cls ∧ ∀ t, Steps p.tables e below (T'.setTop (mkF m (pc + 3) Ls (v.toList ++ rest))) t → Steps p.tables e below (T.setTop (mkF m pc Ls st)) t := by
  subst has
  obtain ⟨v, _, ⟨T', L', k', n'⟩, -, X', hS', hgr, ⟨L, hQ, q1, q2, q3⟩, stp⟩ := X.specialBackS hx (y := y) hy1 hown (mvT (s := (s.setVm vm0)) hZ w1) (mvT (s := (s.setVm vm0)) hZ w2) (mvT (s := (s.setVm vm0)) hZ w5) hy (backOfS (s := (s.setVm vm0)) (W := W) M hZ w5 w6 hf hl) (g := mkF m pc Ls st) rfl hsz (Steps.refl _) (a := a) (argsL := argsL) (rest := rest) hlen hst (by show 2 * 0 + _ ≤ _; rw [Nat.mul_zero, Nat.zero_add]; exact hW) hd (fun _ _ => ⟨rfl, eT, hc, hs⟩)
  dsimp only [Pt.U, Pt.locs, Pt.cells, Pt.slots] at X' q1 q2 q3 stp hQ hS' hgr
  subst q1 q2 q3
  exact ⟨v, T', L, X', hQ, hS.trans hS' (Nat.le_trans hk (by rw [← eT]; exact hgr)), State.Warmed39.trans (t := s.setVm vm0) hZ hS'.1, by rw [hS'.1.alike.findClass]; exact hown, fun t k => stp.trans k⟩
theorem callStW {vm0 : Vm} {k0 : Nat} (X : Stand p l e R (s.setVm vm0) m args below meth c T locs cells slots) (hx : p.tables.exec = Jvm.exec) (hZ : Z.Warmed39 vm0) (hS : s.Since vm0 k0) (hk : k0 ≤ h.size) {own : String} {index : Nat} {y : MethodName} {bytes : ByteArray} {maxL : Nat} {ret : Option FieldType} {rm : Room} {as' : Array Value} {Q : Option Value → Heap → List Loc → Prop} (M : CtrW l Z [] y bytes maxL ret as' h rm Q) (eT : T.heap = h)
    (hown : vm0.findClass own = some m.cls) (w1 : (Cond.methodLink own index y).before a0 Z = true) (w2 : (Cond.static y).before a0 Z = true) (w5 : (Cond.code y bytes maxL ret).before a0 Z = true) (w6 : (Cond.initialized y.cls).before a0 Z = true)
    (hy : y.cls ≠ "java/lang/invoke/MethodHandle" ∧ y.cls ≠ "java/lang/invoke/VarHandle") {pc : Nat} {Ls : Array Slot} {st : List Value} (hd : decode c.code pc = .ok (.invokestatic index, 3)) (W : Nat) (hf : rm.frames + 1 ≤ R.frames) (hl : W + (maxL + 11) + rm.locals ≤ R.locals) (hc : cells + rm.cells ≤ R.cells) (hs : slots + rm.slots ≤ R.slots)
    (hsz : Ls.size = c.maxLocals) (argsL rest : List Value) (has : argsL.toArray = as') (hlen : ∀ sig, parseMethodDescriptor y.desc = some sig → argsL.length = sig.parameters.length) (hst : st = argsL.reverse ++ rest) (hW : (rest.map fun v => v.category).sum ≤ W) :
    ∃ v T' L, Stand p l e R (s.setVm T'.vm) m args below meth c T' (locs ++ L) (cells + rm.cells) (slots + rm.slots) ∧ Q v T'.heap L ∧ s.Since T'.vm T'.heap.size ∧ Z.Warmed39 T'.vm ∧ T'.vm.findClass own = some m.cls ∧ ∀ t, Steps p.tables e below (T'.setTop (mkF m (pc + 3) Ls (v.toList ++ rest))) t → Steps p.tables e below (T.setTop (mkF m pc Ls st)) t := by
  subst has
  obtain ⟨v, _, ⟨T', L', k', n'⟩, -, X', hS', hgr, ⟨L, hQ, q1, q2, q3⟩, stp⟩ := callSS X hx (y := y) hown (mvT (s := (s.setVm vm0)) hZ w1) (mvT (s := (s.setVm vm0)) hZ w2) (mvT (s := (s.setVm vm0)) hZ w6) (mvT (s := (s.setVm vm0)) hZ w5) hy (backOfS (s := (s.setVm vm0)) (W := W) M hZ w5 w6 hf hl) (g := mkF m pc Ls st) rfl hsz (argsL := argsL) (rest := rest) hlen hst (by show 2 * 0 + _ ≤ _; rw [Nat.mul_zero, Nat.zero_add]; exact hW) hd (fun _ _ => ⟨rfl, eT, hc, hs⟩)
  dsimp only [Pt.U, Pt.locs, Pt.cells, Pt.slots] at X' q1 q2 q3 stp hQ hS' hgr
  subst q1 q2 q3
  exact ⟨v, T', L, X', hQ, hS.trans hS' (Nat.le_trans hk (by rw [← eT]; exact hgr)), State.Warmed39.trans (t := s.setVm vm0) hZ hS'.1, by rw [hS'.1.alike.findClass]; exact hown, fun t k => stp.trans k⟩
end OwnCalls
def Olds (Z : State) (ww0 : Int32) (ww1 : Value) (mr2 : Addr) (mr3 : Addr) : Prop := Sta Z Z.heap "java/lang/String" "COMPACT_STRINGS" "Z" (.int ww0) ∧ Sta Z Z.heap "jdk/internal/util/Preconditions" "SIOOBE_FORMATTER" "Ljava/util/function/BiFunction;" ww1 ∧ MirA Z s3' mr2 ∧ MirA Z s6' mr3 ∧ ¬ (ww0 = (0 : Int32)) ∧ ww1.isRef = true
theorem d0_0 : decode jdk_79_method_36_code 0 = .ok (.aload_n 0, 1) := by decide +kernel
theorem d0_1 : decode jdk_79_method_36_code 1 = .ok (.invokeinterface 220 1, 5) := by decide +kernel
theorem wd_175 {Z : State} {a0 : Array Value} (hw : ∀ d ∈ tables_1, d.before a0 Z = true) : (Jvm.Cond.methodLink "java/util/Collections" (220 : Nat) ({ cls := "java/util/Map", name := "getClass", desc := "()Ljava/lang/Class;" } : Jvm.MethodName)).before a0 Z = true := hw _ (List.mem_of_getElem? (i := 175) rfl)
theorem wd_176 {Z : State} {a0 : Array Value} (hw : ∀ d ∈ tables_1, d.before a0 Z = true) : (Jvm.Cond.declares ({ cls := "java/lang/Object", name := "getClass", desc := "()Ljava/lang/Class;" } : Jvm.MethodName)).before a0 Z = true := hw _ (List.mem_of_getElem? (i := 176) rfl)
theorem wd_177 {Z : State} {a0 : Array Value} (hw : ∀ d ∈ tables_1, d.before a0 Z = true) : (Jvm.Cond.interfaceMethod "java/util/Map" "java/lang/Object" "getClass" "()Ljava/lang/Class;").before a0 Z = true := hw _ (List.mem_of_getElem? (i := 177) rfl)
theorem wd_178 {Z : State} {a0 : Array Value} (hw : ∀ d ∈ tables_1, d.before a0 Z = true) : (Jvm.Cond.selects s3' ({ cls := "java/util/Map", name := "getClass", desc := "()Ljava/lang/Class;" } : Jvm.MethodName) ({ cls := "java/lang/Object", name := "getClass", desc := "()Ljava/lang/Class;" } : Jvm.MethodName)).before a0 Z = true := hw _ (List.mem_of_getElem? (i := 178) rfl)
theorem wd_179 {Z : State} {a0 : Array Value} (hw : ∀ d ∈ tables_1, d.before a0 Z = true) : (Jvm.Cond.instanceMethod ({ cls := "java/lang/Object", name := "getClass", desc := "()Ljava/lang/Class;" } : Jvm.MethodName)).before a0 Z = true := hw _ (List.mem_of_getElem? (i := 179) rfl)
theorem wd_180 {Z : State} {a0 : Array Value} (hw : ∀ d ∈ tables_1, d.before a0 Z = true) : (Jvm.Cond.publicMethod ({ cls := "java/lang/Object", name := "getClass", desc := "()Ljava/lang/Class;" } : Jvm.MethodName)).before a0 Z = true := hw _ (List.mem_of_getElem? (i := 180) rfl)
theorem wd_181 {Z : State} {a0 : Array Value} (hw : ∀ d ∈ tables_1, d.before a0 Z = true) : (Jvm.Cond.unhidden s3' "getClass" "()Ljava/lang/Class;").before a0 Z = true := hw _ (List.mem_of_getElem? (i := 181) rfl)
theorem wd_182 {Z : State} {a0 : Array Value} (hw : ∀ d ∈ tables_1, d.before a0 Z = true) : (Jvm.Cond.castable s3' "java/util/Map").before a0 Z = true := hw _ (List.mem_of_getElem? (i := 182) rfl)
theorem wd_183 {Z : State} {a0 : Array Value} (hw : ∀ d ∈ tables_1, d.before a0 Z = true) : (Jvm.Cond.native ({ cls := "java/lang/Object", name := "getClass", desc := "()Ljava/lang/Class;" } : Jvm.MethodName)).before a0 Z = true := hw _ (List.mem_of_getElem? (i := 183) rfl)
theorem d0_6 : decode jdk_79_method_36_code 6 = .ok (.ldc 223, 2) := by decide +kernel
theorem wd_185 {Z : State} {a0 : Array Value} (hw : ∀ d ∈ tables_1, d.before a0 Z = true) : (Jvm.Cond.classLink "java/util/Collections" (223 : Nat) s6').before a0 Z = true := hw _ (List.mem_of_getElem? (i := 185) rfl)
theorem d0_8 : decode jdk_79_method_36_code 8 = .ok (.if_acmp .ne 5, 3) := by decide +kernel
theorem d0_11 : decode jdk_79_method_36_code 11 = .ok (.aload_n 0, 1) := by decide +kernel
theorem d0_12 : decode jdk_79_method_36_code 12 = .ok (.areturn, 1) := by decide +kernel
theorem d0_13 : decode jdk_79_method_36_code 13 = .ok (.new 223, 3) := by decide +kernel
theorem wd_187 {Z : State} {a0 : Array Value} (hw : ∀ d ∈ tables_1, d.before a0 Z = true) : (Jvm.Cond.instantiable s6' (4 : Nat)).before a0 Z = true := hw _ (List.mem_of_getElem? (i := 187) rfl)
theorem wd_188 {Z : State} {a0 : Array Value} (hw : ∀ d ∈ tables_1, d.before a0 Z = true) : (Jvm.Cond.initialized s6').before a0 Z = true := hw _ (List.mem_of_getElem? (i := 188) rfl)
theorem wd_194 {Z : State} {a0 : Array Value} (hw : ∀ d ∈ tables_1, d.before a0 Z = true) : (Jvm.Cond.laysFinal s6' s6' "m" "Ljava/util/Map;").before a0 Z = true := hw _ (List.mem_of_getElem? (i := 194) rfl)
theorem d0_16 : decode jdk_79_method_36_code 16 = .ok (.dup, 1) := by decide +kernel
theorem d0_17 : decode jdk_79_method_36_code 17 = .ok (.aload_n 0, 1) := by decide +kernel
theorem d0_18 : decode jdk_79_method_36_code 18 = .ok (.invokespecial 225, 3) := by decide +kernel
theorem wd_189 {Z : State} {a0 : Array Value} (hw : ∀ d ∈ tables_1, d.before a0 Z = true) : (Jvm.Cond.methodLink "java/util/Collections" (225 : Nat) ({ cls := s6', name := "<init>", desc := "(Ljava/util/Map;)V" } : Jvm.MethodName)).before a0 Z = true := hw _ (List.mem_of_getElem? (i := 189) rfl)
theorem d1_0 : decode jdk_2500_method_1_code 0 = .ok (.aload_n 0, 1) := by decide +kernel
theorem d1_1 : decode jdk_2500_method_1_code 1 = .ok (.invokespecial 1, 3) := by decide +kernel
theorem wd_192 {Z : State} {a0 : Array Value} (hw : ∀ d ∈ tables_1, d.before a0 Z = true) : (Jvm.Cond.methodLink s6' (1 : Nat) ({ cls := "java/lang/Object", name := "<init>", desc := "()V" } : Jvm.MethodName)).before a0 Z = true := hw _ (List.mem_of_getElem? (i := 192) rfl)
theorem wd_20 {Z : State} {a0 : Array Value} (hw : ∀ d ∈ tables_1, d.before a0 Z = true) : (Jvm.Cond.instanceMethod ({ cls := "java/lang/Object", name := "<init>", desc := "()V" } : Jvm.MethodName)).before a0 Z = true := hw _ (List.mem_of_getElem? (i := 20) rfl)
theorem wd_21 {Z : State} {a0 : Array Value} (hw : ∀ d ∈ tables_1, d.before a0 Z = true) : (Jvm.Cond.code ({ cls := "java/lang/Object", name := "<init>", desc := "()V" } : Jvm.MethodName) object_method_1_code (1 : Nat) (Option.none : Option Jvm.ClassFile.FieldType)).before a0 Z = true := hw _ (List.mem_of_getElem? (i := 21) rfl)
theorem d1_4 : decode jdk_2500_method_1_code 4 = .ok (.aload_n 1, 1) := by decide +kernel
theorem d1_5 : decode jdk_2500_method_1_code 5 = .ok (.ifnonnull 11, 3) := by decide +kernel
theorem d1_16 : decode jdk_2500_method_1_code 16 = .ok (.aload_n 0, 1) := by decide +kernel
theorem d1_17 : decode jdk_2500_method_1_code 17 = .ok (.aload_n 1, 1) := by decide +kernel
theorem d1_18 : decode jdk_2500_method_1_code 18 = .ok (.putfield 10, 3) := by decide +kernel
theorem wd_193 {Z : State} {a0 : Array Value} (hw : ∀ d ∈ tables_1, d.before a0 Z = true) : (Jvm.Cond.fieldLink s6' (10 : Nat) s6' "m" "Ljava/util/Map;").before a0 Z = true := hw _ (List.mem_of_getElem? (i := 193) rfl)
theorem d1_21 : decode jdk_2500_method_1_code 21 = .ok (.return_, 1) := by decide +kernel
theorem pn_java_util_Collections_UnmodifiableMap : plainName s6' = true := by first | (simp [plainName, overriddenIn]; done) | decide +kernel
set_option maxRecDepth 65536 in
set_option maxHeartbeats 4000000 in
theorem ef_m1_init (m : MethodId) (x1 : Addr) (x2 : Addr) : entryFrame m #[(.ref x1), (.ref x2)] 2 = mkF m 0 #[rv x1, rv x2] [] := by first | rfl | (simp [entryFrame, mkF, argsToLocals, Value.category]; done)
set_option maxRecDepth 65536 in
set_option maxHeartbeats 40000000 in
theorem m1_init (l : Launch) (Z : State) (a0 : Array Value) (hw : ∀ d ∈ tables_1, d.before a0 Z = true) (x1 : Addr) (x2 : Addr) (h0 : Heap) (n0 : Nat) (Z0 : n0 ≤ h0.size) (O0 : Old Z n0 h0) (P1 : Exa Z h0 x1 s6') (P2 : Fld Z h0 x1 s6' "m" "Ljava/util/Map;" .null) (P3 : n0 ≤ x1) :
    Ctr l Z [] (⟨s6', "<init>", "(Ljava/util/Map;)V"⟩ : MethodName) jdk_2500_method_1_code 2 none #[(.ref x1), (.ref x2)] h0 ({ frames := 1, cells := 0, slots := 0, locals := 12 } : Room) (fun v h L => v = none ∧ Fr n0 L ∧ Keep h0 h [x1] ∧ Fld Z h x1 s6' "m" "Ljava/util/Map;" (.ref x2)) := by
  refine Ctr.of (plainFor_of_name pn_java_util_Collections_UnmodifiableMap) (fun m => ef_m1_init m x1 x2) ?_
  intro p e s m below meth c T0 hx hZ hby hml hown hnm hret hlk X0 e0
  have N0 := Fr.nil n0
  show Rch p e below _ (T0.setTop (mkF m 0 #[rv x1, rv x2] []))
  refine Rch.go (fun t k => XS.aloadN X0.here hx rfl (hb hby d1_0) rfl rfl k) ?_
  show Rch p e below _ (T0.setTop (mkF m 1 #[rv x1, rv x2] [(.ref x1)]))
  obtain ⟨T1, X1, e1, st1⟩ := initO X0 hx hZ hown (wd_192 hw) (wd_20 hw) (wd_21 hw) e0 (g := (mkF m 1 #[rv x1, rv x2] [(.ref x1)])) rfl (by rw [hml]; rfl) rfl (hb hby d1_1) (by decide) (W := 0) (by show 2 * 0 + _ ≤ _; exact Nat.le_of_eq rfl) (by decide)
  refine Rch.go st1 ?_
  show Rch p e below _ (T1.setTop (mkF m 4 #[rv x1, rv x2] []))
  refine Rch.go (fun t k => XS.aloadN X1.here hx rfl (hb hby d1_4) rfl rfl k) ?_
  show Rch p e below _ (T1.setTop (mkF m 5 #[rv x1, rv x2] [(.ref x2)]))
  refine Rch.go (fun t k => XS.ifnonnullYes X1.here hx rfl (pc0 := 5) (pc' := 16) rfl (hb hby d1_5) rfl (by decide) (by decide) k) ?_
  show Rch p e below _ (T1.setTop (mkF m 16 #[rv x1, rv x2] []))
  refine Rch.go (fun t k => XS.aloadN X1.here hx rfl (hb hby d1_16) rfl rfl k) ?_
  show Rch p e below _ (T1.setTop (mkF m 17 #[rv x1, rv x2] [(.ref x1)]))
  refine Rch.go (fun t k => XS.aloadN X1.here hx rfl (hb hby d1_17) rfl rfl k) ?_
  show Rch p e below _ (T1.setTop (mkF m 18 #[rv x1, rv x2] [(.ref x2), (.ref x1)]))
  obtain ⟨T2, h2, X2, e2, W2, st2⟩ := putF X1 hx hZ hown (host := "") (Or.inl (wd_193 hw)) Via.refl e1 P2 P1 (Or.inr ⟨(wd_194 hw), rfl, hnm⟩) (wd_187 hw) (ty := (.object "java/util/Map")) (by decide) rfl rfl (g := (mkF m 18 #[rv x1, rv x2] [(.ref x2), (.ref x1)])) rfl rfl (hb hby d1_18)
  refine Rch.go st2 ?_
  have z3 : n0 ≤ h2.size := (Nat.le_trans Z0 (Nat.le_of_eq W2.size.symm))
  have o4 := O0.wr W2 P3
  have F2 := P2.same W2
  have N2 := Fr.snoc X2 N0 P3
  show Rch p e below _ (T2.setTop (mkF m 21 #[rv x1, rv x2] []))
  refine Rch.void X2 hx hret hlk (hb hby d1_21) (by decide) (by decide) ?_
  try rw [e2]
  exact ⟨rfl, N2, ((Keep.refl _ _).wr W2 (Or.inl (List.mem_of_getElem? (i := 0) rfl))), F2⟩
theorem wd_191 {Z : State} {a0 : Array Value} (hw : ∀ d ∈ tables_1, d.before a0 Z = true) : (Jvm.Cond.code ({ cls := s6', name := "<init>", desc := "(Ljava/util/Map;)V" } : Jvm.MethodName) jdk_2500_method_1_code (2 : Nat) (Option.none : Option Jvm.ClassFile.FieldType)).before a0 Z = true := hw _ (List.mem_of_getElem? (i := 191) rfl)
theorem pd_0 : parseMethodDescriptor "(Ljava/util/Map;)V" = some ⟨[(.object "java/util/Map")], none⟩ := by decide +kernel
theorem wd_190 {Z : State} {a0 : Array Value} (hw : ∀ d ∈ tables_1, d.before a0 Z = true) : (Jvm.Cond.instanceMethod ({ cls := s6', name := "<init>", desc := "(Ljava/util/Map;)V" } : Jvm.MethodName)).before a0 Z = true := hw _ (List.mem_of_getElem? (i := 190) rfl)
theorem d0_21 : decode jdk_79_method_36_code 21 = .ok (.areturn, 1) := by decide +kernel
theorem pn_java_util_Collections : plainName "java/util/Collections" = true := by first | (simp [plainName, overriddenIn]; done) | decide +kernel
set_option maxRecDepth 65536 in
set_option maxHeartbeats 4000000 in
theorem ef_umap (m : MethodId) (x1 m1 m2 : Addr) : entryFrame m #[(.ref x1)] 1 = mkF m 0 #[rv x1] [] := by first | rfl | (simp [entryFrame, mkF, argsToLocals, Value.category]; done)
set_option maxRecDepth 65536 in
set_option maxHeartbeats 40000000 in
theorem umap (l : Launch) (Z : State) (a0 : Array Value) (hw : ∀ d ∈ tables_1, d.before a0 Z = true) (x1 m1 m2 : Addr) (h0 : Heap) (n0 : Nat) (Z0 : n0 ≤ h0.size) (O0 : Old Z n0 h0) (P1 : Exa Z h0 x1 s3') (P2 : MirA Z s3' m1) (P3 : MirA Z s6' m2) :
    Ctr l Z [] (⟨"java/util/Collections", "unmodifiableMap", "(Ljava/util/Map;)Ljava/util/Map;"⟩ : MethodName) jdk_79_method_36_code 1 (some (.object "java/util/Map")) #[(.ref x1)] h0 ({ frames := 2, cells := 1, slots := 4, locals := 26 } : Room) (fun v h L => ∃ w : Value, v = some w ∧ w.isRef = true ∧ Fr n0 L ∧ Keep h0 h []) := by
  refine Ctr.of (plainFor_of_name pn_java_util_Collections) (fun m => ef_umap m x1 m1 m2) ?_
  intro p e s m below meth c T0 hx hZ hby hml hown hnm hret hlk X0 e0
  have N0 := Fr.nil n0
  show Rch p e below _ (T0.setTop (mkF m 0 #[rv x1] []))
  refine Rch.go (fun t k => XS.aloadN X0.here hx rfl (hb hby d0_0) rfl rfl k) ?_
  show Rch p e below _ (T0.setTop (mkF m 1 #[rv x1] [(.ref x1)]))
  obtain ⟨T1, X1, e1, st1⟩ := own_gclsI X0 hx hZ hown (xi := (⟨"java/util/Map", "getClass", "()Ljava/lang/Class;"⟩ : MethodName)) (wd_175 hw) (wd_176 hw) (wd_177 hw) (wd_178 hw) (wd_179 hw) (wd_180 hw) (wd_181 hw) (wd_182 hw) (wd_183 hw) (by decide) (by decide) rfl rfl e0 P1 P2 (g := (mkF m 1 #[rv x1] [(.ref x1)])) rfl (by rw [hml]; rfl) rfl (hb hby d0_1) (by decide) (W := 0) (by show 2 * 0 + _ ≤ _; exact Nat.le_of_eq rfl) (by decide)
  refine Rch.go st1 ?_
  show Rch p e below _ (T1.setTop (mkF m 6 #[rv x1] [(.ref m1)]))
  obtain ⟨T2, X2, e2, st2⟩ := own_ldcM X1 hx hZ hown (wd_185 hw) P3 e1 (g := (mkF m 6 #[rv x1] [(.ref m1)])) rfl (hb hby d0_6)
  refine Rch.go st2 ?_
  show Rch p e below _ (T2.setTop (mkF m 8 #[rv x1] [(.ref m2), (.ref m1)]))
  by_cases hm : m2 = m1
  · subst hm
    show Rch p e below _ (T2.setTop (mkF m 8 #[rv x1] [(.ref m2), (.ref m2)]))
    refine Rch.go (fun t k => acmp X2 hx (g := (mkF m 8 #[rv x1] [(.ref m2), (.ref m2)])) rfl (x := (.ref m2)) (y := (.ref m2)) rfl rfl (pc0 := 8) (pc' := 11) (same := true) rfl (hb hby d0_8) rfl (decide_eq_true rfl) (by decide) (by decide) k) ?_
    show Rch p e below _ (T2.setTop (mkF m 11 #[rv x1] []))
    refine Rch.go (fun t k => XS.aloadN X2.here hx rfl (hb hby d0_11) rfl rfl k) ?_
    show Rch p e below _ (T2.setTop (mkF m 12 #[rv x1] [(.ref x1)]))
    refine Rch.val X2 hx (t := (.object "java/util/Map")) hret hlk rfl (Or.inr (Or.inr (Or.inr (Or.inr ⟨rfl, rfl, rfl⟩)))) (hb hby d0_12) (by decide) (by decide) ?_
    try rw [e2]
    exact ⟨_, rfl, rfl, N0, (Keep.refl _ _)⟩
  · show Rch p e below _ (T2.setTop (mkF m 8 #[rv x1] [(.ref m2), (.ref m1)]))
    refine Rch.go (fun t k => acmp X2 hx (g := (mkF m 8 #[rv x1] [(.ref m2), (.ref m1)])) rfl (x := (.ref m1)) (y := (.ref m2)) rfl rfl (pc0 := 8) (pc' := 13) (same := false) rfl (hb hby d0_8) rfl (decide_eq_false (fun q => absurd (Value.ref.inj q) (Ne.symm hm))) (by decide) (by decide) k) ?_
    show Rch p e below _ (T2.setTop (mkF m 13 #[rv x1] []))
    obtain ⟨T3, h3, X3, e3, E3, A3, D3, -, st3⟩ := newO X2 hx hZ hown (wd_185 hw) (wd_187 hw) (wd_188 hw) e2 (g := (mkF m 13 #[rv x1] [])) rfl (hb hby d0_13) (by decide) (by decide)
    obtain ⟨b3, g3⟩ : ∃ z, z = h0.size := ⟨_, rfl⟩
    rw [← g3] at A3 D3 st3
    refine Rch.go st3 ?_
    have z4 : n0 ≤ h3.size := (Nat.le_trans Z0 E3.1)
    have o5 := O0.ext E3
    have g_b3 : n0 ≤ b3 := Nat.le_trans Z0 (Nat.le_of_eq g3.symm)
    have F3_m : Fld Z h3 b3 s6' "m" "Ljava/util/Map;" .null := (D3 (Or.inr (wd_194 hw)) (ty := (.object "java/util/Map")) (by decide))
    show Rch p e below _ (T3.setTop (mkF m 16 #[rv x1] [(.ref b3)]))
    refine Rch.go (fun t k => XS.dup X3.here hx rfl (hb hby d0_16) rfl rfl k) ?_
    show Rch p e below _ (T3.setTop (mkF m 17 #[rv x1] [(.ref b3), (.ref b3)]))
    refine Rch.go (fun t k => XS.aloadN X3.here hx rfl (hb hby d0_17) rfl rfl k) ?_
    show Rch p e below _ (T3.setTop (mkF m 18 #[rv x1] [(.ref x1), (.ref b3), (.ref b3)]))
    obtain ⟨v6, T6, L6, X6, Q6, st6⟩ := callSp X3 hx hZ (m1_init l Z a0 hw b3 x1 h3 n0 z4 o5 A3 F3_m g_b3) e3 hown rfl (wd_189 hw) (wd_190 hw) (wd_191 hw) (wd_188 hw) (by decide) (hb hby d0_18) 1 (by decide) (by decide) (by decide) (by decide) (by rw [hml]; rfl) b3 [(.ref x1)] [(.ref b3)] rfl (lenOf pd_0 rfl) rfl (Nat.le_of_eq rfl) (Ls := #[rv x1])
    obtain ⟨rfl, M6, K6, F6_0⟩ := Q6
    have N6 := Fr.app N0 M6
    refine Rch.go st6 ?_
    have z7 : n0 ≤ T6.heap.size := (Nat.le_trans z4 K6.1)
    have o8 := o5.keep K6 (allS g_b3 all0)
    show Rch p e below _ (T6.setTop (mkF m 21 #[rv x1] [(.ref b3)]))
    refine Rch.val X6 hx (t := (.object "java/util/Map")) hret hlk rfl (Or.inr (Or.inr (Or.inr (Or.inr ⟨rfl, rfl, rfl⟩)))) (hb hby d0_21) (by decide) (by decide) ?_
    exact ⟨_, rfl, rfl, N6, (((Keep.refl _ _).ext E3).trans K6 (allS (Or.inr (Nat.le_trans (Nat.le_refl _) (Nat.le_of_eq g3.symm))) all0))⟩
theorem own_b2 (x : Int32) : ((x ||| (2 : Int32)) &&& (2 : Int32)) = 2 := by
  apply Int32.toBitVec_inj.mp
  simp only [Int32.toBitVec_and, Int32.toBitVec_or]
  apply BitVec.eq_of_getLsbD_eq
  intro i hi
  simp only [BitVec.getLsbD_or, BitVec.getLsbD_and]
  cases (x.toBitVec.getLsbD i) <;> cases ((2 : Int32).toBitVec.getLsbD i) <;> rfl
theorem own_b3 (x : Int32) : ((x &&& (-3 : Int32)) &&& (2 : Int32)) = 0 := by
  rw [Int32.and_assoc, show ((-3 : Int32) &&& (2 : Int32)) = 0 by decide, Int32.and_zero]
theorem own_b1 (x : Int32) : (((x.toUInt32 >>> ((1 : Int32) &&& 31).toUInt32).toInt32) &&& (1 : Int32)) = (1 : Int32) ↔ ¬ (x &&& (2 : Int32)) = 0 := by
  rw [← Int32.toBitVec_inj, ← Int32.toBitVec_inj]
  show (x.toBitVec >>> (1 % 32)) &&& 1#32 = 1#32 ↔ ¬ x.toBitVec &&& 2#32 = 0#32
  generalize x.toBitVec = b
  have key : ∀ k : Nat, (k / 2) % 2 = 1 ↔ ¬ (k / 2) % 2 = 0 := fun k => by omega
  have e1 : (b >>> (1 % 32)) &&& 1#32 = 1#32 ↔ b.getLsbD 1 = true := by
    constructor
    · intro h
      have := congrArg (fun z => z.getLsbD 0) h
      simpa [BitVec.getLsbD_and, BitVec.getLsbD_ushiftRight] using this
    · intro h
      apply BitVec.eq_of_getLsbD_eq
      intro i hi
      by_cases q : i = 0
      · subst q; simp [BitVec.getLsbD_and, BitVec.getLsbD_ushiftRight, h]
      · simp [BitVec.getLsbD_and, BitVec.getLsbD_one, q]
  have e2 : b &&& 2#32 = 0#32 ↔ b.getLsbD 1 = false := by
    have h2 : ∀ i, (2#32).getLsbD i = decide (i = 1) := fun i => by
      rcases i with _ | _ | i
      · rfl
      · rfl
      · simp [BitVec.getLsbD, Nat.testBit_succ]
    constructor
    · intro h
      have := congrArg (fun z => z.getLsbD 1) h
      simpa [BitVec.getLsbD_and, h2] using this
    · intro h
      apply BitVec.eq_of_getLsbD_eq
      intro i hi
      rw [BitVec.getLsbD_and, h2]
      by_cases q : i = 1
      · subst q; rw [h]; rfl
      · simp [q]
  rw [e1, e2]
  cases b.getLsbD 1 <;> simp
theorem wd_0 {Z : State} {a0 : Array Value} (hw : ∀ d ∈ tables_1, d.before a0 Z = true) : (Jvm.Cond.methodLink s8' (15 : Nat) ({ cls := "java/lang/String", name := "valueOf", desc := "(C)Ljava/lang/String;" } : Jvm.MethodName)).before a0 Z = true := hw _ (List.mem_of_getElem? (i := 0) rfl)
theorem d2_0 : decode jdk_42_method_139_code 0 = .ok (.getstatic 38, 3) := by decide +kernel
theorem wd_4 {Z : State} {a0 : Array Value} (hw : ∀ d ∈ tables_1, d.before a0 Z = true) : (Jvm.Cond.fieldLink "java/lang/String" (38 : Nat) "java/lang/String" "COMPACT_STRINGS" "Z").before a0 Z = true := hw _ (List.mem_of_getElem? (i := 4) rfl)
theorem d2_3 : decode jdk_42_method_139_code 3 = .ok (.ifCond .eq 23, 3) := by decide +kernel
theorem d2_6 : decode jdk_42_method_139_code 6 = .ok (.iload_n 0, 1) := by decide +kernel
theorem d2_7 : decode jdk_42_method_139_code 7 = .ok (.invokestatic 1015, 3) := by decide +kernel
theorem wd_5 {Z : State} {a0 : Array Value} (hw : ∀ d ∈ tables_1, d.before a0 Z = true) : (Jvm.Cond.methodLink "java/lang/String" (1015 : Nat) ({ cls := "java/lang/StringLatin1", name := "canEncode", desc := "(C)Z" } : Jvm.MethodName)).before a0 Z = true := hw _ (List.mem_of_getElem? (i := 5) rfl)
theorem d3_0 : decode jdk_43_method_3_code 0 = .ok (.iload_n 0, 1) := by decide +kernel
theorem d3_1 : decode jdk_43_method_3_code 1 = .ok (.sipush 255, 3) := by decide +kernel
theorem d3_4 : decode jdk_43_method_3_code 4 = .ok (.if_icmp .gt 7, 3) := by decide +kernel
theorem d3_7 : decode jdk_43_method_3_code 7 = .ok (.iconst 1, 1) := by decide +kernel
theorem d3_8 : decode jdk_43_method_3_code 8 = .ok (.goto 4, 3) := by decide +kernel
theorem d3_12 : decode jdk_43_method_3_code 12 = .ok (.ireturn, 1) := by decide +kernel
theorem pn_java_lang_StringLatin1 : plainName "java/lang/StringLatin1" = true := by first | (simp [plainName, overriddenIn]; done) | decide +kernel
set_option maxRecDepth 65536 in
set_option maxHeartbeats 4000000 in
theorem ef_m3_canEncode (m : MethodId) (y1 : Int32) : entryFrame m #[(.int y1)] 1 = mkF m 0 #[iv y1] [] := by first | rfl | (simp [entryFrame, mkF, argsToLocals, Value.category]; done)
set_option maxRecDepth 65536 in
set_option maxHeartbeats 40000000 in
theorem m3_canEncode (l : Launch) (Z : State) (a0 : Array Value) (hw : ∀ d ∈ tables_1, d.before a0 Z = true) (y1 : Int32) (h0 : Heap) (n0 : Nat) (Z0 : n0 ≤ h0.size) (O0 : Old Z n0 h0) (P1 : ¬ ((255 : Int32) < y1)) :
    Ctr l Z [] (⟨"java/lang/StringLatin1", "canEncode", "(C)Z"⟩ : MethodName) jdk_43_method_3_code 1 (some .boolean) #[(.int y1)] h0 ({ frames := 0, cells := 0, slots := 0, locals := 0 } : Room) (fun v h L => v = some (.int (1 : Int32)) ∧ Fr n0 L ∧ h = h0) := by
  refine Ctr.of (plainFor_of_name pn_java_lang_StringLatin1) (fun m => ef_m3_canEncode m y1) ?_
  intro p e s m below meth c T0 hx hZ hby hml hown hnm hret hlk X0 e0
  have N0 := Fr.nil n0
  show Rch p e below _ (T0.setTop (mkF m 0 #[iv y1] []))
  refine Rch.go (fun t k => XS.iloadN X0.here hx rfl (hb hby d3_0) rfl  k) ?_
  show Rch p e below _ (T0.setTop (mkF m 1 #[iv y1] [(.int y1)]))
  refine Rch.go (fun t k => XS.sipush X0.here hx rfl (hb hby d3_1) k) ?_
  show Rch p e below _ (T0.setTop (mkF m 4 #[iv y1] [(.int (255 : Int32)), (.int y1)]))
  refine Rch.go (fun t k => XS.icmpNo X0.here hx rfl (hb hby d3_4) rfl (XT.ii_gt_f P1) k) ?_
  show Rch p e below _ (T0.setTop (mkF m 7 #[iv y1] []))
  refine Rch.go (fun t k => XS.iconst X0.here hx rfl (hb hby d3_7) k) ?_
  show Rch p e below _ (T0.setTop (mkF m 8 #[iv y1] [(.int (1 : Int32))]))
  refine Rch.go (fun t k => XS.goto X0.here hx rfl (pc0 := 8) (pc' := 12) rfl (hb hby d3_8) (by decide) (by decide) k) ?_
  show Rch p e below _ (T0.setTop (mkF m 12 #[iv y1] [(.int (1 : Int32))]))
  refine Rch.val X0 hx (t := .boolean) hret hlk rfl (mayI (by simp)) (hb hby d3_12) (by decide) (by decide) ?_
  try rw [e0]
  exact ⟨rfl, N0, rfl⟩
theorem wd_8 {Z : State} {a0 : Array Value} (hw : ∀ d ∈ tables_1, d.before a0 Z = true) : (Jvm.Cond.code ({ cls := "java/lang/StringLatin1", name := "canEncode", desc := "(C)Z" } : Jvm.MethodName) jdk_43_method_3_code (1 : Nat) (Option.some Jvm.ClassFile.FieldType.boolean)).before a0 Z = true := hw _ (List.mem_of_getElem? (i := 8) rfl)
theorem wd_7 {Z : State} {a0 : Array Value} (hw : ∀ d ∈ tables_1, d.before a0 Z = true) : (Jvm.Cond.initialized "java/lang/StringLatin1").before a0 Z = true := hw _ (List.mem_of_getElem? (i := 7) rfl)
theorem pd_1 : parseMethodDescriptor "(C)Z" = some ⟨[.char], some .boolean⟩ := by decide +kernel
theorem wd_6 {Z : State} {a0 : Array Value} (hw : ∀ d ∈ tables_1, d.before a0 Z = true) : (Jvm.Cond.static ({ cls := "java/lang/StringLatin1", name := "canEncode", desc := "(C)Z" } : Jvm.MethodName)).before a0 Z = true := hw _ (List.mem_of_getElem? (i := 6) rfl)
theorem d2_10 : decode jdk_42_method_139_code 10 = .ok (.ifCond .eq 16, 3) := by decide +kernel
theorem d2_13 : decode jdk_42_method_139_code 13 = .ok (.new 10, 3) := by decide +kernel
theorem wd_9 {Z : State} {a0 : Array Value} (hw : ∀ d ∈ tables_1, d.before a0 Z = true) : (Jvm.Cond.classLink "java/lang/String" (10 : Nat) "java/lang/String").before a0 Z = true := hw _ (List.mem_of_getElem? (i := 9) rfl)
theorem wd_10 {Z : State} {a0 : Array Value} (hw : ∀ d ∈ tables_1, d.before a0 Z = true) : (Jvm.Cond.instantiable "java/lang/String" (4 : Nat)).before a0 Z = true := hw _ (List.mem_of_getElem? (i := 10) rfl)
theorem wd_2 {Z : State} {a0 : Array Value} (hw : ∀ d ∈ tables_1, d.before a0 Z = true) : (Jvm.Cond.initialized "java/lang/String").before a0 Z = true := hw _ (List.mem_of_getElem? (i := 2) rfl)
theorem wd_23 {Z : State} {a0 : Array Value} (hw : ∀ d ∈ tables_1, d.before a0 Z = true) : (Jvm.Cond.laysFinal "java/lang/String" "java/lang/String" "value" "[B").before a0 Z = true := hw _ (List.mem_of_getElem? (i := 23) rfl)
theorem wd_25 {Z : State} {a0 : Array Value} (hw : ∀ d ∈ tables_1, d.before a0 Z = true) : (Jvm.Cond.laysFinal "java/lang/String" "java/lang/String" "coder" "B").before a0 Z = true := hw _ (List.mem_of_getElem? (i := 25) rfl)
theorem d2_16 : decode jdk_42_method_139_code 16 = .ok (.dup, 1) := by decide +kernel
theorem d2_17 : decode jdk_42_method_139_code 17 = .ok (.iload_n 0, 1) := by decide +kernel
theorem d2_18 : decode jdk_42_method_139_code 18 = .ok (.invokestatic 1018, 3) := by decide +kernel
theorem wd_11 {Z : State} {a0 : Array Value} (hw : ∀ d ∈ tables_1, d.before a0 Z = true) : (Jvm.Cond.methodLink "java/lang/String" (1018 : Nat) ({ cls := "java/lang/StringLatin1", name := "toBytes", desc := "(C)[B" } : Jvm.MethodName)).before a0 Z = true := hw _ (List.mem_of_getElem? (i := 11) rfl)
theorem d4_0 : decode jdk_43_method_46_code 0 = .ok (.iconst 1, 1) := by decide +kernel
theorem d4_1 : decode jdk_43_method_46_code 1 = .ok (.newarray .byte, 2) := by decide +kernel
theorem wd_14 {Z : State} {a0 : Array Value} (hw : ∀ d ∈ tables_1, d.before a0 Z = true) : (Jvm.Cond.arrayClass Jvm.ClassFile.FieldType.byte).before a0 Z = true := hw _ (List.mem_of_getElem? (i := 14) rfl)
theorem d4_3 : decode jdk_43_method_46_code 3 = .ok (.dup, 1) := by decide +kernel
theorem d4_4 : decode jdk_43_method_46_code 4 = .ok (.iconst 0, 1) := by decide +kernel
theorem d4_5 : decode jdk_43_method_46_code 5 = .ok (.iload_n 0, 1) := by decide +kernel
theorem d4_6 : decode jdk_43_method_46_code 6 = .ok (.i2b, 1) := by decide +kernel
theorem d4_7 : decode jdk_43_method_46_code 7 = .ok (.bastore, 1) := by decide +kernel
theorem d4_8 : decode jdk_43_method_46_code 8 = .ok (.areturn, 1) := by decide +kernel
set_option maxRecDepth 65536 in
set_option maxHeartbeats 4000000 in
theorem ef_m4_toBytes (m : MethodId) (y1 : Int32) : entryFrame m #[(.int y1)] 1 = mkF m 0 #[iv y1] [] := by first | rfl | (simp [entryFrame, mkF, argsToLocals, Value.category]; done)
set_option maxRecDepth 65536 in
set_option maxHeartbeats 40000000 in
theorem m4_toBytes (l : Launch) (Z : State) (a0 : Array Value) (hw : ∀ d ∈ tables_1, d.before a0 Z = true) (y1 : Int32) (h0 : Heap) (n0 : Nat) (Z0 : n0 ≤ h0.size) (O0 : Old Z n0 h0) :
    Ctr l Z [] (⟨"java/lang/StringLatin1", "toBytes", "(C)[B"⟩ : MethodName) jdk_43_method_46_code 1 (some (.array .byte)) #[(.int y1)] h0 ({ frames := 0, cells := 1, slots := 1, locals := 0 } : Room) (fun v h L => ∃ (b1 : Addr) (k1 : ClassId), v = some (.ref b1) ∧ Fr n0 L ∧ Keep h0 h [] ∧ h0.size ≤ b1 ∧ Exa Z h b1 "[B" ∧ Arv Z h b1 k1 .byte (1 : Int32) [(.int (nar .byte (y1.toInt8.toInt32)))] (.int (0 : Int32))) := by
  refine Ctr.of (plainFor_of_name pn_java_lang_StringLatin1) (fun m => ef_m4_toBytes m y1) ?_
  intro p e s m below meth c T0 hx hZ hby hml hown hnm hret hlk X0 e0
  have N0 := Fr.nil n0
  show Rch p e below _ (T0.setTop (mkF m 0 #[iv y1] []))
  refine Rch.go (fun t k => XS.iconst X0.here hx rfl (hb hby d4_0) k) ?_
  show Rch p e below _ (T0.setTop (mkF m 1 #[iv y1] [(.int (1 : Int32))]))
  obtain ⟨T1, h1, k1, X1, e1, E1, A1, B1, st1⟩ := newPE (aty := .byte) X0 hx hZ (wd_14 hw) e0 (g := (mkF m 1 #[iv y1] [(.int (1 : Int32))])) rfl (hb hby d4_1) rfl (by decide) (cap := 1) (by decide) (by decide) (by decide) (by decide) (ad := "[B") (by decide +kernel)
  obtain ⟨b1, g1⟩ : ∃ z, z = h0.size := ⟨_, rfl⟩
  rw [← g1] at A1 B1 st1
  refine Rch.go st1 ?_
  have z2 : n0 ≤ h1.size := (Nat.le_trans Z0 E1.1)
  have o3 := O0.ext E1
  have g_b1 : n0 ≤ b1 := Nat.le_trans Z0 (Nat.le_of_eq g1.symm)
  have V1 : Arv Z h1 b1 k1 .byte (1 : Int32) [(.int (0 : Int32))] (.int (0 : Int32)) := (Arv.new A1 (by decide)).pad (pad_rep [] (.int (0 : Int32)) 1)
  show Rch p e below _ (T1.setTop (mkF m 3 #[iv y1] [(.ref b1)]))
  refine Rch.go (fun t k => XS.dup X1.here hx rfl (hb hby d4_3) rfl rfl k) ?_
  show Rch p e below _ (T1.setTop (mkF m 4 #[iv y1] [(.ref b1), (.ref b1)]))
  refine Rch.go (fun t k => XS.iconst X1.here hx rfl (hb hby d4_4) k) ?_
  show Rch p e below _ (T1.setTop (mkF m 5 #[iv y1] [(.int (0 : Int32)), (.ref b1), (.ref b1)]))
  refine Rch.go (fun t k => XS.iloadN X1.here hx rfl (hb hby d4_5) rfl  k) ?_
  show Rch p e below _ (T1.setTop (mkF m 6 #[iv y1] [(.int y1), (.int (0 : Int32)), (.ref b1), (.ref b1)]))
  refine Rch.go (fun t k => XS.i2b X1.here hx rfl (hb hby d4_6) rfl k) ?_
  show Rch p e below _ (T1.setTop (mkF m 7 #[iv y1] [(.int (y1.toInt8.toInt32)), (.int (0 : Int32)), (.ref b1), (.ref b1)]))
  obtain ⟨c4, r4, q4, s4, u4, H4, G4⟩ := id V1
  obtain ⟨T5, h5, X5, e5, W5, st5⟩ := stB X1 hx hZ e1 r4 (j := (0 : Int32)) (inb_of s4 (by decide)) (g := (mkF m 7 #[iv y1] [(.int (y1.toInt8.toInt32)), (.int (0 : Int32)), (.ref b1), (.ref b1)])) rfl rfl (hb hby d4_7)
  refine Rch.go st5 ?_
  have V5 : Arv Z h5 b1 k1 .byte (1 : Int32) [(.int (nar .byte (y1.toInt8.toInt32)))] (.int (0 : Int32)) := Arv.set r4 q4 s4 u4 H4 G4 (fits_nar_byte _) W5 0 rfl (Nat.le_of_ble_eq_true rfl)
  have z6 : n0 ≤ h5.size := (Nat.le_trans z2 (Nat.le_of_eq W5.size.symm))
  have o7 := o3.wr W5 g_b1
  have N5 := Fr.snoc X5 N0 g_b1
  show Rch p e below _ (T5.setTop (mkF m 8 #[iv y1] [(.ref b1)]))
  have f8 := (B1.wr W5)
  refine Rch.val X5 hx (t := (.array .byte)) hret hlk rfl (Or.inr (Or.inr (Or.inr (Or.inr ⟨rfl, rfl, rfl⟩)))) (hb hby d4_8) (by decide) (by decide) ?_
  try rw [e5]
  exact ⟨b1, k1, rfl, N5, (((Keep.refl _ _).ext E1).wr W5 (Or.inr (Nat.le_trans (Nat.le_refl _) (Nat.le_of_eq g1.symm)))), (Nat.le_trans (Nat.le_refl _) (Nat.le_of_eq g1.symm)), f8, V5⟩
theorem wd_13 {Z : State} {a0 : Array Value} (hw : ∀ d ∈ tables_1, d.before a0 Z = true) : (Jvm.Cond.code ({ cls := "java/lang/StringLatin1", name := "toBytes", desc := "(C)[B" } : Jvm.MethodName) jdk_43_method_46_code (1 : Nat) (Option.some (Jvm.ClassFile.FieldType.array Jvm.ClassFile.FieldType.byte))).before a0 Z = true := hw _ (List.mem_of_getElem? (i := 13) rfl)
theorem pd_2 : parseMethodDescriptor "(C)[B" = some ⟨[.char], some (.array .byte)⟩ := by decide +kernel
theorem wd_12 {Z : State} {a0 : Array Value} (hw : ∀ d ∈ tables_1, d.before a0 Z = true) : (Jvm.Cond.static ({ cls := "java/lang/StringLatin1", name := "toBytes", desc := "(C)[B" } : Jvm.MethodName)).before a0 Z = true := hw _ (List.mem_of_getElem? (i := 12) rfl)
theorem d2_21 : decode jdk_42_method_139_code 21 = .ok (.iconst 0, 1) := by decide +kernel
theorem d2_22 : decode jdk_42_method_139_code 22 = .ok (.invokespecial 209, 3) := by decide +kernel
theorem wd_15 {Z : State} {a0 : Array Value} (hw : ∀ d ∈ tables_1, d.before a0 Z = true) : (Jvm.Cond.methodLink "java/lang/String" (209 : Nat) ({ cls := "java/lang/String", name := "<init>", desc := "([BB)V" } : Jvm.MethodName)).before a0 Z = true := hw _ (List.mem_of_getElem? (i := 15) rfl)
theorem d5_0 : decode jdk_42_method_151_code 0 = .ok (.aload_n 0, 1) := by decide +kernel
theorem d5_1 : decode jdk_42_method_151_code 1 = .ok (.invokespecial 1, 3) := by decide +kernel
theorem wd_19 {Z : State} {a0 : Array Value} (hw : ∀ d ∈ tables_1, d.before a0 Z = true) : (Jvm.Cond.methodLink "java/lang/String" (1 : Nat) ({ cls := "java/lang/Object", name := "<init>", desc := "()V" } : Jvm.MethodName)).before a0 Z = true := hw _ (List.mem_of_getElem? (i := 19) rfl)
theorem d5_4 : decode jdk_42_method_151_code 4 = .ok (.aload_n 0, 1) := by decide +kernel
theorem d5_5 : decode jdk_42_method_151_code 5 = .ok (.aload_n 1, 1) := by decide +kernel
theorem d5_6 : decode jdk_42_method_151_code 6 = .ok (.putfield 9, 3) := by decide +kernel
theorem wd_22 {Z : State} {a0 : Array Value} (hw : ∀ d ∈ tables_1, d.before a0 Z = true) : (Jvm.Cond.fieldLink "java/lang/String" (9 : Nat) "java/lang/String" "value" "[B").before a0 Z = true := hw _ (List.mem_of_getElem? (i := 22) rfl)
theorem d5_9 : decode jdk_42_method_151_code 9 = .ok (.aload_n 0, 1) := by decide +kernel
theorem d5_10 : decode jdk_42_method_151_code 10 = .ok (.iload_n 2, 1) := by decide +kernel
theorem d5_11 : decode jdk_42_method_151_code 11 = .ok (.putfield 15, 3) := by decide +kernel
theorem wd_24 {Z : State} {a0 : Array Value} (hw : ∀ d ∈ tables_1, d.before a0 Z = true) : (Jvm.Cond.fieldLink "java/lang/String" (15 : Nat) "java/lang/String" "coder" "B").before a0 Z = true := hw _ (List.mem_of_getElem? (i := 24) rfl)
theorem d5_14 : decode jdk_42_method_151_code 14 = .ok (.return_, 1) := by decide +kernel
theorem pn_java_lang_String : plainName "java/lang/String" = true := by first | (simp [plainName, overriddenIn]; done) | decide +kernel
set_option maxRecDepth 65536 in
set_option maxHeartbeats 4000000 in
theorem ef_m5_init (m : MethodId) (x1 : Addr) (x2 : Addr) : entryFrame m #[(.ref x1), (.ref x2), (.int (0 : Int32))] 3 = mkF m 0 #[rv x1, rv x2, .val (.int (0 : Int32))] [] := by first | rfl | (simp [entryFrame, mkF, argsToLocals, Value.category]; done)
set_option maxRecDepth 65536 in
set_option maxHeartbeats 40000000 in
theorem m5_init (l : Launch) (Z : State) (a0 : Array Value) (hw : ∀ d ∈ tables_1, d.before a0 Z = true) (x1 : Addr) (x2 : Addr) (h0 : Heap) (n0 : Nat) (Z0 : n0 ≤ h0.size) (O0 : Old Z n0 h0) (P1 : Exa Z h0 x1 "java/lang/String") (P2 : Fld Z h0 x1 "java/lang/String" "value" "[B" .null) (P3 : n0 ≤ x1) (P4 : Fld Z h0 x1 "java/lang/String" "coder" "B" (.int (0 : Int32))) :
    Ctr l Z [] (⟨"java/lang/String", "<init>", "([BB)V"⟩ : MethodName) jdk_42_method_151_code 3 none #[(.ref x1), (.ref x2), (.int (0 : Int32))] h0 ({ frames := 1, cells := 0, slots := 0, locals := 12 } : Room) (fun v h L => v = none ∧ Fr n0 L ∧ Keep h0 h [x1] ∧ Fld Z h x1 "java/lang/String" "value" "[B" (.ref x2) ∧ Fld Z h x1 "java/lang/String" "coder" "B" (.int (0 : Int32))) := by
  refine Ctr.of (plainFor_of_name pn_java_lang_String) (fun m => ef_m5_init m x1 x2) ?_
  intro p e s m below meth c T0 hx hZ hby hml hown hnm hret hlk X0 e0
  have N0 := Fr.nil n0
  show Rch p e below _ (T0.setTop (mkF m 0 #[rv x1, rv x2, .val (.int (0 : Int32))] []))
  refine Rch.go (fun t k => XS.aloadN X0.here hx rfl (hb hby d5_0) rfl rfl k) ?_
  show Rch p e below _ (T0.setTop (mkF m 1 #[rv x1, rv x2, .val (.int (0 : Int32))] [(.ref x1)]))
  obtain ⟨T1, X1, e1, st1⟩ := initO X0 hx hZ hown (wd_19 hw) (wd_20 hw) (wd_21 hw) e0 (g := (mkF m 1 #[rv x1, rv x2, .val (.int (0 : Int32))] [(.ref x1)])) rfl (by rw [hml]; rfl) rfl (hb hby d5_1) (by decide) (W := 0) (by show 2 * 0 + _ ≤ _; exact Nat.le_of_eq rfl) (by decide)
  refine Rch.go st1 ?_
  show Rch p e below _ (T1.setTop (mkF m 4 #[rv x1, rv x2, .val (.int (0 : Int32))] []))
  refine Rch.go (fun t k => XS.aloadN X1.here hx rfl (hb hby d5_4) rfl rfl k) ?_
  show Rch p e below _ (T1.setTop (mkF m 5 #[rv x1, rv x2, .val (.int (0 : Int32))] [(.ref x1)]))
  refine Rch.go (fun t k => XS.aloadN X1.here hx rfl (hb hby d5_5) rfl rfl k) ?_
  show Rch p e below _ (T1.setTop (mkF m 6 #[rv x1, rv x2, .val (.int (0 : Int32))] [(.ref x2), (.ref x1)]))
  obtain ⟨T2, h2, X2, e2, W2, st2⟩ := putF X1 hx hZ hown (host := "") (Or.inl (wd_22 hw)) Via.refl e1 P2 P1 (Or.inr ⟨(wd_23 hw), rfl, hnm⟩) (wd_10 hw) (ty := (.array .byte)) (by decide) rfl rfl (g := (mkF m 6 #[rv x1, rv x2, .val (.int (0 : Int32))] [(.ref x2), (.ref x1)])) rfl rfl (hb hby d5_6)
  refine Rch.go st2 ?_
  have z3 : n0 ≤ h2.size := (Nat.le_trans Z0 (Nat.le_of_eq W2.size.symm))
  have o4 := O0.wr W2 P3
  have F2 := P2.same W2
  have N2 := Fr.snoc X2 N0 P3
  show Rch p e below _ (T2.setTop (mkF m 9 #[rv x1, rv x2, .val (.int (0 : Int32))] []))
  refine Rch.go (fun t k => XS.aloadN X2.here hx rfl (hb hby d5_9) rfl rfl k) ?_
  show Rch p e below _ (T2.setTop (mkF m 10 #[rv x1, rv x2, .val (.int (0 : Int32))] [(.ref x1)]))
  refine Rch.go (fun t k => XS.iloadN X2.here hx rfl (hb hby d5_10) rfl  k) ?_
  show Rch p e below _ (T2.setTop (mkF m 11 #[rv x1, rv x2, .val (.int (0 : Int32))] [(.int (0 : Int32)), (.ref x1)]))
  have f6 := (P4.other W2 (Or.inr (slot_ne (Or.inr (wd_25 hw)) (Or.inr (wd_23 hw)) (by decide) (t := .byte) (t' := (.array .byte)) (by decide) (by decide))))
  have f7 := (P1.wr W2)
  obtain ⟨T5, h5, X5, e5, W5, st5⟩ := putFN X2 hx hZ hown (wd_24 hw) Via.refl e2 f6 f7 (Or.inr ⟨(wd_25 hw), rfl, hnm⟩) (wd_10 hw) (ty := .byte) (v' := (.int (0 : Int32))) (by decide) rfl rfl (g := (mkF m 11 #[rv x1, rv x2, .val (.int (0 : Int32))] [(.int (0 : Int32)), (.ref x1)])) rfl rfl (hb hby d5_11)
  refine Rch.go st5 ?_
  have z8 : n0 ≤ h5.size := (Nat.le_trans z3 (Nat.le_of_eq W5.size.symm))
  have o9 := o4.wr W5 P3
  have F5 := f6.same W5
  have N5 := Fr.snoc X5 N2 P3
  show Rch p e below _ (T5.setTop (mkF m 14 #[rv x1, rv x2, .val (.int (0 : Int32))] []))
  have f10 := (F2.other W5 (Or.inr (slot_ne (Or.inr (wd_23 hw)) (Or.inr (wd_25 hw)) (by decide) (t := (.array .byte)) (t' := .byte) (by decide) (by decide))))
  refine Rch.void X5 hx hret hlk (hb hby d5_14) (by decide) (by decide) ?_
  try rw [e5]
  exact ⟨rfl, N5, (((Keep.refl _ _).wr W2 (Or.inl (List.mem_of_getElem? (i := 0) rfl))).wr W5 (Or.inl (List.mem_of_getElem? (i := 0) rfl))), f10, F5⟩
theorem wd_18 {Z : State} {a0 : Array Value} (hw : ∀ d ∈ tables_1, d.before a0 Z = true) : (Jvm.Cond.code ({ cls := "java/lang/String", name := "<init>", desc := "([BB)V" } : Jvm.MethodName) jdk_42_method_151_code (3 : Nat) (Option.none : Option Jvm.ClassFile.FieldType)).before a0 Z = true := hw _ (List.mem_of_getElem? (i := 18) rfl)
theorem pd_3 : parseMethodDescriptor "([BB)V" = some ⟨[(.array .byte), .byte], none⟩ := by decide +kernel
theorem wd_16 {Z : State} {a0 : Array Value} (hw : ∀ d ∈ tables_1, d.before a0 Z = true) : (Jvm.Cond.instanceMethod ({ cls := "java/lang/String", name := "<init>", desc := "([BB)V" } : Jvm.MethodName)).before a0 Z = true := hw _ (List.mem_of_getElem? (i := 16) rfl)
theorem d2_25 : decode jdk_42_method_139_code 25 = .ok (.areturn, 1) := by decide +kernel
set_option maxRecDepth 65536 in
set_option maxHeartbeats 4000000 in
theorem ef_m2_valueOf (m : MethodId) (y1 : Int32) (y2 : Int32) : entryFrame m #[(.int y1)] 1 = mkF m 0 #[iv y1] [] := by first | rfl | (simp [entryFrame, mkF, argsToLocals, Value.category]; done)
set_option maxRecDepth 65536 in
set_option maxHeartbeats 40000000 in
theorem m2_valueOf (l : Launch) (Z : State) (a0 : Array Value) (hw : ∀ d ∈ tables_1, d.before a0 Z = true) (y1 : Int32) (y2 : Int32) (h0 : Heap) (n0 : Nat) (Z0 : n0 ≤ h0.size) (O0 : Old Z n0 h0) (P1 : Sta Z Z.heap "java/lang/String" "COMPACT_STRINGS" "Z" (.int y2)) (P2 : ¬ (y2 = (0 : Int32))) (P3 : ¬ ((255 : Int32) < y1)) :
    Ctr l Z [] (⟨"java/lang/String", "valueOf", "(C)Ljava/lang/String;"⟩ : MethodName) jdk_42_method_139_code 1 (some (.object "java/lang/String")) #[(.int y1)] h0 ({ frames := 2, cells := 2, slots := 5, locals := 27 } : Room) (fun v h L => ∃ (b3 : Addr) (b6_0 : Addr) (k6_0 : ClassId), v = some (.ref b3) ∧ Fr n0 L ∧ Keep h0 h [] ∧ h0.size ≤ b3 ∧ h0.size ≤ b6_0 ∧ Exa Z h b3 "java/lang/String" ∧ Exa Z h b6_0 "[B" ∧ Arv Z h b6_0 k6_0 .byte (1 : Int32) [(.int (nar .byte (y1.toInt8.toInt32)))] (.int (0 : Int32)) ∧ Fld Z h b3 "java/lang/String" "value" "[B" (.ref b6_0) ∧ Fld Z h b3 "java/lang/String" "coder" "B" (.int (0 : Int32))) := by
  refine Ctr.of (plainFor_of_name pn_java_lang_String) (fun m => ef_m2_valueOf m y1 y2) ?_
  intro p e s m below meth c T0 hx hZ hby hml hown hnm hret hlk X0 e0
  have N0 := Fr.nil n0
  show Rch p e below _ (T0.setTop (mkF m 0 #[iv y1] []))
  obtain ⟨T1, X1, e1, st1⟩ := getS2 X0 hx hZ hown (host := "") (Or.inl (wd_4 hw)) Via.refl e0 (P1.ext O0.2) (g := (mkF m 0 #[iv y1] [])) rfl (hb hby d2_0)
  refine Rch.go st1 ?_
  show Rch p e below _ (T1.setTop (mkF m 3 #[iv y1] [(.int y2)]))
  refine Rch.go (fun t k => XS.ifNo X1.here hx rfl (hb hby d2_3) rfl (XT.i0_eq_f P2) k) ?_
  show Rch p e below _ (T1.setTop (mkF m 6 #[iv y1] []))
  refine Rch.go (fun t k => XS.iloadN X1.here hx rfl (hb hby d2_6) rfl  k) ?_
  show Rch p e below _ (T1.setTop (mkF m 7 #[iv y1] [(.int y1)]))
  obtain ⟨v2, T2, L2, X2, Q2, st2⟩ := callSt X1 hx hZ (m3_canEncode l Z a0 hw y1 h0 n0 Z0 O0 P3) e1 hown (wd_5 hw) (wd_6 hw) (wd_8 hw) (wd_7 hw) (by decide) (hb hby d2_7) 0 (by decide) (by decide) (by decide) (by decide) (by rw [hml]; rfl) [(.int y1)] [] rfl (lenOf pd_1 rfl) rfl (Nat.le_of_eq rfl) (Ls := #[iv y1])
  obtain ⟨rfl, M2, e2⟩ := Q2
  have N2 := Fr.app N0 M2
  refine Rch.go st2 ?_
  show Rch p e below _ (T2.setTop (mkF m 10 #[iv y1] [(.int (1 : Int32))]))
  refine Rch.go (fun t k => XS.ifNo X2.here hx rfl (hb hby d2_10) rfl (by decide) k) ?_
  show Rch p e below _ (T2.setTop (mkF m 13 #[iv y1] []))
  obtain ⟨T3, h3, X3, e3, E3, A3, D3, -, st3⟩ := newO X2 hx hZ hown (wd_9 hw) (wd_10 hw) (wd_2 hw) e2 (g := (mkF m 13 #[iv y1] [])) rfl (hb hby d2_13) (by decide) (by decide)
  obtain ⟨b3, g3⟩ : ∃ z, z = h0.size := ⟨_, rfl⟩
  rw [← g3] at A3 D3 st3
  refine Rch.go st3 ?_
  have z4 : n0 ≤ h3.size := (Nat.le_trans Z0 E3.1)
  have o5 := O0.ext E3
  have g_b3 : n0 ≤ b3 := Nat.le_trans Z0 (Nat.le_of_eq g3.symm)
  have F3_value : Fld Z h3 b3 "java/lang/String" "value" "[B" .null := (D3 (Or.inr (wd_23 hw)) (ty := (.array .byte)) (by decide))
  have F3_coder : Fld Z h3 b3 "java/lang/String" "coder" "B" (.int (0 : Int32)) := (D3 (Or.inr (wd_25 hw)) (ty := .byte) (by decide))
  show Rch p e below _ (T3.setTop (mkF m 16 #[iv y1] [(.ref b3)]))
  refine Rch.go (fun t k => XS.dup X3.here hx rfl (hb hby d2_16) rfl rfl k) ?_
  show Rch p e below _ (T3.setTop (mkF m 17 #[iv y1] [(.ref b3), (.ref b3)]))
  refine Rch.go (fun t k => XS.iloadN X3.here hx rfl (hb hby d2_17) rfl  k) ?_
  show Rch p e below _ (T3.setTop (mkF m 18 #[iv y1] [(.int y1), (.ref b3), (.ref b3)]))
  obtain ⟨v6, T6, L6, X6, Q6, st6⟩ := callSt X3 hx hZ (m4_toBytes l Z a0 hw y1 h3 n0 z4 o5 ) e3 hown (wd_11 hw) (wd_12 hw) (wd_13 hw) (wd_7 hw) (by decide) (hb hby d2_18) 2 (by decide) (by decide) (by decide) (by decide) (by rw [hml]; rfl) [(.int y1)] [(.ref b3), (.ref b3)] rfl (lenOf pd_2 rfl) rfl (Nat.le_of_eq rfl) (Ls := #[iv y1])
  obtain ⟨b6_0, k6_0, rfl, M6, K6, zz6_0, F6_0, F6_1⟩ := Q6
  have N6 := Fr.app N2 M6
  refine Rch.go st6 ?_
  have z7 : n0 ≤ T6.heap.size := (Nat.le_trans z4 K6.1)
  have o8 := o5.keep K6 all0
  have g_b6_0 : n0 ≤ b6_0 := Nat.le_trans z4 zz6_0
  show Rch p e below _ (T6.setTop (mkF m 21 #[iv y1] [(.ref b6_0), (.ref b3), (.ref b3)]))
  refine Rch.go (fun t k => XS.iconst X6.here hx rfl (hb hby d2_21) k) ?_
  show Rch p e below _ (T6.setTop (mkF m 22 #[iv y1] [(.int (0 : Int32)), (.ref b6_0), (.ref b3), (.ref b3)]))
  have f9 := (A3.keep K6)
  have f10 := (F3_value.keep K6 nin0)
  have f11 := (F3_coder.keep K6 nin0)
  obtain ⟨v12, T12, L12, X12, Q12, st12⟩ := callSp X6 hx hZ (m5_init l Z a0 hw b3 b6_0 T6.heap n0 z7 o8 f9 f10 g_b3 f11) rfl hown rfl (wd_15 hw) (wd_16 hw) (wd_18 hw) (wd_2 hw) (by decide) (hb hby d2_22) 1 (by decide) (by decide) (by decide) (by decide) (by rw [hml]; rfl) b3 [(.ref b6_0), (.int (0 : Int32))] [(.ref b3)] rfl (lenOf pd_3 rfl) rfl (Nat.le_of_eq rfl) (Ls := #[iv y1])
  obtain ⟨rfl, M12, K12, F12_0, F12_1⟩ := Q12
  have N12 := Fr.app N6 M12
  refine Rch.go st12 ?_
  have z13 : n0 ≤ T12.heap.size := (Nat.le_trans z7 K12.1)
  have o14 := o8.keep K12 (allS g_b3 all0)
  show Rch p e below _ (T12.setTop (mkF m 25 #[iv y1] [(.ref b3)]))
  have f15 := (f9.keep K12)
  have f16 := (F6_0.keep K12)
  have lt17 := A3.lt
  have ne18 : b3 ≠ b6_0 := Nat.ne_of_lt (Nat.lt_of_lt_of_le lt17 zz6_0)
  have f19 := (F6_1.keep K12 (ninS (Ne.symm ne18) nin0))
  refine Rch.val X12 hx (t := (.object "java/lang/String")) hret hlk rfl (Or.inr (Or.inr (Or.inr (Or.inr ⟨rfl, rfl, rfl⟩)))) (hb hby d2_25) (by decide) (by decide) ?_
  exact ⟨b3, b6_0, k6_0, rfl, N12, ((((Keep.refl _ _).ext E3).trans K6 all0).trans K12 (allS (Or.inr (Nat.le_trans (Nat.le_refl _) (Nat.le_of_eq g3.symm))) all0)), (Nat.le_trans (Nat.le_refl _) (Nat.le_of_eq g3.symm)), (Nat.le_trans (Nat.le_trans (Nat.le_refl _) E3.1) zz6_0), f15, f16, f19, F12_0, F12_1⟩
theorem wd_3 {Z : State} {a0 : Array Value} (hw : ∀ d ∈ tables_1, d.before a0 Z = true) : (Jvm.Cond.code ({ cls := "java/lang/String", name := "valueOf", desc := "(C)Ljava/lang/String;" } : Jvm.MethodName) jdk_42_method_139_code (1 : Nat) (Option.some (Jvm.ClassFile.FieldType.object "java/lang/String"))).before a0 Z = true := hw _ (List.mem_of_getElem? (i := 3) rfl)
theorem pd_4 : parseMethodDescriptor "(C)Ljava/lang/String;" = some ⟨[.char], some (.object "java/lang/String")⟩ := by decide +kernel
theorem wd_1 {Z : State} {a0 : Array Value} (hw : ∀ d ∈ tables_1, d.before a0 Z = true) : (Jvm.Cond.static ({ cls := "java/lang/String", name := "valueOf", desc := "(C)Ljava/lang/String;" } : Jvm.MethodName)).before a0 Z = true := hw _ (List.mem_of_getElem? (i := 1) rfl)
theorem wd_26 {Z : State} {a0 : Array Value} (hw : ∀ d ∈ tables_1, d.before a0 Z = true) : (Jvm.Cond.methodLink s8' (21 : Nat) ({ cls := s8', name := "make", desc := "(ILjava/lang/String;III)Lcom/example/fuchun/fuchun/remoting/RemotingCommand;" } : Jvm.MethodName)).before a0 Z = true := hw _ (List.mem_of_getElem? (i := 26) rfl)
theorem d6_0 : decode method_2_code 0 = .ok (.new 7, 3) := by decide +kernel
theorem wd_30 {Z : State} {a0 : Array Value} (hw : ∀ d ∈ tables_1, d.before a0 Z = true) : (Jvm.Cond.classLink s8' (7 : Nat) s1').before a0 Z = true := hw _ (List.mem_of_getElem? (i := 30) rfl)
theorem wd_31 {Z : State} {a0 : Array Value} (hw : ∀ d ∈ tables_1, d.before a0 Z = true) : (Jvm.Cond.instantiable s1' (8 : Nat)).before a0 Z = true := hw _ (List.mem_of_getElem? (i := 31) rfl)
theorem wd_32 {Z : State} {a0 : Array Value} (hw : ∀ d ∈ tables_1, d.before a0 Z = true) : (Jvm.Cond.initialized s1').before a0 Z = true := hw _ (List.mem_of_getElem? (i := 32) rfl)
theorem wd_54 {Z : State} {a0 : Array Value} (hw : ∀ d ∈ tables_1, d.before a0 Z = true) : (Jvm.Cond.laysFinal s1' s1' "code" "I").before a0 Z = true := hw _ (List.mem_of_getElem? (i := 54) rfl)
theorem wd_64 {Z : State} {a0 : Array Value} (hw : ∀ d ∈ tables_1, d.before a0 Z = true) : (Jvm.Cond.laysFinal s1' s1' "language" "Ljava/lang/String;").before a0 Z = true := hw _ (List.mem_of_getElem? (i := 64) rfl)
theorem wd_66 {Z : State} {a0 : Array Value} (hw : ∀ d ∈ tables_1, d.before a0 Z = true) : (Jvm.Cond.laysFinal s1' s1' "version" "I").before a0 Z = true := hw _ (List.mem_of_getElem? (i := 66) rfl)
theorem wd_68 {Z : State} {a0 : Array Value} (hw : ∀ d ∈ tables_1, d.before a0 Z = true) : (Jvm.Cond.laysFinal s1' s1' "opaque" "I").before a0 Z = true := hw _ (List.mem_of_getElem? (i := 68) rfl)
theorem wd_70 {Z : State} {a0 : Array Value} (hw : ∀ d ∈ tables_1, d.before a0 Z = true) : (Jvm.Cond.laysFinal s1' s1' "flag" "I").before a0 Z = true := hw _ (List.mem_of_getElem? (i := 70) rfl)
theorem wd_72 {Z : State} {a0 : Array Value} (hw : ∀ d ∈ tables_1, d.before a0 Z = true) : (Jvm.Cond.laysFinal s1' s1' "remark" "Ljava/lang/String;").before a0 Z = true := hw _ (List.mem_of_getElem? (i := 72) rfl)
theorem wd_196 {Z : State} {a0 : Array Value} (hw : ∀ d ∈ tables_1, d.before a0 Z = true) : (Jvm.Cond.laysFinal s1' s1' "fields" "Ljava/util/Map;").before a0 Z = true := hw _ (List.mem_of_getElem? (i := 196) rfl)
theorem wd_201 {Z : State} {a0 : Array Value} (hw : ∀ d ∈ tables_1, d.before a0 Z = true) : (Jvm.Cond.laysFinal s1' s1' "body" "[B").before a0 Z = true := hw _ (List.mem_of_getElem? (i := 201) rfl)
theorem d6_3 : decode method_2_code 3 = .ok (.dup, 1) := by decide +kernel
theorem d6_4 : decode method_2_code 4 = .ok (.iload_n 0, 1) := by decide +kernel
theorem d6_5 : decode method_2_code 5 = .ok (.aload_n 1, 1) := by decide +kernel
theorem d6_6 : decode method_2_code 6 = .ok (.iload_n 2, 1) := by decide +kernel
theorem d6_7 : decode method_2_code 7 = .ok (.iload_n 3, 1) := by decide +kernel
theorem d6_8 : decode method_2_code 8 = .ok (.iload 4, 2) := by decide +kernel
theorem d6_10 : decode method_2_code 10 = .ok (.aconst_null, 1) := by decide +kernel
theorem d6_11 : decode method_2_code 11 = .ok (.new 9, 3) := by decide +kernel
theorem wd_33 {Z : State} {a0 : Array Value} (hw : ∀ d ∈ tables_1, d.before a0 Z = true) : (Jvm.Cond.classLink s8' (9 : Nat) "java/util/HashMap").before a0 Z = true := hw _ (List.mem_of_getElem? (i := 33) rfl)
theorem wd_34 {Z : State} {a0 : Array Value} (hw : ∀ d ∈ tables_1, d.before a0 Z = true) : (Jvm.Cond.instantiable "java/util/HashMap" (8 : Nat)).before a0 Z = true := hw _ (List.mem_of_getElem? (i := 34) rfl)
theorem wd_35 {Z : State} {a0 : Array Value} (hw : ∀ d ∈ tables_1, d.before a0 Z = true) : (Jvm.Cond.initialized "java/util/HashMap").before a0 Z = true := hw _ (List.mem_of_getElem? (i := 35) rfl)
theorem wd_48 {Z : State} {a0 : Array Value} (hw : ∀ d ∈ tables_1, d.before a0 Z = true) : (Jvm.Cond.laysFinal "java/util/HashMap" "java/util/HashMap" "loadFactor" "F").before a0 Z = true := hw _ (List.mem_of_getElem? (i := 48) rfl)
theorem wd_102 {Z : State} {a0 : Array Value} (hw : ∀ d ∈ tables_1, d.before a0 Z = true) : (Jvm.Cond.lays "java/util/HashMap" "java/util/HashMap" "entrySet" "Ljava/util/Set;").before a0 Z = true := hw _ (List.mem_of_getElem? (i := 102) rfl)
theorem wd_151 {Z : State} {a0 : Array Value} (hw : ∀ d ∈ tables_1, d.before a0 Z = true) : (Jvm.Cond.lays "java/util/HashMap" "java/util/HashMap" "modCount" "I").before a0 Z = true := hw _ (List.mem_of_getElem? (i := 151) rfl)
theorem wd_155 {Z : State} {a0 : Array Value} (hw : ∀ d ∈ tables_1, d.before a0 Z = true) : (Jvm.Cond.lays "java/util/HashMap" "java/util/HashMap" "table" "[Ljava/util/HashMap$Node;").before a0 Z = true := hw _ (List.mem_of_getElem? (i := 155) rfl)
theorem d6_14 : decode method_2_code 14 = .ok (.dup, 1) := by decide +kernel
theorem d6_15 : decode method_2_code 15 = .ok (.invokespecial 11, 3) := by decide +kernel
theorem wd_36 {Z : State} {a0 : Array Value} (hw : ∀ d ∈ tables_1, d.before a0 Z = true) : (Jvm.Cond.methodLink s8' (11 : Nat) ({ cls := "java/util/HashMap", name := "<init>", desc := "()V" } : Jvm.MethodName)).before a0 Z = true := hw _ (List.mem_of_getElem? (i := 36) rfl)
theorem d7_0 : decode jdk_69_method_7_code 0 = .ok (.aload_n 0, 1) := by decide +kernel
theorem d7_1 : decode jdk_69_method_7_code 1 = .ok (.invokespecial 43, 3) := by decide +kernel
theorem wd_39 {Z : State} {a0 : Array Value} (hw : ∀ d ∈ tables_1, d.before a0 Z = true) : (Jvm.Cond.methodLink "java/util/HashMap" (43 : Nat) ({ cls := "java/util/AbstractMap", name := "<init>", desc := "()V" } : Jvm.MethodName)).before a0 Z = true := hw _ (List.mem_of_getElem? (i := 39) rfl)
theorem d8_0 : decode jdk_71_method_1_code 0 = .ok (.aload_n 0, 1) := by decide +kernel
theorem d8_1 : decode jdk_71_method_1_code 1 = .ok (.invokespecial 1, 3) := by decide +kernel
theorem wd_45 {Z : State} {a0 : Array Value} (hw : ∀ d ∈ tables_1, d.before a0 Z = true) : (Jvm.Cond.methodLink "java/util/AbstractMap" (1 : Nat) ({ cls := "java/lang/Object", name := "<init>", desc := "()V" } : Jvm.MethodName)).before a0 Z = true := hw _ (List.mem_of_getElem? (i := 45) rfl)
theorem d8_4 : decode jdk_71_method_1_code 4 = .ok (.return_, 1) := by decide +kernel
theorem pn_java_util_AbstractMap : plainName "java/util/AbstractMap" = true := by first | (simp [plainName, overriddenIn]; done) | decide +kernel
set_option maxRecDepth 65536 in
set_option maxHeartbeats 4000000 in
theorem ef_m8_init (m : MethodId) (x1 : Addr) : entryFrame m #[(.ref x1)] 1 = mkF m 0 #[rv x1] [] := by first | rfl | (simp [entryFrame, mkF, argsToLocals, Value.category]; done)
set_option maxRecDepth 65536 in
set_option maxHeartbeats 40000000 in
theorem m8_init (l : Launch) (Z : State) (a0 : Array Value) (hw : ∀ d ∈ tables_1, d.before a0 Z = true) (x1 : Addr) (h0 : Heap) (n0 : Nat) (Z0 : n0 ≤ h0.size) (O0 : Old Z n0 h0) :
    Ctr l Z [] (⟨"java/util/AbstractMap", "<init>", "()V"⟩ : MethodName) jdk_71_method_1_code 1 none #[(.ref x1)] h0 ({ frames := 1, cells := 0, slots := 0, locals := 12 } : Room) (fun v h L => v = none ∧ Fr n0 L ∧ h = h0) := by
  refine Ctr.of (plainFor_of_name pn_java_util_AbstractMap) (fun m => ef_m8_init m x1) ?_
  intro p e s m below meth c T0 hx hZ hby hml hown hnm hret hlk X0 e0
  have N0 := Fr.nil n0
  show Rch p e below _ (T0.setTop (mkF m 0 #[rv x1] []))
  refine Rch.go (fun t k => XS.aloadN X0.here hx rfl (hb hby d8_0) rfl rfl k) ?_
  show Rch p e below _ (T0.setTop (mkF m 1 #[rv x1] [(.ref x1)]))
  obtain ⟨T1, X1, e1, st1⟩ := initO X0 hx hZ hown (wd_45 hw) (wd_20 hw) (wd_21 hw) e0 (g := (mkF m 1 #[rv x1] [(.ref x1)])) rfl (by rw [hml]; rfl) rfl (hb hby d8_1) (by decide) (W := 0) (by show 2 * 0 + _ ≤ _; exact Nat.le_of_eq rfl) (by decide)
  refine Rch.go st1 ?_
  show Rch p e below _ (T1.setTop (mkF m 4 #[rv x1] []))
  refine Rch.void X1 hx hret hlk (hb hby d8_4) (by decide) (by decide) ?_
  try rw [e1]
  exact ⟨rfl, N0, rfl⟩
theorem wd_44 {Z : State} {a0 : Array Value} (hw : ∀ d ∈ tables_1, d.before a0 Z = true) : (Jvm.Cond.code ({ cls := "java/util/AbstractMap", name := "<init>", desc := "()V" } : Jvm.MethodName) jdk_71_method_1_code (1 : Nat) (Option.none : Option Jvm.ClassFile.FieldType)).before a0 Z = true := hw _ (List.mem_of_getElem? (i := 44) rfl)
theorem wd_43 {Z : State} {a0 : Array Value} (hw : ∀ d ∈ tables_1, d.before a0 Z = true) : (Jvm.Cond.initialized "java/util/AbstractMap").before a0 Z = true := hw _ (List.mem_of_getElem? (i := 43) rfl)
theorem pd_5 : parseMethodDescriptor "()V" = some ⟨[], none⟩ := by decide +kernel
theorem wd_40 {Z : State} {a0 : Array Value} (hw : ∀ d ∈ tables_1, d.before a0 Z = true) : (Jvm.Cond.instanceMethod ({ cls := "java/util/AbstractMap", name := "<init>", desc := "()V" } : Jvm.MethodName)).before a0 Z = true := hw _ (List.mem_of_getElem? (i := 40) rfl)
theorem d7_4 : decode jdk_69_method_7_code 4 = .ok (.aload_n 0, 1) := by decide +kernel
theorem d7_5 : decode jdk_69_method_7_code 5 = .ok (.ldc 92, 2) := by decide +kernel
theorem wd_46 {Z : State} {a0 : Array Value} (hw : ∀ d ∈ tables_1, d.before a0 Z = true) : (Jvm.Cond.constantFloat "java/util/HashMap" (92 : Nat) (1061158912 : UInt32)).before a0 Z = true := hw _ (List.mem_of_getElem? (i := 46) rfl)
theorem d7_7 : decode jdk_69_method_7_code 7 = .ok (.putfield 81, 3) := by decide +kernel
theorem wd_47 {Z : State} {a0 : Array Value} (hw : ∀ d ∈ tables_1, d.before a0 Z = true) : (Jvm.Cond.fieldLink "java/util/HashMap" (81 : Nat) "java/util/HashMap" "loadFactor" "F").before a0 Z = true := hw _ (List.mem_of_getElem? (i := 47) rfl)
theorem d7_10 : decode jdk_69_method_7_code 10 = .ok (.return_, 1) := by decide +kernel
theorem pn_java_util_HashMap : plainName "java/util/HashMap" = true := by first | (simp [plainName, overriddenIn]; done) | decide +kernel
set_option maxRecDepth 65536 in
set_option maxHeartbeats 4000000 in
theorem ef_m7_init (m : MethodId) (x1 : Addr) : entryFrame m #[(.ref x1)] 1 = mkF m 0 #[rv x1] [] := by first | rfl | (simp [entryFrame, mkF, argsToLocals, Value.category]; done)
set_option maxRecDepth 65536 in
set_option maxHeartbeats 40000000 in
theorem m7_init (l : Launch) (Z : State) (a0 : Array Value) (hw : ∀ d ∈ tables_1, d.before a0 Z = true) (x1 : Addr) (h0 : Heap) (n0 : Nat) (Z0 : n0 ≤ h0.size) (O0 : Old Z n0 h0) (P1 : Exa Z h0 x1 "java/util/HashMap") (P2 : Fld Z h0 x1 "java/util/HashMap" "loadFactor" "F" (.float (0 : UInt32))) (P3 : n0 ≤ x1) (P4 : Fld Z h0 x1 "java/util/HashMap" "entrySet" "Ljava/util/Set;" .null) (P5 : Fld Z h0 x1 "java/util/HashMap" "modCount" "I" (.int (0 : Int32))) (P6 : Fld Z h0 x1 "java/util/HashMap" "table" "[Ljava/util/HashMap$Node;" .null) :
    Ctr l Z [] (⟨"java/util/HashMap", "<init>", "()V"⟩ : MethodName) jdk_69_method_7_code 1 none #[(.ref x1)] h0 ({ frames := 2, cells := 0, slots := 0, locals := 24 } : Room) (fun v h L => v = none ∧ Fr n0 L ∧ Keep h0 h [x1] ∧ Fld Z h x1 "java/util/HashMap" "loadFactor" "F" (.float (1061158912 : UInt32)) ∧ Fld Z h x1 "java/util/HashMap" "entrySet" "Ljava/util/Set;" .null ∧ Fld Z h x1 "java/util/HashMap" "modCount" "I" (.int (0 : Int32)) ∧ Fld Z h x1 "java/util/HashMap" "table" "[Ljava/util/HashMap$Node;" .null) := by
  refine Ctr.of (plainFor_of_name pn_java_util_HashMap) (fun m => ef_m7_init m x1) ?_
  intro p e s m below meth c T0 hx hZ hby hml hown hnm hret hlk X0 e0
  have N0 := Fr.nil n0
  show Rch p e below _ (T0.setTop (mkF m 0 #[rv x1] []))
  refine Rch.go (fun t k => XS.aloadN X0.here hx rfl (hb hby d7_0) rfl rfl k) ?_
  show Rch p e below _ (T0.setTop (mkF m 1 #[rv x1] [(.ref x1)]))
  obtain ⟨v1, T1, L1, X1, Q1, st1⟩ := callSp X0 hx hZ (m8_init l Z a0 hw x1 h0 n0 Z0 O0 ) e0 hown rfl (wd_39 hw) (wd_40 hw) (wd_44 hw) (wd_43 hw) (by decide) (hb hby d7_1) 0 (by decide) (by decide) (by decide) (by decide) (by rw [hml]; rfl) x1 [] [] rfl (lenOf pd_5 rfl) rfl (Nat.le_of_eq rfl) (Ls := #[rv x1])
  obtain ⟨rfl, M1, e1⟩ := Q1
  have N1 := Fr.app N0 M1
  refine Rch.go st1 ?_
  show Rch p e below _ (T1.setTop (mkF m 4 #[rv x1] []))
  refine Rch.go (fun t k => XS.aloadN X1.here hx rfl (hb hby d7_4) rfl rfl k) ?_
  show Rch p e below _ (T1.setTop (mkF m 5 #[rv x1] [(.ref x1)]))
  refine Rch.go (fun t k => X1.ldcFloatC hx hown (mvT hZ (wd_46 hw)) (g := (mkF m 5 #[rv x1] [(.ref x1)])) rfl (hb hby d7_5) t k) ?_
  show Rch p e below _ (T1.setTop (mkF m 7 #[rv x1] [(.float (1061158912 : UInt32)), (.ref x1)]))
  obtain ⟨T2, h2, X2, e2, W2, st2⟩ := putF X1 hx hZ hown (host := "") (Or.inl (wd_47 hw)) Via.refl e1 P2 P1 (Or.inr ⟨(wd_48 hw), rfl, hnm⟩) (wd_34 hw) (ty := .float) (by decide) rfl rfl (g := (mkF m 7 #[rv x1] [(.float (1061158912 : UInt32)), (.ref x1)])) rfl rfl (hb hby d7_7)
  refine Rch.go st2 ?_
  have z3 : n0 ≤ h2.size := (Nat.le_trans Z0 (Nat.le_of_eq W2.size.symm))
  have o4 := O0.wr W2 P3
  have F2 := P2.same W2
  have N2 := Fr.snoc X2 N1 P3
  show Rch p e below _ (T2.setTop (mkF m 10 #[rv x1] []))
  have f5 := (P4.other W2 (Or.inr (slot_ne (Or.inl (wd_102 hw)) (Or.inr (wd_48 hw)) (by decide) (t := (.object "java/util/Set")) (t' := .float) (by decide) (by decide))))
  have f6 := (P5.other W2 (Or.inr (slot_ne (Or.inl (wd_151 hw)) (Or.inr (wd_48 hw)) (by decide) (t := .int) (t' := .float) (by decide) (by decide))))
  have f7 := (P6.other W2 (Or.inr (slot_ne (Or.inl (wd_155 hw)) (Or.inr (wd_48 hw)) (by decide) (t := (.array (.object s5'))) (t' := .float) (by decide) (by decide))))
  refine Rch.void X2 hx hret hlk (hb hby d7_10) (by decide) (by decide) ?_
  try rw [e2]
  exact ⟨rfl, N2, ((Keep.refl _ _).wr W2 (Or.inl (List.mem_of_getElem? (i := 0) rfl))), F2, f5, f6, f7⟩
theorem wd_38 {Z : State} {a0 : Array Value} (hw : ∀ d ∈ tables_1, d.before a0 Z = true) : (Jvm.Cond.code ({ cls := "java/util/HashMap", name := "<init>", desc := "()V" } : Jvm.MethodName) jdk_69_method_7_code (1 : Nat) (Option.none : Option Jvm.ClassFile.FieldType)).before a0 Z = true := hw _ (List.mem_of_getElem? (i := 38) rfl)
theorem wd_37 {Z : State} {a0 : Array Value} (hw : ∀ d ∈ tables_1, d.before a0 Z = true) : (Jvm.Cond.instanceMethod ({ cls := "java/util/HashMap", name := "<init>", desc := "()V" } : Jvm.MethodName)).before a0 Z = true := hw _ (List.mem_of_getElem? (i := 37) rfl)
theorem d6_18 : decode method_2_code 18 = .ok (.iconst 0, 1) := by decide +kernel
theorem d6_19 : decode method_2_code 19 = .ok (.newarray .byte, 2) := by decide +kernel
theorem d6_21 : decode method_2_code 21 = .ok (.invokespecial 12, 3) := by decide +kernel
theorem wd_49 {Z : State} {a0 : Array Value} (hw : ∀ d ∈ tables_1, d.before a0 Z = true) : (Jvm.Cond.methodLink s8' (12 : Nat) ({ cls := s1', name := "<init>", desc := "(ILjava/lang/String;IIILjava/lang/String;Ljava/util/Map;[B)V" } : Jvm.MethodName)).before a0 Z = true := hw _ (List.mem_of_getElem? (i := 49) rfl)
theorem d9_0 : decode prog_20_method_1_code 0 = .ok (.aload_n 0, 1) := by decide +kernel
theorem d9_1 : decode prog_20_method_1_code 1 = .ok (.invokespecial 1, 3) := by decide +kernel
theorem wd_52 {Z : State} {a0 : Array Value} (hw : ∀ d ∈ tables_1, d.before a0 Z = true) : (Jvm.Cond.methodLink s1' (1 : Nat) ({ cls := "java/lang/Object", name := "<init>", desc := "()V" } : Jvm.MethodName)).before a0 Z = true := hw _ (List.mem_of_getElem? (i := 52) rfl)
theorem d9_4 : decode prog_20_method_1_code 4 = .ok (.aload_n 0, 1) := by decide +kernel
theorem d9_5 : decode prog_20_method_1_code 5 = .ok (.iload_n 1, 1) := by decide +kernel
theorem d9_6 : decode prog_20_method_1_code 6 = .ok (.putfield 7, 3) := by decide +kernel
theorem wd_53 {Z : State} {a0 : Array Value} (hw : ∀ d ∈ tables_1, d.before a0 Z = true) : (Jvm.Cond.fieldLink s1' (7 : Nat) s1' "code" "I").before a0 Z = true := hw _ (List.mem_of_getElem? (i := 53) rfl)
theorem d9_9 : decode prog_20_method_1_code 9 = .ok (.aload_n 0, 1) := by decide +kernel
theorem d9_10 : decode prog_20_method_1_code 10 = .ok (.aload_n 2, 1) := by decide +kernel
theorem d9_11 : decode prog_20_method_1_code 11 = .ok (.ldc 13, 2) := by decide +kernel
theorem wd_55 {Z : State} {a0 : Array Value} (hw : ∀ d ∈ tables_1, d.before a0 Z = true) : (Jvm.Cond.stringLink s1' (13 : Nat) "language").before a0 Z = true := hw _ (List.mem_of_getElem? (i := 55) rfl)
theorem d9_13 : decode prog_20_method_1_code 13 = .ok (.invokestatic 15, 3) := by decide +kernel
theorem wd_58 {Z : State} {a0 : Array Value} (hw : ∀ d ∈ tables_1, d.before a0 Z = true) : (Jvm.Cond.methodLink s1' (15 : Nat) ({ cls := "java/util/Objects", name := "requireNonNull", desc := "(Ljava/lang/Object;Ljava/lang/String;)Ljava/lang/Object;" } : Jvm.MethodName)).before a0 Z = true := hw _ (List.mem_of_getElem? (i := 58) rfl)
theorem d10_0 : decode jdk_31_method_11_code 0 = .ok (.aload_n 0, 1) := by decide +kernel
theorem d10_1 : decode jdk_31_method_11_code 1 = .ok (.ifnonnull 12, 3) := by decide +kernel
theorem d10_13 : decode jdk_31_method_11_code 13 = .ok (.aload_n 0, 1) := by decide +kernel
theorem d10_14 : decode jdk_31_method_11_code 14 = .ok (.areturn, 1) := by decide +kernel
theorem pn_java_util_Objects : plainName "java/util/Objects" = true := by first | (simp [plainName, overriddenIn]; done) | decide +kernel
set_option maxRecDepth 65536 in
set_option maxHeartbeats 4000000 in
theorem ef_m10_requireNonNull (m : MethodId) (x1 : Addr) (x2 : Addr) : entryFrame m #[(.ref x1), (.ref x2)] 2 = mkF m 0 #[rv x1, rv x2] [] := by first | rfl | (simp [entryFrame, mkF, argsToLocals, Value.category]; done)
set_option maxRecDepth 65536 in
set_option maxHeartbeats 40000000 in
theorem m10_requireNonNull (l : Launch) (Z : State) (a0 : Array Value) (hw : ∀ d ∈ tables_1, d.before a0 Z = true) (x1 : Addr) (x2 : Addr) (h0 : Heap) (n0 : Nat) (Z0 : n0 ≤ h0.size) (O0 : Old Z n0 h0) :
    Ctr l Z [] (⟨"java/util/Objects", "requireNonNull", "(Ljava/lang/Object;Ljava/lang/String;)Ljava/lang/Object;"⟩ : MethodName) jdk_31_method_11_code 2 (some (.object "java/lang/Object")) #[(.ref x1), (.ref x2)] h0 ({ frames := 0, cells := 0, slots := 0, locals := 0 } : Room) (fun v h L => v = some (.ref x1) ∧ Fr n0 L ∧ h = h0) := by
  refine Ctr.of (plainFor_of_name pn_java_util_Objects) (fun m => ef_m10_requireNonNull m x1 x2) ?_
  intro p e s m below meth c T0 hx hZ hby hml hown hnm hret hlk X0 e0
  have N0 := Fr.nil n0
  show Rch p e below _ (T0.setTop (mkF m 0 #[rv x1, rv x2] []))
  refine Rch.go (fun t k => XS.aloadN X0.here hx rfl (hb hby d10_0) rfl rfl k) ?_
  show Rch p e below _ (T0.setTop (mkF m 1 #[rv x1, rv x2] [(.ref x1)]))
  refine Rch.go (fun t k => XS.ifnonnullYes X0.here hx rfl (pc0 := 1) (pc' := 13) rfl (hb hby d10_1) rfl (by decide) (by decide) k) ?_
  show Rch p e below _ (T0.setTop (mkF m 13 #[rv x1, rv x2] []))
  refine Rch.go (fun t k => XS.aloadN X0.here hx rfl (hb hby d10_13) rfl rfl k) ?_
  show Rch p e below _ (T0.setTop (mkF m 14 #[rv x1, rv x2] [(.ref x1)]))
  refine Rch.val X0 hx (t := (.object "java/lang/Object")) hret hlk rfl (Or.inr (Or.inr (Or.inr (Or.inr ⟨rfl, rfl, rfl⟩)))) (hb hby d10_14) (by decide) (by decide) ?_
  try rw [e0]
  exact ⟨rfl, N0, rfl⟩
theorem wd_61 {Z : State} {a0 : Array Value} (hw : ∀ d ∈ tables_1, d.before a0 Z = true) : (Jvm.Cond.code ({ cls := "java/util/Objects", name := "requireNonNull", desc := "(Ljava/lang/Object;Ljava/lang/String;)Ljava/lang/Object;" } : Jvm.MethodName) jdk_31_method_11_code (2 : Nat) (Option.some (Jvm.ClassFile.FieldType.object "java/lang/Object"))).before a0 Z = true := hw _ (List.mem_of_getElem? (i := 61) rfl)
theorem wd_60 {Z : State} {a0 : Array Value} (hw : ∀ d ∈ tables_1, d.before a0 Z = true) : (Jvm.Cond.initialized "java/util/Objects").before a0 Z = true := hw _ (List.mem_of_getElem? (i := 60) rfl)
theorem pd_6 : parseMethodDescriptor "(Ljava/lang/Object;Ljava/lang/String;)Ljava/lang/Object;" = some ⟨[(.object "java/lang/Object"), (.object "java/lang/String")], some (.object "java/lang/Object")⟩ := by decide +kernel
theorem wd_59 {Z : State} {a0 : Array Value} (hw : ∀ d ∈ tables_1, d.before a0 Z = true) : (Jvm.Cond.static ({ cls := "java/util/Objects", name := "requireNonNull", desc := "(Ljava/lang/Object;Ljava/lang/String;)Ljava/lang/Object;" } : Jvm.MethodName)).before a0 Z = true := hw _ (List.mem_of_getElem? (i := 59) rfl)
theorem d9_16 : decode prog_20_method_1_code 16 = .ok (.checkcast 21, 3) := by decide +kernel
theorem wd_62 {Z : State} {a0 : Array Value} (hw : ∀ d ∈ tables_1, d.before a0 Z = true) : (Jvm.Cond.classLink s1' (21 : Nat) "java/lang/String").before a0 Z = true := hw _ (List.mem_of_getElem? (i := 62) rfl)
theorem d9_19 : decode prog_20_method_1_code 19 = .ok (.putfield 23, 3) := by decide +kernel
theorem wd_63 {Z : State} {a0 : Array Value} (hw : ∀ d ∈ tables_1, d.before a0 Z = true) : (Jvm.Cond.fieldLink s1' (23 : Nat) s1' "language" "Ljava/lang/String;").before a0 Z = true := hw _ (List.mem_of_getElem? (i := 63) rfl)
theorem d9_22 : decode prog_20_method_1_code 22 = .ok (.aload_n 0, 1) := by decide +kernel
theorem d9_23 : decode prog_20_method_1_code 23 = .ok (.iload_n 3, 1) := by decide +kernel
theorem d9_24 : decode prog_20_method_1_code 24 = .ok (.putfield 26, 3) := by decide +kernel
theorem wd_65 {Z : State} {a0 : Array Value} (hw : ∀ d ∈ tables_1, d.before a0 Z = true) : (Jvm.Cond.fieldLink s1' (26 : Nat) s1' "version" "I").before a0 Z = true := hw _ (List.mem_of_getElem? (i := 65) rfl)
theorem d9_27 : decode prog_20_method_1_code 27 = .ok (.aload_n 0, 1) := by decide +kernel
theorem d9_28 : decode prog_20_method_1_code 28 = .ok (.iload 4, 2) := by decide +kernel
theorem d9_30 : decode prog_20_method_1_code 30 = .ok (.putfield 29, 3) := by decide +kernel
theorem wd_67 {Z : State} {a0 : Array Value} (hw : ∀ d ∈ tables_1, d.before a0 Z = true) : (Jvm.Cond.fieldLink s1' (29 : Nat) s1' "opaque" "I").before a0 Z = true := hw _ (List.mem_of_getElem? (i := 67) rfl)
theorem d9_33 : decode prog_20_method_1_code 33 = .ok (.aload_n 0, 1) := by decide +kernel
theorem d9_34 : decode prog_20_method_1_code 34 = .ok (.iload 5, 2) := by decide +kernel
theorem d9_36 : decode prog_20_method_1_code 36 = .ok (.putfield 32, 3) := by decide +kernel
theorem wd_69 {Z : State} {a0 : Array Value} (hw : ∀ d ∈ tables_1, d.before a0 Z = true) : (Jvm.Cond.fieldLink s1' (32 : Nat) s1' "flag" "I").before a0 Z = true := hw _ (List.mem_of_getElem? (i := 69) rfl)
theorem d9_39 : decode prog_20_method_1_code 39 = .ok (.aload_n 0, 1) := by decide +kernel
theorem d9_40 : decode prog_20_method_1_code 40 = .ok (.aload 6, 2) := by decide +kernel
theorem d9_42 : decode prog_20_method_1_code 42 = .ok (.putfield 35, 3) := by decide +kernel
theorem wd_71 {Z : State} {a0 : Array Value} (hw : ∀ d ∈ tables_1, d.before a0 Z = true) : (Jvm.Cond.fieldLink s1' (35 : Nat) s1' "remark" "Ljava/lang/String;").before a0 Z = true := hw _ (List.mem_of_getElem? (i := 71) rfl)
theorem d9_45 : decode prog_20_method_1_code 45 = .ok (.aload_n 0, 1) := by decide +kernel
theorem d9_46 : decode prog_20_method_1_code 46 = .ok (.aload 7, 2) := by decide +kernel
theorem d9_48 : decode prog_20_method_1_code 48 = .ok (.invokestatic 38, 3) := by decide +kernel
theorem wd_73 {Z : State} {a0 : Array Value} (hw : ∀ d ∈ tables_1, d.before a0 Z = true) : (Jvm.Cond.methodLink s1' (38 : Nat) ({ cls := s1', name := "copyFields", desc := "(Ljava/util/Map;)Ljava/util/Map;" } : Jvm.MethodName)).before a0 Z = true := hw _ (List.mem_of_getElem? (i := 73) rfl)
theorem d11_0 : decode prog_20_method_17_code 0 = .ok (.aload_n 0, 1) := by decide +kernel
theorem d11_1 : decode prog_20_method_17_code 1 = .ok (.ldc 113, 2) := by decide +kernel
theorem wd_76 {Z : State} {a0 : Array Value} (hw : ∀ d ∈ tables_1, d.before a0 Z = true) : (Jvm.Cond.stringLink s1' (113 : Nat) "fields").before a0 Z = true := hw _ (List.mem_of_getElem? (i := 76) rfl)
theorem d11_3 : decode prog_20_method_17_code 3 = .ok (.invokestatic 15, 3) := by decide +kernel
theorem d11_6 : decode prog_20_method_17_code 6 = .ok (.pop, 1) := by decide +kernel
theorem d11_7 : decode prog_20_method_17_code 7 = .ok (.new 114, 3) := by decide +kernel
theorem wd_77 {Z : State} {a0 : Array Value} (hw : ∀ d ∈ tables_1, d.before a0 Z = true) : (Jvm.Cond.classLink s1' (114 : Nat) s3').before a0 Z = true := hw _ (List.mem_of_getElem? (i := 77) rfl)
theorem wd_78 {Z : State} {a0 : Array Value} (hw : ∀ d ∈ tables_1, d.before a0 Z = true) : (Jvm.Cond.instantiable s3' (12 : Nat)).before a0 Z = true := hw _ (List.mem_of_getElem? (i := 78) rfl)
theorem wd_79 {Z : State} {a0 : Array Value} (hw : ∀ d ∈ tables_1, d.before a0 Z = true) : (Jvm.Cond.initialized s3').before a0 Z = true := hw _ (List.mem_of_getElem? (i := 79) rfl)
theorem wd_87 {Z : State} {a0 : Array Value} (hw : ∀ d ∈ tables_1, d.before a0 Z = true) : (Jvm.Cond.laysFinal s3' "java/util/HashMap" "loadFactor" "F").before a0 Z = true := hw _ (List.mem_of_getElem? (i := 87) rfl)
theorem wd_89 {Z : State} {a0 : Array Value} (hw : ∀ d ∈ tables_1, d.before a0 Z = true) : (Jvm.Cond.lays s3' s3' "putMode" "I").before a0 Z = true := hw _ (List.mem_of_getElem? (i := 89) rfl)
theorem wd_91 {Z : State} {a0 : Array Value} (hw : ∀ d ∈ tables_1, d.before a0 Z = true) : (Jvm.Cond.laysFinal s3' s3' "accessOrder" "Z").before a0 Z = true := hw _ (List.mem_of_getElem? (i := 91) rfl)
theorem d11_10 : decode prog_20_method_17_code 10 = .ok (.dup, 1) := by decide +kernel
theorem d11_11 : decode prog_20_method_17_code 11 = .ok (.invokespecial 116, 3) := by decide +kernel
theorem wd_80 {Z : State} {a0 : Array Value} (hw : ∀ d ∈ tables_1, d.before a0 Z = true) : (Jvm.Cond.methodLink s1' (116 : Nat) ({ cls := s3', name := "<init>", desc := "()V" } : Jvm.MethodName)).before a0 Z = true := hw _ (List.mem_of_getElem? (i := 80) rfl)
theorem d12_0 : decode jdk_94_method_16_code 0 = .ok (.aload_n 0, 1) := by decide +kernel
theorem d12_1 : decode jdk_94_method_16_code 1 = .ok (.invokespecial 87, 3) := by decide +kernel
theorem wd_83 {Z : State} {a0 : Array Value} (hw : ∀ d ∈ tables_1, d.before a0 Z = true) : (Jvm.Cond.methodLink s3' (87 : Nat) ({ cls := "java/util/HashMap", name := "<init>", desc := "()V" } : Jvm.MethodName)).before a0 Z = true := hw _ (List.mem_of_getElem? (i := 83) rfl)
set_option maxRecDepth 65536 in
set_option maxHeartbeats 4000000 in
theorem ef_m13_init (m : MethodId) (x1 : Addr) : entryFrame m #[(.ref x1)] 1 = mkF m 0 #[rv x1] [] := by first | rfl | (simp [entryFrame, mkF, argsToLocals, Value.category]; done)
set_option maxRecDepth 65536 in
set_option maxHeartbeats 40000000 in
theorem m13_init (l : Launch) (Z : State) (a0 : Array Value) (hw : ∀ d ∈ tables_1, d.before a0 Z = true) (x1 : Addr) (h0 : Heap) (n0 : Nat) (Z0 : n0 ≤ h0.size) (O0 : Old Z n0 h0) (P1 : Exa Z h0 x1 s3') (P2 : Fld Z h0 x1 "java/util/HashMap" "loadFactor" "F" (.float (0 : UInt32))) (P3 : n0 ≤ x1) (P4 : Fld Z h0 x1 s3' "putMode" "I" (.int (0 : Int32))) (P5 : Fld Z h0 x1 s3' "accessOrder" "Z" (.int (0 : Int32))) :
    Ctr l Z [] (⟨"java/util/HashMap", "<init>", "()V"⟩ : MethodName) jdk_69_method_7_code 1 none #[(.ref x1)] h0 ({ frames := 2, cells := 0, slots := 0, locals := 24 } : Room) (fun v h L => v = none ∧ Fr n0 L ∧ Keep h0 h [x1] ∧ Fld Z h x1 "java/util/HashMap" "loadFactor" "F" (.float (1061158912 : UInt32)) ∧ Fld Z h x1 s3' "putMode" "I" (.int (0 : Int32)) ∧ Fld Z h x1 s3' "accessOrder" "Z" (.int (0 : Int32))) := by
  refine Ctr.of (plainFor_of_name pn_java_util_HashMap) (fun m => ef_m13_init m x1) ?_
  intro p e s m below meth c T0 hx hZ hby hml hown hnm hret hlk X0 e0
  have N0 := Fr.nil n0
  show Rch p e below _ (T0.setTop (mkF m 0 #[rv x1] []))
  refine Rch.go (fun t k => XS.aloadN X0.here hx rfl (hb hby d7_0) rfl rfl k) ?_
  show Rch p e below _ (T0.setTop (mkF m 1 #[rv x1] [(.ref x1)]))
  obtain ⟨v1, T1, L1, X1, Q1, st1⟩ := callSp X0 hx hZ (m8_init l Z a0 hw x1 h0 n0 Z0 O0 ) e0 hown rfl (wd_39 hw) (wd_40 hw) (wd_44 hw) (wd_43 hw) (by decide) (hb hby d7_1) 0 (by decide) (by decide) (by decide) (by decide) (by rw [hml]; rfl) x1 [] [] rfl (lenOf pd_5 rfl) rfl (Nat.le_of_eq rfl) (Ls := #[rv x1])
  obtain ⟨rfl, M1, e1⟩ := Q1
  have N1 := Fr.app N0 M1
  refine Rch.go st1 ?_
  show Rch p e below _ (T1.setTop (mkF m 4 #[rv x1] []))
  refine Rch.go (fun t k => XS.aloadN X1.here hx rfl (hb hby d7_4) rfl rfl k) ?_
  show Rch p e below _ (T1.setTop (mkF m 5 #[rv x1] [(.ref x1)]))
  refine Rch.go (fun t k => X1.ldcFloatC hx hown (mvT hZ (wd_46 hw)) (g := (mkF m 5 #[rv x1] [(.ref x1)])) rfl (hb hby d7_5) t k) ?_
  show Rch p e below _ (T1.setTop (mkF m 7 #[rv x1] [(.float (1061158912 : UInt32)), (.ref x1)]))
  obtain ⟨T2, h2, X2, e2, W2, st2⟩ := putF X1 hx hZ hown (host := "") (Or.inl (wd_47 hw)) Via.refl e1 P2 P1 (Or.inr ⟨(wd_87 hw), rfl, hnm⟩) (wd_78 hw) (ty := .float) (by decide) rfl rfl (g := (mkF m 7 #[rv x1] [(.float (1061158912 : UInt32)), (.ref x1)])) rfl rfl (hb hby d7_7)
  refine Rch.go st2 ?_
  have z3 : n0 ≤ h2.size := (Nat.le_trans Z0 (Nat.le_of_eq W2.size.symm))
  have o4 := O0.wr W2 P3
  have F2 := P2.same W2
  have N2 := Fr.snoc X2 N1 P3
  show Rch p e below _ (T2.setTop (mkF m 10 #[rv x1] []))
  have f5 := (P4.other W2 (Or.inr (slot_ne (Or.inl (wd_89 hw)) (Or.inr (wd_87 hw)) (by decide) (t := .int) (t' := .float) (by decide) (by decide))))
  have f6 := (P5.other W2 (Or.inr (slot_ne (Or.inr (wd_91 hw)) (Or.inr (wd_87 hw)) (by decide) (t := .boolean) (t' := .float) (by decide) (by decide))))
  refine Rch.void X2 hx hret hlk (hb hby d7_10) (by decide) (by decide) ?_
  try rw [e2]
  exact ⟨rfl, N2, ((Keep.refl _ _).wr W2 (Or.inl (List.mem_of_getElem? (i := 0) rfl))), F2, f5, f6⟩
theorem d12_4 : decode jdk_94_method_16_code 4 = .ok (.aload_n 0, 1) := by decide +kernel
theorem d12_5 : decode jdk_94_method_16_code 5 = .ok (.iconst 0, 1) := by decide +kernel
theorem d12_6 : decode jdk_94_method_16_code 6 = .ok (.putfield 1, 3) := by decide +kernel
theorem wd_88 {Z : State} {a0 : Array Value} (hw : ∀ d ∈ tables_1, d.before a0 Z = true) : (Jvm.Cond.fieldLink s3' (1 : Nat) s3' "putMode" "I").before a0 Z = true := hw _ (List.mem_of_getElem? (i := 88) rfl)
theorem d12_9 : decode jdk_94_method_16_code 9 = .ok (.aload_n 0, 1) := by decide +kernel
theorem d12_10 : decode jdk_94_method_16_code 10 = .ok (.iconst 0, 1) := by decide +kernel
theorem d12_11 : decode jdk_94_method_16_code 11 = .ok (.putfield 64, 3) := by decide +kernel
theorem wd_90 {Z : State} {a0 : Array Value} (hw : ∀ d ∈ tables_1, d.before a0 Z = true) : (Jvm.Cond.fieldLink s3' (64 : Nat) s3' "accessOrder" "Z").before a0 Z = true := hw _ (List.mem_of_getElem? (i := 90) rfl)
theorem d12_14 : decode jdk_94_method_16_code 14 = .ok (.return_, 1) := by decide +kernel
theorem pn_java_util_LinkedHashMap : plainName s3' = true := by first | (simp [plainName, overriddenIn]; done) | decide +kernel
set_option maxRecDepth 65536 in
set_option maxHeartbeats 4000000 in
theorem ef_m12_init (m : MethodId) (x1 : Addr) : entryFrame m #[(.ref x1)] 1 = mkF m 0 #[rv x1] [] := by first | rfl | (simp [entryFrame, mkF, argsToLocals, Value.category]; done)
set_option maxRecDepth 65536 in
set_option maxHeartbeats 40000000 in
theorem m12_init (l : Launch) (Z : State) (a0 : Array Value) (hw : ∀ d ∈ tables_1, d.before a0 Z = true) (x1 : Addr) (h0 : Heap) (n0 : Nat) (Z0 : n0 ≤ h0.size) (O0 : Old Z n0 h0) (P1 : Exa Z h0 x1 s3') (P2 : Fld Z h0 x1 "java/util/HashMap" "loadFactor" "F" (.float (0 : UInt32))) (P3 : n0 ≤ x1) (P4 : Fld Z h0 x1 s3' "putMode" "I" (.int (0 : Int32))) (P5 : Fld Z h0 x1 s3' "accessOrder" "Z" (.int (0 : Int32))) :
    Ctr l Z [] (⟨s3', "<init>", "()V"⟩ : MethodName) jdk_94_method_16_code 1 none #[(.ref x1)] h0 ({ frames := 3, cells := 0, slots := 0, locals := 36 } : Room) (fun v h L => v = none ∧ Fr n0 L ∧ Keep h0 h [x1] ∧ Fld Z h x1 "java/util/HashMap" "loadFactor" "F" (.float (1061158912 : UInt32)) ∧ Fld Z h x1 s3' "putMode" "I" (.int (0 : Int32)) ∧ Fld Z h x1 s3' "accessOrder" "Z" (.int (0 : Int32))) := by
  refine Ctr.of (plainFor_of_name pn_java_util_LinkedHashMap) (fun m => ef_m12_init m x1) ?_
  intro p e s m below meth c T0 hx hZ hby hml hown hnm hret hlk X0 e0
  have N0 := Fr.nil n0
  show Rch p e below _ (T0.setTop (mkF m 0 #[rv x1] []))
  refine Rch.go (fun t k => XS.aloadN X0.here hx rfl (hb hby d12_0) rfl rfl k) ?_
  show Rch p e below _ (T0.setTop (mkF m 1 #[rv x1] [(.ref x1)]))
  obtain ⟨v1, T1, L1, X1, Q1, st1⟩ := callSp X0 hx hZ (m13_init l Z a0 hw x1 h0 n0 Z0 O0 P1 P2 P3 P4 P5) e0 hown rfl (wd_83 hw) (wd_37 hw) (wd_38 hw) (wd_35 hw) (by decide) (hb hby d12_1) 0 (by decide) (by decide) (by decide) (by decide) (by rw [hml]; rfl) x1 [] [] rfl (lenOf pd_5 rfl) rfl (Nat.le_of_eq rfl) (Ls := #[rv x1])
  obtain ⟨rfl, M1, K1, F1_0, F1_1, F1_2⟩ := Q1
  have N1 := Fr.app N0 M1
  refine Rch.go st1 ?_
  have z2 : n0 ≤ T1.heap.size := (Nat.le_trans Z0 K1.1)
  have o3 := O0.keep K1 (allS P3 all0)
  show Rch p e below _ (T1.setTop (mkF m 4 #[rv x1] []))
  refine Rch.go (fun t k => XS.aloadN X1.here hx rfl (hb hby d12_4) rfl rfl k) ?_
  show Rch p e below _ (T1.setTop (mkF m 5 #[rv x1] [(.ref x1)]))
  refine Rch.go (fun t k => XS.iconst X1.here hx rfl (hb hby d12_5) k) ?_
  show Rch p e below _ (T1.setTop (mkF m 6 #[rv x1] [(.int (0 : Int32)), (.ref x1)]))
  have f5 := (P1.keep K1)
  obtain ⟨T4, h4, X4, e4, W4, st4⟩ := putF X1 hx hZ hown (host := "") (Or.inl (wd_88 hw)) Via.refl rfl F1_1 f5 (Or.inl (wd_89 hw)) (wd_78 hw) (ty := .int) (by decide) rfl rfl (g := (mkF m 6 #[rv x1] [(.int (0 : Int32)), (.ref x1)])) rfl rfl (hb hby d12_6)
  refine Rch.go st4 ?_
  have z6 : n0 ≤ h4.size := (Nat.le_trans z2 (Nat.le_of_eq W4.size.symm))
  have o7 := o3.wr W4 P3
  have F4 := F1_1.same W4
  have N4 := Fr.snoc X4 N1 P3
  show Rch p e below _ (T4.setTop (mkF m 9 #[rv x1] []))
  refine Rch.go (fun t k => XS.aloadN X4.here hx rfl (hb hby d12_9) rfl rfl k) ?_
  show Rch p e below _ (T4.setTop (mkF m 10 #[rv x1] [(.ref x1)]))
  refine Rch.go (fun t k => XS.iconst X4.here hx rfl (hb hby d12_10) k) ?_
  show Rch p e below _ (T4.setTop (mkF m 11 #[rv x1] [(.int (0 : Int32)), (.ref x1)]))
  have f9 := (F1_2.other W4 (Or.inr (slot_ne (Or.inr (wd_91 hw)) (Or.inl (wd_89 hw)) (by decide) (t := .boolean) (t' := .int) (by decide) (by decide))))
  have f10 := (f5.wr W4)
  obtain ⟨T8, h8, X8, e8, W8, st8⟩ := putFN X4 hx hZ hown (wd_90 hw) Via.refl e4 f9 f10 (Or.inr ⟨(wd_91 hw), rfl, hnm⟩) (wd_78 hw) (ty := .boolean) (v' := (.int (0 : Int32))) (by decide) rfl rfl (g := (mkF m 11 #[rv x1] [(.int (0 : Int32)), (.ref x1)])) rfl rfl (hb hby d12_11)
  refine Rch.go st8 ?_
  have z11 : n0 ≤ h8.size := (Nat.le_trans z6 (Nat.le_of_eq W8.size.symm))
  have o12 := o7.wr W8 P3
  have F8 := f9.same W8
  have N8 := Fr.snoc X8 N4 P3
  show Rch p e below _ (T8.setTop (mkF m 14 #[rv x1] []))
  have f13 := ((F1_0.other W4 (Or.inr (slot_ne (Or.inr (wd_87 hw)) (Or.inl (wd_89 hw)) (by decide) (t := .float) (t' := .int) (by decide) (by decide)))).other W8 (Or.inr (slot_ne (Or.inr (wd_87 hw)) (Or.inr (wd_91 hw)) (by decide) (t := .float) (t' := .boolean) (by decide) (by decide))))
  have f14 := (F4.other W8 (Or.inr (slot_ne (Or.inl (wd_89 hw)) (Or.inr (wd_91 hw)) (by decide) (t := .int) (t' := .boolean) (by decide) (by decide))))
  refine Rch.void X8 hx hret hlk (hb hby d12_14) (by decide) (by decide) ?_
  try rw [e8]
  exact ⟨rfl, N8, ((((Keep.refl _ _).trans K1 (allS (Or.inl (List.mem_of_getElem? (i := 0) rfl)) all0)).wr W4 (Or.inl (List.mem_of_getElem? (i := 0) rfl))).wr W8 (Or.inl (List.mem_of_getElem? (i := 0) rfl))), f13, f14, F8⟩
theorem wd_82 {Z : State} {a0 : Array Value} (hw : ∀ d ∈ tables_1, d.before a0 Z = true) : (Jvm.Cond.code ({ cls := s3', name := "<init>", desc := "()V" } : Jvm.MethodName) jdk_94_method_16_code (1 : Nat) (Option.none : Option Jvm.ClassFile.FieldType)).before a0 Z = true := hw _ (List.mem_of_getElem? (i := 82) rfl)
theorem wd_81 {Z : State} {a0 : Array Value} (hw : ∀ d ∈ tables_1, d.before a0 Z = true) : (Jvm.Cond.instanceMethod ({ cls := s3', name := "<init>", desc := "()V" } : Jvm.MethodName)).before a0 Z = true := hw _ (List.mem_of_getElem? (i := 81) rfl)
theorem d11_14 : decode prog_20_method_17_code 14 = .ok (.astore_n 1, 1) := by decide +kernel
theorem d11_15 : decode prog_20_method_17_code 15 = .ok (.aload_n 0, 1) := by decide +kernel
theorem d11_16 : decode prog_20_method_17_code 16 = .ok (.invokeinterface 117 1, 5) := by decide +kernel
theorem wd_92 {Z : State} {a0 : Array Value} (hw : ∀ d ∈ tables_1, d.before a0 Z = true) : (Jvm.Cond.methodLink s1' (117 : Nat) ({ cls := "java/util/Map", name := "entrySet", desc := "()Ljava/util/Set;" } : Jvm.MethodName)).before a0 Z = true := hw _ (List.mem_of_getElem? (i := 92) rfl)
theorem d13_0 : decode jdk_69_method_29_code 0 = .ok (.aload_n 0, 1) := by decide +kernel
theorem d13_1 : decode jdk_69_method_29_code 1 = .ok (.getfield 266, 3) := by decide +kernel
theorem wd_101 {Z : State} {a0 : Array Value} (hw : ∀ d ∈ tables_1, d.before a0 Z = true) : (Jvm.Cond.fieldLink "java/util/HashMap" (266 : Nat) "java/util/HashMap" "entrySet" "Ljava/util/Set;").before a0 Z = true := hw _ (List.mem_of_getElem? (i := 101) rfl)
theorem d13_4 : decode jdk_69_method_29_code 4 = .ok (.dup, 1) := by decide +kernel
theorem d13_5 : decode jdk_69_method_29_code 5 = .ok (.astore_n 1, 1) := by decide +kernel
theorem d13_6 : decode jdk_69_method_29_code 6 = .ok (.ifnonnull 19, 3) := by decide +kernel
theorem d13_9 : decode jdk_69_method_29_code 9 = .ok (.aload_n 0, 1) := by decide +kernel
theorem d13_10 : decode jdk_69_method_29_code 10 = .ok (.new 268, 3) := by decide +kernel
theorem wd_103 {Z : State} {a0 : Array Value} (hw : ∀ d ∈ tables_1, d.before a0 Z = true) : (Jvm.Cond.classLink "java/util/HashMap" (268 : Nat) s4').before a0 Z = true := hw _ (List.mem_of_getElem? (i := 103) rfl)
theorem wd_104 {Z : State} {a0 : Array Value} (hw : ∀ d ∈ tables_1, d.before a0 Z = true) : (Jvm.Cond.instantiable s4' (1 : Nat)).before a0 Z = true := hw _ (List.mem_of_getElem? (i := 104) rfl)
theorem wd_105 {Z : State} {a0 : Array Value} (hw : ∀ d ∈ tables_1, d.before a0 Z = true) : (Jvm.Cond.initialized s4').before a0 Z = true := hw _ (List.mem_of_getElem? (i := 105) rfl)
theorem wd_111 {Z : State} {a0 : Array Value} (hw : ∀ d ∈ tables_1, d.before a0 Z = true) : (Jvm.Cond.laysFinal s4' s4' "this$0" "Ljava/util/HashMap;").before a0 Z = true := hw _ (List.mem_of_getElem? (i := 111) rfl)
theorem d13_13 : decode jdk_69_method_29_code 13 = .ok (.dup, 1) := by decide +kernel
theorem d13_14 : decode jdk_69_method_29_code 14 = .ok (.aload_n 0, 1) := by decide +kernel
theorem d13_15 : decode jdk_69_method_29_code 15 = .ok (.invokespecial 270, 3) := by decide +kernel
theorem wd_106 {Z : State} {a0 : Array Value} (hw : ∀ d ∈ tables_1, d.before a0 Z = true) : (Jvm.Cond.methodLink "java/util/HashMap" (270 : Nat) ({ cls := s4', name := "<init>", desc := "(Ljava/util/HashMap;)V" } : Jvm.MethodName)).before a0 Z = true := hw _ (List.mem_of_getElem? (i := 106) rfl)
theorem d14_0 : decode jdk_111_method_1_code 0 = .ok (.aload_n 0, 1) := by decide +kernel
theorem d14_1 : decode jdk_111_method_1_code 1 = .ok (.aload_n 1, 1) := by decide +kernel
theorem d14_2 : decode jdk_111_method_1_code 2 = .ok (.putfield 1, 3) := by decide +kernel
theorem wd_110 {Z : State} {a0 : Array Value} (hw : ∀ d ∈ tables_1, d.before a0 Z = true) : (Jvm.Cond.fieldLink s4' (1 : Nat) s4' "this$0" "Ljava/util/HashMap;").before a0 Z = true := hw _ (List.mem_of_getElem? (i := 110) rfl)
theorem d14_5 : decode jdk_111_method_1_code 5 = .ok (.aload_n 0, 1) := by decide +kernel
theorem d14_6 : decode jdk_111_method_1_code 6 = .ok (.invokespecial 7, 3) := by decide +kernel
theorem wd_112 {Z : State} {a0 : Array Value} (hw : ∀ d ∈ tables_1, d.before a0 Z = true) : (Jvm.Cond.methodLink s4' (7 : Nat) ({ cls := "java/util/AbstractSet", name := "<init>", desc := "()V" } : Jvm.MethodName)).before a0 Z = true := hw _ (List.mem_of_getElem? (i := 112) rfl)
theorem d15_0 : decode jdk_91_method_1_code 0 = .ok (.aload_n 0, 1) := by decide +kernel
theorem d15_1 : decode jdk_91_method_1_code 1 = .ok (.invokespecial 1, 3) := by decide +kernel
theorem wd_118 {Z : State} {a0 : Array Value} (hw : ∀ d ∈ tables_1, d.before a0 Z = true) : (Jvm.Cond.methodLink "java/util/AbstractSet" (1 : Nat) ({ cls := "java/util/AbstractCollection", name := "<init>", desc := "()V" } : Jvm.MethodName)).before a0 Z = true := hw _ (List.mem_of_getElem? (i := 118) rfl)
theorem d16_0 : decode jdk_22_method_1_code 0 = .ok (.aload_n 0, 1) := by decide +kernel
theorem d16_1 : decode jdk_22_method_1_code 1 = .ok (.invokespecial 1, 3) := by decide +kernel
theorem wd_124 {Z : State} {a0 : Array Value} (hw : ∀ d ∈ tables_1, d.before a0 Z = true) : (Jvm.Cond.methodLink "java/util/AbstractCollection" (1 : Nat) ({ cls := "java/lang/Object", name := "<init>", desc := "()V" } : Jvm.MethodName)).before a0 Z = true := hw _ (List.mem_of_getElem? (i := 124) rfl)
theorem d16_4 : decode jdk_22_method_1_code 4 = .ok (.return_, 1) := by decide +kernel
theorem pn_java_util_AbstractCollection : plainName "java/util/AbstractCollection" = true := by first | (simp [plainName, overriddenIn]; done) | decide +kernel
set_option maxRecDepth 65536 in
set_option maxHeartbeats 4000000 in
theorem ef_m17_init (m : MethodId) (x1 : Addr) : entryFrame m #[(.ref x1)] 1 = mkF m 0 #[rv x1] [] := by first | rfl | (simp [entryFrame, mkF, argsToLocals, Value.category]; done)
set_option maxRecDepth 65536 in
set_option maxHeartbeats 40000000 in
theorem m17_init (l : Launch) (Z : State) (a0 : Array Value) (hw : ∀ d ∈ tables_1, d.before a0 Z = true) (x1 : Addr) (h0 : Heap) (n0 : Nat) (Z0 : n0 ≤ h0.size) (O0 : Old Z n0 h0) :
    Ctr l Z [] (⟨"java/util/AbstractCollection", "<init>", "()V"⟩ : MethodName) jdk_22_method_1_code 1 none #[(.ref x1)] h0 ({ frames := 1, cells := 0, slots := 0, locals := 12 } : Room) (fun v h L => v = none ∧ Fr n0 L ∧ h = h0) := by
  refine Ctr.of (plainFor_of_name pn_java_util_AbstractCollection) (fun m => ef_m17_init m x1) ?_
  intro p e s m below meth c T0 hx hZ hby hml hown hnm hret hlk X0 e0
  have N0 := Fr.nil n0
  show Rch p e below _ (T0.setTop (mkF m 0 #[rv x1] []))
  refine Rch.go (fun t k => XS.aloadN X0.here hx rfl (hb hby d16_0) rfl rfl k) ?_
  show Rch p e below _ (T0.setTop (mkF m 1 #[rv x1] [(.ref x1)]))
  obtain ⟨T1, X1, e1, st1⟩ := initO X0 hx hZ hown (wd_124 hw) (wd_20 hw) (wd_21 hw) e0 (g := (mkF m 1 #[rv x1] [(.ref x1)])) rfl (by rw [hml]; rfl) rfl (hb hby d16_1) (by decide) (W := 0) (by show 2 * 0 + _ ≤ _; exact Nat.le_of_eq rfl) (by decide)
  refine Rch.go st1 ?_
  show Rch p e below _ (T1.setTop (mkF m 4 #[rv x1] []))
  refine Rch.void X1 hx hret hlk (hb hby d16_4) (by decide) (by decide) ?_
  try rw [e1]
  exact ⟨rfl, N0, rfl⟩
theorem wd_123 {Z : State} {a0 : Array Value} (hw : ∀ d ∈ tables_1, d.before a0 Z = true) : (Jvm.Cond.code ({ cls := "java/util/AbstractCollection", name := "<init>", desc := "()V" } : Jvm.MethodName) jdk_22_method_1_code (1 : Nat) (Option.none : Option Jvm.ClassFile.FieldType)).before a0 Z = true := hw _ (List.mem_of_getElem? (i := 123) rfl)
theorem wd_122 {Z : State} {a0 : Array Value} (hw : ∀ d ∈ tables_1, d.before a0 Z = true) : (Jvm.Cond.initialized "java/util/AbstractCollection").before a0 Z = true := hw _ (List.mem_of_getElem? (i := 122) rfl)
theorem wd_119 {Z : State} {a0 : Array Value} (hw : ∀ d ∈ tables_1, d.before a0 Z = true) : (Jvm.Cond.instanceMethod ({ cls := "java/util/AbstractCollection", name := "<init>", desc := "()V" } : Jvm.MethodName)).before a0 Z = true := hw _ (List.mem_of_getElem? (i := 119) rfl)
theorem d15_4 : decode jdk_91_method_1_code 4 = .ok (.return_, 1) := by decide +kernel
theorem pn_java_util_AbstractSet : plainName "java/util/AbstractSet" = true := by first | (simp [plainName, overriddenIn]; done) | decide +kernel
set_option maxRecDepth 65536 in
set_option maxHeartbeats 4000000 in
theorem ef_m16_init (m : MethodId) (x1 : Addr) : entryFrame m #[(.ref x1)] 1 = mkF m 0 #[rv x1] [] := by first | rfl | (simp [entryFrame, mkF, argsToLocals, Value.category]; done)
set_option maxRecDepth 65536 in
set_option maxHeartbeats 40000000 in
theorem m16_init (l : Launch) (Z : State) (a0 : Array Value) (hw : ∀ d ∈ tables_1, d.before a0 Z = true) (x1 : Addr) (h0 : Heap) (n0 : Nat) (Z0 : n0 ≤ h0.size) (O0 : Old Z n0 h0) :
    Ctr l Z [] (⟨"java/util/AbstractSet", "<init>", "()V"⟩ : MethodName) jdk_91_method_1_code 1 none #[(.ref x1)] h0 ({ frames := 2, cells := 0, slots := 0, locals := 24 } : Room) (fun v h L => v = none ∧ Fr n0 L ∧ h = h0) := by
  refine Ctr.of (plainFor_of_name pn_java_util_AbstractSet) (fun m => ef_m16_init m x1) ?_
  intro p e s m below meth c T0 hx hZ hby hml hown hnm hret hlk X0 e0
  have N0 := Fr.nil n0
  show Rch p e below _ (T0.setTop (mkF m 0 #[rv x1] []))
  refine Rch.go (fun t k => XS.aloadN X0.here hx rfl (hb hby d15_0) rfl rfl k) ?_
  show Rch p e below _ (T0.setTop (mkF m 1 #[rv x1] [(.ref x1)]))
  obtain ⟨v1, T1, L1, X1, Q1, st1⟩ := callSp X0 hx hZ (m17_init l Z a0 hw x1 h0 n0 Z0 O0 ) e0 hown rfl (wd_118 hw) (wd_119 hw) (wd_123 hw) (wd_122 hw) (by decide) (hb hby d15_1) 0 (by decide) (by decide) (by decide) (by decide) (by rw [hml]; rfl) x1 [] [] rfl (lenOf pd_5 rfl) rfl (Nat.le_of_eq rfl) (Ls := #[rv x1])
  obtain ⟨rfl, M1, e1⟩ := Q1
  have N1 := Fr.app N0 M1
  refine Rch.go st1 ?_
  show Rch p e below _ (T1.setTop (mkF m 4 #[rv x1] []))
  refine Rch.void X1 hx hret hlk (hb hby d15_4) (by decide) (by decide) ?_
  try rw [e1]
  exact ⟨rfl, N1, rfl⟩
theorem wd_117 {Z : State} {a0 : Array Value} (hw : ∀ d ∈ tables_1, d.before a0 Z = true) : (Jvm.Cond.code ({ cls := "java/util/AbstractSet", name := "<init>", desc := "()V" } : Jvm.MethodName) jdk_91_method_1_code (1 : Nat) (Option.none : Option Jvm.ClassFile.FieldType)).before a0 Z = true := hw _ (List.mem_of_getElem? (i := 117) rfl)
theorem wd_116 {Z : State} {a0 : Array Value} (hw : ∀ d ∈ tables_1, d.before a0 Z = true) : (Jvm.Cond.initialized "java/util/AbstractSet").before a0 Z = true := hw _ (List.mem_of_getElem? (i := 116) rfl)
theorem wd_113 {Z : State} {a0 : Array Value} (hw : ∀ d ∈ tables_1, d.before a0 Z = true) : (Jvm.Cond.instanceMethod ({ cls := "java/util/AbstractSet", name := "<init>", desc := "()V" } : Jvm.MethodName)).before a0 Z = true := hw _ (List.mem_of_getElem? (i := 113) rfl)
theorem d14_9 : decode jdk_111_method_1_code 9 = .ok (.return_, 1) := by decide +kernel
theorem pn_java_util_HashMap_EntrySet : plainName s4' = true := by first | (simp [plainName, overriddenIn]; done) | decide +kernel
set_option maxRecDepth 65536 in
set_option maxHeartbeats 4000000 in
theorem ef_m15_init (m : MethodId) (x1 : Addr) (x2 : Addr) : entryFrame m #[(.ref x1), (.ref x2)] 2 = mkF m 0 #[rv x1, rv x2] [] := by first | rfl | (simp [entryFrame, mkF, argsToLocals, Value.category]; done)
set_option maxRecDepth 65536 in
set_option maxHeartbeats 40000000 in
theorem m15_init (l : Launch) (Z : State) (a0 : Array Value) (hw : ∀ d ∈ tables_1, d.before a0 Z = true) (x1 : Addr) (x2 : Addr) (h0 : Heap) (n0 : Nat) (Z0 : n0 ≤ h0.size) (O0 : Old Z n0 h0) (P1 : Exa Z h0 x1 s4') (P2 : Fld Z h0 x1 s4' "this$0" "Ljava/util/HashMap;" .null) (P3 : n0 ≤ x1) :
    Ctr l Z [] (⟨s4', "<init>", "(Ljava/util/HashMap;)V"⟩ : MethodName) jdk_111_method_1_code 2 none #[(.ref x1), (.ref x2)] h0 ({ frames := 3, cells := 0, slots := 0, locals := 36 } : Room) (fun v h L => v = none ∧ Fr n0 L ∧ Keep h0 h [x1] ∧ Fld Z h x1 s4' "this$0" "Ljava/util/HashMap;" (.ref x2)) := by
  refine Ctr.of (plainFor_of_name pn_java_util_HashMap_EntrySet) (fun m => ef_m15_init m x1 x2) ?_
  intro p e s m below meth c T0 hx hZ hby hml hown hnm hret hlk X0 e0
  have N0 := Fr.nil n0
  show Rch p e below _ (T0.setTop (mkF m 0 #[rv x1, rv x2] []))
  refine Rch.go (fun t k => XS.aloadN X0.here hx rfl (hb hby d14_0) rfl rfl k) ?_
  show Rch p e below _ (T0.setTop (mkF m 1 #[rv x1, rv x2] [(.ref x1)]))
  refine Rch.go (fun t k => XS.aloadN X0.here hx rfl (hb hby d14_1) rfl rfl k) ?_
  show Rch p e below _ (T0.setTop (mkF m 2 #[rv x1, rv x2] [(.ref x2), (.ref x1)]))
  obtain ⟨T1, h1, X1, e1, W1, st1⟩ := putF X0 hx hZ hown (host := "") (Or.inl (wd_110 hw)) Via.refl e0 P2 P1 (Or.inr ⟨(wd_111 hw), rfl, hnm⟩) (wd_104 hw) (ty := (.object "java/util/HashMap")) (by decide) rfl rfl (g := (mkF m 2 #[rv x1, rv x2] [(.ref x2), (.ref x1)])) rfl rfl (hb hby d14_2)
  refine Rch.go st1 ?_
  have z2 : n0 ≤ h1.size := (Nat.le_trans Z0 (Nat.le_of_eq W1.size.symm))
  have o3 := O0.wr W1 P3
  have F1 := P2.same W1
  have N1 := Fr.snoc X1 N0 P3
  show Rch p e below _ (T1.setTop (mkF m 5 #[rv x1, rv x2] []))
  refine Rch.go (fun t k => XS.aloadN X1.here hx rfl (hb hby d14_5) rfl rfl k) ?_
  show Rch p e below _ (T1.setTop (mkF m 6 #[rv x1, rv x2] [(.ref x1)]))
  obtain ⟨v4, T4, L4, X4, Q4, st4⟩ := callSp X1 hx hZ (m16_init l Z a0 hw x1 h1 n0 z2 o3 ) e1 hown rfl (wd_112 hw) (wd_113 hw) (wd_117 hw) (wd_116 hw) (by decide) (hb hby d14_6) 0 (by decide) (by decide) (by decide) (by decide) (by rw [hml]; rfl) x1 [] [] rfl (lenOf pd_5 rfl) rfl (Nat.le_of_eq rfl) (Ls := #[rv x1, rv x2])
  obtain ⟨rfl, M4, e4⟩ := Q4
  have N4 := Fr.app N1 M4
  refine Rch.go st4 ?_
  show Rch p e below _ (T4.setTop (mkF m 9 #[rv x1, rv x2] []))
  refine Rch.void X4 hx hret hlk (hb hby d14_9) (by decide) (by decide) ?_
  try rw [e4]
  exact ⟨rfl, N4, ((Keep.refl _ _).wr W1 (Or.inl (List.mem_of_getElem? (i := 0) rfl))), F1⟩
theorem wd_109 {Z : State} {a0 : Array Value} (hw : ∀ d ∈ tables_1, d.before a0 Z = true) : (Jvm.Cond.code ({ cls := s4', name := "<init>", desc := "(Ljava/util/HashMap;)V" } : Jvm.MethodName) jdk_111_method_1_code (2 : Nat) (Option.none : Option Jvm.ClassFile.FieldType)).before a0 Z = true := hw _ (List.mem_of_getElem? (i := 109) rfl)
theorem pd_7 : parseMethodDescriptor "(Ljava/util/HashMap;)V" = some ⟨[(.object "java/util/HashMap")], none⟩ := by decide +kernel
theorem wd_107 {Z : State} {a0 : Array Value} (hw : ∀ d ∈ tables_1, d.before a0 Z = true) : (Jvm.Cond.instanceMethod ({ cls := s4', name := "<init>", desc := "(Ljava/util/HashMap;)V" } : Jvm.MethodName)).before a0 Z = true := hw _ (List.mem_of_getElem? (i := 107) rfl)
theorem d13_18 : decode jdk_69_method_29_code 18 = .ok (.dup_x1, 1) := by decide +kernel
theorem d13_19 : decode jdk_69_method_29_code 19 = .ok (.putfield 266, 3) := by decide +kernel
theorem d13_22 : decode jdk_69_method_29_code 22 = .ok (.goto 4, 3) := by decide +kernel
theorem d13_26 : decode jdk_69_method_29_code 26 = .ok (.areturn, 1) := by decide +kernel
set_option maxRecDepth 65536 in
set_option maxHeartbeats 4000000 in
theorem ef_m14_entrySet (m : MethodId) (x1 : Addr) : entryFrame m #[(.ref x1)] 2 = mkF m 0 #[rv x1, .unset] [] := by first | rfl | (simp [entryFrame, mkF, argsToLocals, Value.category]; done)
set_option maxRecDepth 65536 in
set_option maxHeartbeats 40000000 in
theorem m14_entrySet (l : Launch) (Z : State) (a0 : Array Value) (hw : ∀ d ∈ tables_1, d.before a0 Z = true) (x1 : Addr) (h0 : Heap) (n0 : Nat) (Z0 : n0 ≤ h0.size) (O0 : Old Z n0 h0) (P1 : Fld Z h0 x1 "java/util/HashMap" "entrySet" "Ljava/util/Set;" .null) (P2 : Exa Z h0 x1 "java/util/HashMap") (P3 : n0 ≤ x1) (P4 : Fld Z h0 x1 "java/util/HashMap" "loadFactor" "F" (.float (1061158912 : UInt32))) (P5 : Fld Z h0 x1 "java/util/HashMap" "modCount" "I" (.int (0 : Int32))) (P6 : Fld Z h0 x1 "java/util/HashMap" "table" "[Ljava/util/HashMap$Node;" .null) :
    Ctr l Z [] (⟨"java/util/HashMap", "entrySet", "()Ljava/util/Set;"⟩ : MethodName) jdk_69_method_29_code 2 (some (.object "java/util/Set")) #[(.ref x1)] h0 ({ frames := 4, cells := 1, slots := 1, locals := 51 } : Room) (fun v h L => ∃ (b2 : Addr), v = some (.ref b2) ∧ Fr n0 L ∧ Keep h0 h [x1] ∧ h0.size ≤ b2 ∧ Fld Z h x1 "java/util/HashMap" "entrySet" "Ljava/util/Set;" (.ref b2) ∧ Exa Z h b2 s4' ∧ Fld Z h b2 s4' "this$0" "Ljava/util/HashMap;" (.ref x1) ∧ Fld Z h x1 "java/util/HashMap" "loadFactor" "F" (.float (1061158912 : UInt32)) ∧ Fld Z h x1 "java/util/HashMap" "modCount" "I" (.int (0 : Int32)) ∧ Fld Z h x1 "java/util/HashMap" "table" "[Ljava/util/HashMap$Node;" .null) := by
  refine Ctr.of (plainFor_of_name pn_java_util_HashMap) (fun m => ef_m14_entrySet m x1) ?_
  intro p e s m below meth c T0 hx hZ hby hml hown hnm hret hlk X0 e0
  have N0 := Fr.nil n0
  show Rch p e below _ (T0.setTop (mkF m 0 #[rv x1, .unset] []))
  refine Rch.go (fun t k => XS.aloadN X0.here hx rfl (hb hby d13_0) rfl rfl k) ?_
  show Rch p e below _ (T0.setTop (mkF m 1 #[rv x1, .unset] [(.ref x1)]))
  obtain ⟨T1, X1, e1, st1⟩ := getF X0 hx hZ hown (host := "") (Or.inl (wd_101 hw)) Via.refl e0 P1 (g := (mkF m 1 #[rv x1, .unset] [(.ref x1)])) rfl rfl (hb hby d13_1)
  refine Rch.go st1 ?_
  show Rch p e below _ (T1.setTop (mkF m 4 #[rv x1, .unset] [.null]))
  refine Rch.go (fun t k => XS.dup X1.here hx rfl (hb hby d13_4) rfl rfl k) ?_
  show Rch p e below _ (T1.setTop (mkF m 5 #[rv x1, .unset] [.null, .null]))
  refine Rch.go (fun t k => XS.astoreN X1.here hx rfl (hb hby d13_5) rfl rfl (l' := #[rv x1, .val .null]) rfl k) ?_
  show Rch p e below _ (T1.setTop (mkF m 6 #[rv x1, .val .null] [.null]))
  refine Rch.go (fun t k => XS.ifnonnullNo X1.here hx rfl (hb hby d13_6) rfl k) ?_
  show Rch p e below _ (T1.setTop (mkF m 9 #[rv x1, .val .null] []))
  refine Rch.go (fun t k => XS.aloadN X1.here hx rfl (hb hby d13_9) rfl rfl k) ?_
  show Rch p e below _ (T1.setTop (mkF m 10 #[rv x1, .val .null] [(.ref x1)]))
  obtain ⟨T2, h2, X2, e2, E2, A2, D2, -, st2⟩ := newO X1 hx hZ hown (wd_103 hw) (wd_104 hw) (wd_105 hw) e1 (g := (mkF m 10 #[rv x1, .val .null] [(.ref x1)])) rfl (hb hby d13_10) (by decide) (by decide)
  obtain ⟨b2, g2⟩ : ∃ z, z = h0.size := ⟨_, rfl⟩
  rw [← g2] at A2 D2 st2
  refine Rch.go st2 ?_
  have z3 : n0 ≤ h2.size := (Nat.le_trans Z0 E2.1)
  have o4 := O0.ext E2
  have g_b2 : n0 ≤ b2 := Nat.le_trans Z0 (Nat.le_of_eq g2.symm)
  have F2_this_0 : Fld Z h2 b2 s4' "this$0" "Ljava/util/HashMap;" .null := (D2 (Or.inr (wd_111 hw)) (ty := (.object "java/util/HashMap")) (by decide))
  show Rch p e below _ (T2.setTop (mkF m 13 #[rv x1, .val .null] [(.ref b2), (.ref x1)]))
  refine Rch.go (fun t k => XS.dup X2.here hx rfl (hb hby d13_13) rfl rfl k) ?_
  show Rch p e below _ (T2.setTop (mkF m 14 #[rv x1, .val .null] [(.ref b2), (.ref b2), (.ref x1)]))
  refine Rch.go (fun t k => XS.aloadN X2.here hx rfl (hb hby d13_14) rfl rfl k) ?_
  show Rch p e below _ (T2.setTop (mkF m 15 #[rv x1, .val .null] [(.ref x1), (.ref b2), (.ref b2), (.ref x1)]))
  obtain ⟨v5, T5, L5, X5, Q5, st5⟩ := callSp X2 hx hZ (m15_init l Z a0 hw b2 x1 h2 n0 z3 o4 A2 F2_this_0 g_b2) e2 hown rfl (wd_106 hw) (wd_107 hw) (wd_109 hw) (wd_105 hw) (by decide) (hb hby d13_15) 2 (by decide) (by decide) (by decide) (by decide) (by rw [hml]; rfl) b2 [(.ref x1)] [(.ref b2), (.ref x1)] rfl (lenOf pd_7 rfl) rfl (Nat.le_of_eq rfl) (Ls := #[rv x1, .val .null])
  obtain ⟨rfl, M5, K5, F5_0⟩ := Q5
  have N5 := Fr.app N0 M5
  refine Rch.go st5 ?_
  have z6 : n0 ≤ T5.heap.size := (Nat.le_trans z3 K5.1)
  have o7 := o4.keep K5 (allS g_b2 all0)
  show Rch p e below _ (T5.setTop (mkF m 18 #[rv x1, .val .null] [(.ref b2), (.ref x1)]))
  refine Rch.go (fun t k => XS.dupX1 X5.here hx rfl (hb hby d13_18) rfl rfl rfl k) ?_
  show Rch p e below _ (T5.setTop (mkF m 19 #[rv x1, .val .null] [(.ref b2), (.ref x1), (.ref b2)]))
  have lt9 := P1.lt
  have ne10 : x1 ≠ b2 := Nat.ne_of_lt (Nat.lt_of_lt_of_le lt9 (Nat.le_of_eq g2.symm))
  have f11 := ((P1.ext E2).keep K5 (ninS ne10 nin0))
  have f12 := ((P2.ext E2).keep K5)
  obtain ⟨T8, h8, X8, e8, W8, st8⟩ := putF X5 hx hZ hown (host := "") (Or.inl (wd_101 hw)) Via.refl rfl f11 f12 (Or.inl (wd_102 hw)) (wd_34 hw) (ty := (.object "java/util/Set")) (by decide) rfl rfl (g := (mkF m 19 #[rv x1, .val .null] [(.ref b2), (.ref x1), (.ref b2)])) rfl rfl (hb hby d13_19)
  refine Rch.go st8 ?_
  have z13 : n0 ≤ h8.size := (Nat.le_trans z6 (Nat.le_of_eq W8.size.symm))
  have o14 := o7.wr W8 P3
  have F8 := f11.same W8
  have N8 := Fr.snoc X8 N5 P3
  show Rch p e below _ (T8.setTop (mkF m 22 #[rv x1, .val .null] [(.ref b2)]))
  refine Rch.go (fun t k => XS.goto X8.here hx rfl (pc0 := 22) (pc' := 26) rfl (hb hby d13_22) (by decide) (by decide) k) ?_
  show Rch p e below _ (T8.setTop (mkF m 26 #[rv x1, .val .null] [(.ref b2)]))
  have f15 := ((A2.keep K5).wr W8)
  have f16 := (F5_0.other W8 (Or.inl (Ne.symm ne10)))
  have f17 := (((P4.ext E2).keep K5 (ninS ne10 nin0)).other W8 (Or.inr (slot_ne (Or.inr (wd_48 hw)) (Or.inl (wd_102 hw)) (by decide) (t := .float) (t' := (.object "java/util/Set")) (by decide) (by decide))))
  have f18 := (((P5.ext E2).keep K5 (ninS ne10 nin0)).other W8 (Or.inr (slot_ne (Or.inl (wd_151 hw)) (Or.inl (wd_102 hw)) (by decide) (t := .int) (t' := (.object "java/util/Set")) (by decide) (by decide))))
  have f19 := (((P6.ext E2).keep K5 (ninS ne10 nin0)).other W8 (Or.inr (slot_ne (Or.inl (wd_155 hw)) (Or.inl (wd_102 hw)) (by decide) (t := (.array (.object s5'))) (t' := (.object "java/util/Set")) (by decide) (by decide))))
  refine Rch.val X8 hx (t := (.object "java/util/Set")) hret hlk rfl (Or.inr (Or.inr (Or.inr (Or.inr ⟨rfl, rfl, rfl⟩)))) (hb hby d13_26) (by decide) (by decide) ?_
  try rw [e8]
  exact ⟨b2, rfl, N8, ((((Keep.refl _ _).ext E2).trans K5 (allS (Or.inr (Nat.le_trans (Nat.le_refl _) (Nat.le_of_eq g2.symm))) all0)).wr W8 (Or.inl (List.mem_of_getElem? (i := 0) rfl))), (Nat.le_trans (Nat.le_refl _) (Nat.le_of_eq g2.symm)), F8, f15, f16, f17, f18, f19⟩
theorem wd_100 {Z : State} {a0 : Array Value} (hw : ∀ d ∈ tables_1, d.before a0 Z = true) : (Jvm.Cond.code ({ cls := "java/util/HashMap", name := "entrySet", desc := "()Ljava/util/Set;" } : Jvm.MethodName) jdk_69_method_29_code (2 : Nat) (Option.some (Jvm.ClassFile.FieldType.object "java/util/Set"))).before a0 Z = true := hw _ (List.mem_of_getElem? (i := 100) rfl)
theorem pd_8 : parseMethodDescriptor "()Ljava/util/Set;" = some ⟨[], some (.object "java/util/Set")⟩ := by decide +kernel
theorem wd_93 {Z : State} {a0 : Array Value} (hw : ∀ d ∈ tables_1, d.before a0 Z = true) : (Jvm.Cond.declares ({ cls := "java/util/Map", name := "entrySet", desc := "()Ljava/util/Set;" } : Jvm.MethodName)).before a0 Z = true := hw _ (List.mem_of_getElem? (i := 93) rfl)
theorem wd_94 {Z : State} {a0 : Array Value} (hw : ∀ d ∈ tables_1, d.before a0 Z = true) : (Jvm.Cond.interfaceMethod "java/util/Map" "java/util/Map" "entrySet" "()Ljava/util/Set;").before a0 Z = true := hw _ (List.mem_of_getElem? (i := 94) rfl)
theorem wd_95 {Z : State} {a0 : Array Value} (hw : ∀ d ∈ tables_1, d.before a0 Z = true) : (Jvm.Cond.selects "java/util/HashMap" ({ cls := "java/util/Map", name := "entrySet", desc := "()Ljava/util/Set;" } : Jvm.MethodName) ({ cls := "java/util/HashMap", name := "entrySet", desc := "()Ljava/util/Set;" } : Jvm.MethodName)).before a0 Z = true := hw _ (List.mem_of_getElem? (i := 95) rfl)
theorem wd_96 {Z : State} {a0 : Array Value} (hw : ∀ d ∈ tables_1, d.before a0 Z = true) : (Jvm.Cond.instanceMethod ({ cls := "java/util/HashMap", name := "entrySet", desc := "()Ljava/util/Set;" } : Jvm.MethodName)).before a0 Z = true := hw _ (List.mem_of_getElem? (i := 96) rfl)
theorem wd_97 {Z : State} {a0 : Array Value} (hw : ∀ d ∈ tables_1, d.before a0 Z = true) : (Jvm.Cond.publicMethod ({ cls := "java/util/HashMap", name := "entrySet", desc := "()Ljava/util/Set;" } : Jvm.MethodName)).before a0 Z = true := hw _ (List.mem_of_getElem? (i := 97) rfl)
theorem wd_98 {Z : State} {a0 : Array Value} (hw : ∀ d ∈ tables_1, d.before a0 Z = true) : (Jvm.Cond.unhidden "java/util/HashMap" "entrySet" "()Ljava/util/Set;").before a0 Z = true := hw _ (List.mem_of_getElem? (i := 98) rfl)
theorem wd_99 {Z : State} {a0 : Array Value} (hw : ∀ d ∈ tables_1, d.before a0 Z = true) : (Jvm.Cond.castable "java/util/HashMap" "java/util/Map").before a0 Z = true := hw _ (List.mem_of_getElem? (i := 99) rfl)
theorem d11_21 : decode prog_20_method_17_code 21 = .ok (.invokeinterface 121 1, 5) := by decide +kernel
theorem wd_125 {Z : State} {a0 : Array Value} (hw : ∀ d ∈ tables_1, d.before a0 Z = true) : (Jvm.Cond.methodLink s1' (121 : Nat) ({ cls := "java/util/Set", name := "iterator", desc := "()Ljava/util/Iterator;" } : Jvm.MethodName)).before a0 Z = true := hw _ (List.mem_of_getElem? (i := 125) rfl)
theorem d17_0 : decode jdk_111_method_4_code 0 = .ok (.new 22, 3) := by decide +kernel
theorem wd_134 {Z : State} {a0 : Array Value} (hw : ∀ d ∈ tables_1, d.before a0 Z = true) : (Jvm.Cond.classLink s4' (22 : Nat) s7').before a0 Z = true := hw _ (List.mem_of_getElem? (i := 134) rfl)
theorem wd_135 {Z : State} {a0 : Array Value} (hw : ∀ d ∈ tables_1, d.before a0 Z = true) : (Jvm.Cond.instantiable s7' (5 : Nat)).before a0 Z = true := hw _ (List.mem_of_getElem? (i := 135) rfl)
theorem wd_136 {Z : State} {a0 : Array Value} (hw : ∀ d ∈ tables_1, d.before a0 Z = true) : (Jvm.Cond.initialized s7').before a0 Z = true := hw _ (List.mem_of_getElem? (i := 136) rfl)
theorem wd_148 {Z : State} {a0 : Array Value} (hw : ∀ d ∈ tables_1, d.before a0 Z = true) : (Jvm.Cond.laysFinal s7' s2' "this$0" "Ljava/util/HashMap;").before a0 Z = true := hw _ (List.mem_of_getElem? (i := 148) rfl)
theorem wd_153 {Z : State} {a0 : Array Value} (hw : ∀ d ∈ tables_1, d.before a0 Z = true) : (Jvm.Cond.lays s7' s2' "expectedModCount" "I").before a0 Z = true := hw _ (List.mem_of_getElem? (i := 153) rfl)
theorem wd_157 {Z : State} {a0 : Array Value} (hw : ∀ d ∈ tables_1, d.before a0 Z = true) : (Jvm.Cond.lays s7' s2' "next" "Ljava/util/HashMap$Node;").before a0 Z = true := hw _ (List.mem_of_getElem? (i := 157) rfl)
theorem wd_159 {Z : State} {a0 : Array Value} (hw : ∀ d ∈ tables_1, d.before a0 Z = true) : (Jvm.Cond.lays s7' s2' "current" "Ljava/util/HashMap$Node;").before a0 Z = true := hw _ (List.mem_of_getElem? (i := 159) rfl)
theorem wd_161 {Z : State} {a0 : Array Value} (hw : ∀ d ∈ tables_1, d.before a0 Z = true) : (Jvm.Cond.lays s7' s2' "index" "I").before a0 Z = true := hw _ (List.mem_of_getElem? (i := 161) rfl)
theorem d17_3 : decode jdk_111_method_4_code 3 = .ok (.dup, 1) := by decide +kernel
theorem d17_4 : decode jdk_111_method_4_code 4 = .ok (.aload_n 0, 1) := by decide +kernel
theorem d17_5 : decode jdk_111_method_4_code 5 = .ok (.getfield 1, 3) := by decide +kernel
theorem d17_8 : decode jdk_111_method_4_code 8 = .ok (.invokespecial 24, 3) := by decide +kernel
theorem wd_137 {Z : State} {a0 : Array Value} (hw : ∀ d ∈ tables_1, d.before a0 Z = true) : (Jvm.Cond.methodLink s4' (24 : Nat) ({ cls := s7', name := "<init>", desc := "(Ljava/util/HashMap;)V" } : Jvm.MethodName)).before a0 Z = true := hw _ (List.mem_of_getElem? (i := 137) rfl)
theorem d18_0 : decode jdk_142_method_1_code 0 = .ok (.aload_n 0, 1) := by decide +kernel
theorem d18_1 : decode jdk_142_method_1_code 1 = .ok (.aload_n 1, 1) := by decide +kernel
theorem d18_2 : decode jdk_142_method_1_code 2 = .ok (.invokespecial 1, 3) := by decide +kernel
theorem wd_141 {Z : State} {a0 : Array Value} (hw : ∀ d ∈ tables_1, d.before a0 Z = true) : (Jvm.Cond.methodLink s7' (1 : Nat) ({ cls := s2', name := "<init>", desc := "(Ljava/util/HashMap;)V" } : Jvm.MethodName)).before a0 Z = true := hw _ (List.mem_of_getElem? (i := 141) rfl)
theorem d19_0 : decode jdk_99_method_1_code 0 = .ok (.aload_n 0, 1) := by decide +kernel
theorem d19_1 : decode jdk_99_method_1_code 1 = .ok (.aload_n 1, 1) := by decide +kernel
theorem d19_2 : decode jdk_99_method_1_code 2 = .ok (.putfield 1, 3) := by decide +kernel
theorem wd_147 {Z : State} {a0 : Array Value} (hw : ∀ d ∈ tables_1, d.before a0 Z = true) : (Jvm.Cond.fieldLink s2' (1 : Nat) s2' "this$0" "Ljava/util/HashMap;").before a0 Z = true := hw _ (List.mem_of_getElem? (i := 147) rfl)
theorem d19_5 : decode jdk_99_method_1_code 5 = .ok (.aload_n 0, 1) := by decide +kernel
theorem d19_6 : decode jdk_99_method_1_code 6 = .ok (.invokespecial 7, 3) := by decide +kernel
theorem wd_149 {Z : State} {a0 : Array Value} (hw : ∀ d ∈ tables_1, d.before a0 Z = true) : (Jvm.Cond.methodLink s2' (7 : Nat) ({ cls := "java/lang/Object", name := "<init>", desc := "()V" } : Jvm.MethodName)).before a0 Z = true := hw _ (List.mem_of_getElem? (i := 149) rfl)
theorem d19_9 : decode jdk_99_method_1_code 9 = .ok (.aload_n 0, 1) := by decide +kernel
theorem d19_10 : decode jdk_99_method_1_code 10 = .ok (.aload_n 1, 1) := by decide +kernel
theorem d19_11 : decode jdk_99_method_1_code 11 = .ok (.getfield 13, 3) := by decide +kernel
theorem wd_150 {Z : State} {a0 : Array Value} (hw : ∀ d ∈ tables_1, d.before a0 Z = true) : (Jvm.Cond.fieldLink s2' (13 : Nat) "java/util/HashMap" "modCount" "I").before a0 Z = true := hw _ (List.mem_of_getElem? (i := 150) rfl)
theorem d19_14 : decode jdk_99_method_1_code 14 = .ok (.putfield 19, 3) := by decide +kernel
theorem wd_152 {Z : State} {a0 : Array Value} (hw : ∀ d ∈ tables_1, d.before a0 Z = true) : (Jvm.Cond.fieldLink s2' (19 : Nat) s2' "expectedModCount" "I").before a0 Z = true := hw _ (List.mem_of_getElem? (i := 152) rfl)
theorem d19_17 : decode jdk_99_method_1_code 17 = .ok (.aload_n 1, 1) := by decide +kernel
theorem d19_18 : decode jdk_99_method_1_code 18 = .ok (.getfield 22, 3) := by decide +kernel
theorem wd_154 {Z : State} {a0 : Array Value} (hw : ∀ d ∈ tables_1, d.before a0 Z = true) : (Jvm.Cond.fieldLink s2' (22 : Nat) "java/util/HashMap" "table" "[Ljava/util/HashMap$Node;").before a0 Z = true := hw _ (List.mem_of_getElem? (i := 154) rfl)
theorem d19_21 : decode jdk_99_method_1_code 21 = .ok (.astore_n 2, 1) := by decide +kernel
theorem d19_22 : decode jdk_99_method_1_code 22 = .ok (.aload_n 0, 1) := by decide +kernel
theorem d19_23 : decode jdk_99_method_1_code 23 = .ok (.aload_n 0, 1) := by decide +kernel
theorem d19_24 : decode jdk_99_method_1_code 24 = .ok (.aconst_null, 1) := by decide +kernel
theorem d19_25 : decode jdk_99_method_1_code 25 = .ok (.dup_x1, 1) := by decide +kernel
theorem d19_26 : decode jdk_99_method_1_code 26 = .ok (.putfield 26, 3) := by decide +kernel
theorem wd_156 {Z : State} {a0 : Array Value} (hw : ∀ d ∈ tables_1, d.before a0 Z = true) : (Jvm.Cond.fieldLink s2' (26 : Nat) s2' "next" "Ljava/util/HashMap$Node;").before a0 Z = true := hw _ (List.mem_of_getElem? (i := 156) rfl)
theorem d19_29 : decode jdk_99_method_1_code 29 = .ok (.putfield 30, 3) := by decide +kernel
theorem wd_158 {Z : State} {a0 : Array Value} (hw : ∀ d ∈ tables_1, d.before a0 Z = true) : (Jvm.Cond.fieldLink s2' (30 : Nat) s2' "current" "Ljava/util/HashMap$Node;").before a0 Z = true := hw _ (List.mem_of_getElem? (i := 158) rfl)
theorem d19_32 : decode jdk_99_method_1_code 32 = .ok (.aload_n 0, 1) := by decide +kernel
theorem d19_33 : decode jdk_99_method_1_code 33 = .ok (.iconst 0, 1) := by decide +kernel
theorem d19_34 : decode jdk_99_method_1_code 34 = .ok (.putfield 33, 3) := by decide +kernel
theorem wd_160 {Z : State} {a0 : Array Value} (hw : ∀ d ∈ tables_1, d.before a0 Z = true) : (Jvm.Cond.fieldLink s2' (33 : Nat) s2' "index" "I").before a0 Z = true := hw _ (List.mem_of_getElem? (i := 160) rfl)
theorem d19_37 : decode jdk_99_method_1_code 37 = .ok (.aload_n 2, 1) := by decide +kernel
theorem d19_38 : decode jdk_99_method_1_code 38 = .ok (.ifnull 40, 3) := by decide +kernel
theorem d19_78 : decode jdk_99_method_1_code 78 = .ok (.return_, 1) := by decide +kernel
theorem pn_java_util_HashMap_HashIterator : plainName s2' = true := by first | (simp [plainName, overriddenIn]; done) | decide +kernel
set_option maxRecDepth 65536 in
set_option maxHeartbeats 4000000 in
theorem ef_m20_init (m : MethodId) (x1 : Addr) (x2 : Addr) : entryFrame m #[(.ref x1), (.ref x2)] 3 = mkF m 0 #[rv x1, rv x2, .unset] [] := by first | rfl | (simp [entryFrame, mkF, argsToLocals, Value.category]; done)
set_option maxRecDepth 65536 in
set_option maxHeartbeats 40000000 in
theorem m20_init (l : Launch) (Z : State) (a0 : Array Value) (hw : ∀ d ∈ tables_1, d.before a0 Z = true) (x1 : Addr) (x2 : Addr) (h0 : Heap) (n0 : Nat) (Z0 : n0 ≤ h0.size) (O0 : Old Z n0 h0) (P1 : Exa Z h0 x1 s7') (P2 : Fld Z h0 x1 s2' "this$0" "Ljava/util/HashMap;" .null) (P3 : n0 ≤ x1) (P4 : Fld Z h0 x2 "java/util/HashMap" "modCount" "I" (.int (0 : Int32))) (P5 : x2 ≠ x1) (P6 : Fld Z h0 x1 s2' "expectedModCount" "I" (.int (0 : Int32))) (P7 : Fld Z h0 x2 "java/util/HashMap" "table" "[Ljava/util/HashMap$Node;" .null) (P8 : Fld Z h0 x1 s2' "next" "Ljava/util/HashMap$Node;" .null) (P9 : Fld Z h0 x1 s2' "current" "Ljava/util/HashMap$Node;" .null) (P10 : Fld Z h0 x1 s2' "index" "I" (.int (0 : Int32))) :
    Ctr l Z [] (⟨s2', "<init>", "(Ljava/util/HashMap;)V"⟩ : MethodName) jdk_99_method_1_code 3 none #[(.ref x1), (.ref x2)] h0 ({ frames := 1, cells := 0, slots := 0, locals := 12 } : Room) (fun v h L => v = none ∧ Fr n0 L ∧ Keep h0 h [x1] ∧ Fld Z h x1 s2' "this$0" "Ljava/util/HashMap;" (.ref x2) ∧ Fld Z h x1 s2' "expectedModCount" "I" (.int (0 : Int32)) ∧ Fld Z h x1 s2' "next" "Ljava/util/HashMap$Node;" .null ∧ Fld Z h x1 s2' "current" "Ljava/util/HashMap$Node;" .null ∧ Fld Z h x1 s2' "index" "I" (.int (0 : Int32))) := by
  refine Ctr.of (plainFor_of_name pn_java_util_HashMap_HashIterator) (fun m => ef_m20_init m x1 x2) ?_
  intro p e s m below meth c T0 hx hZ hby hml hown hnm hret hlk X0 e0
  have N0 := Fr.nil n0
  show Rch p e below _ (T0.setTop (mkF m 0 #[rv x1, rv x2, .unset] []))
  refine Rch.go (fun t k => XS.aloadN X0.here hx rfl (hb hby d19_0) rfl rfl k) ?_
  show Rch p e below _ (T0.setTop (mkF m 1 #[rv x1, rv x2, .unset] [(.ref x1)]))
  refine Rch.go (fun t k => XS.aloadN X0.here hx rfl (hb hby d19_1) rfl rfl k) ?_
  show Rch p e below _ (T0.setTop (mkF m 2 #[rv x1, rv x2, .unset] [(.ref x2), (.ref x1)]))
  obtain ⟨T1, h1, X1, e1, W1, st1⟩ := putF X0 hx hZ hown (host := "") (Or.inl (wd_147 hw)) Via.refl e0 P2 P1 (Or.inr ⟨(wd_148 hw), rfl, hnm⟩) (wd_135 hw) (ty := (.object "java/util/HashMap")) (by decide) rfl rfl (g := (mkF m 2 #[rv x1, rv x2, .unset] [(.ref x2), (.ref x1)])) rfl rfl (hb hby d19_2)
  refine Rch.go st1 ?_
  have z2 : n0 ≤ h1.size := (Nat.le_trans Z0 (Nat.le_of_eq W1.size.symm))
  have o3 := O0.wr W1 P3
  have F1 := P2.same W1
  have N1 := Fr.snoc X1 N0 P3
  show Rch p e below _ (T1.setTop (mkF m 5 #[rv x1, rv x2, .unset] []))
  refine Rch.go (fun t k => XS.aloadN X1.here hx rfl (hb hby d19_5) rfl rfl k) ?_
  show Rch p e below _ (T1.setTop (mkF m 6 #[rv x1, rv x2, .unset] [(.ref x1)]))
  obtain ⟨T4, X4, e4, st4⟩ := initO X1 hx hZ hown (wd_149 hw) (wd_20 hw) (wd_21 hw) e1 (g := (mkF m 6 #[rv x1, rv x2, .unset] [(.ref x1)])) rfl (by rw [hml]; rfl) rfl (hb hby d19_6) (by decide) (W := 0) (by show 2 * 0 + _ ≤ _; exact Nat.le_of_eq rfl) (by decide)
  refine Rch.go st4 ?_
  show Rch p e below _ (T4.setTop (mkF m 9 #[rv x1, rv x2, .unset] []))
  refine Rch.go (fun t k => XS.aloadN X4.here hx rfl (hb hby d19_9) rfl rfl k) ?_
  show Rch p e below _ (T4.setTop (mkF m 10 #[rv x1, rv x2, .unset] [(.ref x1)]))
  refine Rch.go (fun t k => XS.aloadN X4.here hx rfl (hb hby d19_10) rfl rfl k) ?_
  show Rch p e below _ (T4.setTop (mkF m 11 #[rv x1, rv x2, .unset] [(.ref x2), (.ref x1)]))
  have f6 := (P4.other W1 (Or.inl P5))
  obtain ⟨T5, X5, e5, st5⟩ := getF X4 hx hZ hown (host := "") (Or.inl (wd_150 hw)) Via.refl e4 f6 (g := (mkF m 11 #[rv x1, rv x2, .unset] [(.ref x2), (.ref x1)])) rfl rfl (hb hby d19_11)
  refine Rch.go st5 ?_
  show Rch p e below _ (T5.setTop (mkF m 14 #[rv x1, rv x2, .unset] [(.int (0 : Int32)), (.ref x1)]))
  have f8 := (P6.other W1 (Or.inr (slot_ne (Or.inl (wd_153 hw)) (Or.inr (wd_148 hw)) (by decide) (t := .int) (t' := (.object "java/util/HashMap")) (by decide) (by decide))))
  have f9 := (P1.wr W1)
  obtain ⟨T7, h7, X7, e7, W7, st7⟩ := putF X5 hx hZ hown (host := "") (Or.inl (wd_152 hw)) Via.refl e5 f8 f9 (Or.inl (wd_153 hw)) (wd_135 hw) (ty := .int) (by decide) rfl rfl (g := (mkF m 14 #[rv x1, rv x2, .unset] [(.int (0 : Int32)), (.ref x1)])) rfl rfl (hb hby d19_14)
  refine Rch.go st7 ?_
  have z10 : n0 ≤ h7.size := (Nat.le_trans z2 (Nat.le_of_eq W7.size.symm))
  have o11 := o3.wr W7 P3
  have F7 := f8.same W7
  have N7 := Fr.snoc X7 N1 P3
  show Rch p e below _ (T7.setTop (mkF m 17 #[rv x1, rv x2, .unset] []))
  refine Rch.go (fun t k => XS.aloadN X7.here hx rfl (hb hby d19_17) rfl rfl k) ?_
  show Rch p e below _ (T7.setTop (mkF m 18 #[rv x1, rv x2, .unset] [(.ref x2)]))
  have f13 := ((P7.other W1 (Or.inl P5)).other W7 (Or.inl P5))
  obtain ⟨T12, X12, e12, st12⟩ := getF X7 hx hZ hown (host := "") (Or.inl (wd_154 hw)) Via.refl e7 f13 (g := (mkF m 18 #[rv x1, rv x2, .unset] [(.ref x2)])) rfl rfl (hb hby d19_18)
  refine Rch.go st12 ?_
  show Rch p e below _ (T12.setTop (mkF m 21 #[rv x1, rv x2, .unset] [.null]))
  refine Rch.go (fun t k => XS.astoreN X12.here hx rfl (hb hby d19_21) rfl rfl (l' := #[rv x1, rv x2, .val .null]) rfl k) ?_
  show Rch p e below _ (T12.setTop (mkF m 22 #[rv x1, rv x2, .val .null] []))
  refine Rch.go (fun t k => XS.aloadN X12.here hx rfl (hb hby d19_22) rfl rfl k) ?_
  show Rch p e below _ (T12.setTop (mkF m 23 #[rv x1, rv x2, .val .null] [(.ref x1)]))
  refine Rch.go (fun t k => XS.aloadN X12.here hx rfl (hb hby d19_23) rfl rfl k) ?_
  show Rch p e below _ (T12.setTop (mkF m 24 #[rv x1, rv x2, .val .null] [(.ref x1), (.ref x1)]))
  refine Rch.go (fun t k => XS.aconstNull X12.here hx rfl (hb hby d19_24) k) ?_
  show Rch p e below _ (T12.setTop (mkF m 25 #[rv x1, rv x2, .val .null] [.null, (.ref x1), (.ref x1)]))
  refine Rch.go (fun t k => XS.dupX1 X12.here hx rfl (hb hby d19_25) rfl rfl rfl k) ?_
  show Rch p e below _ (T12.setTop (mkF m 26 #[rv x1, rv x2, .val .null] [.null, (.ref x1), .null, (.ref x1)]))
  have f15 := ((P8.other W1 (Or.inr (slot_ne (Or.inl (wd_157 hw)) (Or.inr (wd_148 hw)) (by decide) (t := (.object s5')) (t' := (.object "java/util/HashMap")) (by decide) (by decide)))).other W7 (Or.inr (slot_ne (Or.inl (wd_157 hw)) (Or.inl (wd_153 hw)) (by decide) (t := (.object s5')) (t' := .int) (by decide) (by decide))))
  have f16 := (f9.wr W7)
  obtain ⟨T14, h14, X14, e14, W14, st14⟩ := putF X12 hx hZ hown (host := "") (Or.inl (wd_156 hw)) Via.refl e12 f15 f16 (Or.inl (wd_157 hw)) (wd_135 hw) (ty := (.object s5')) (by decide) rfl rfl (g := (mkF m 26 #[rv x1, rv x2, .val .null] [.null, (.ref x1), .null, (.ref x1)])) rfl rfl (hb hby d19_26)
  refine Rch.go st14 ?_
  have z17 : n0 ≤ h14.size := (Nat.le_trans z10 (Nat.le_of_eq W14.size.symm))
  have o18 := o11.wr W14 P3
  have F14 := f15.same W14
  have N14 := Fr.snoc X14 N7 P3
  show Rch p e below _ (T14.setTop (mkF m 29 #[rv x1, rv x2, .val .null] [.null, (.ref x1)]))
  have f20 := (((P9.other W1 (Or.inr (slot_ne (Or.inl (wd_159 hw)) (Or.inr (wd_148 hw)) (by decide) (t := (.object s5')) (t' := (.object "java/util/HashMap")) (by decide) (by decide)))).other W7 (Or.inr (slot_ne (Or.inl (wd_159 hw)) (Or.inl (wd_153 hw)) (by decide) (t := (.object s5')) (t' := .int) (by decide) (by decide)))).other W14 (Or.inr (slot_ne (Or.inl (wd_159 hw)) (Or.inl (wd_157 hw)) (by decide) (t := (.object s5')) (t' := (.object s5')) (by decide) (by decide))))
  have f21 := (f16.wr W14)
  obtain ⟨T19, h19, X19, e19, W19, st19⟩ := putF X14 hx hZ hown (host := "") (Or.inl (wd_158 hw)) Via.refl e14 f20 f21 (Or.inl (wd_159 hw)) (wd_135 hw) (ty := (.object s5')) (by decide) rfl rfl (g := (mkF m 29 #[rv x1, rv x2, .val .null] [.null, (.ref x1)])) rfl rfl (hb hby d19_29)
  refine Rch.go st19 ?_
  have z22 : n0 ≤ h19.size := (Nat.le_trans z17 (Nat.le_of_eq W19.size.symm))
  have o23 := o18.wr W19 P3
  have F19 := f20.same W19
  have N19 := Fr.snoc X19 N14 P3
  show Rch p e below _ (T19.setTop (mkF m 32 #[rv x1, rv x2, .val .null] []))
  refine Rch.go (fun t k => XS.aloadN X19.here hx rfl (hb hby d19_32) rfl rfl k) ?_
  show Rch p e below _ (T19.setTop (mkF m 33 #[rv x1, rv x2, .val .null] [(.ref x1)]))
  refine Rch.go (fun t k => XS.iconst X19.here hx rfl (hb hby d19_33) k) ?_
  show Rch p e below _ (T19.setTop (mkF m 34 #[rv x1, rv x2, .val .null] [(.int (0 : Int32)), (.ref x1)]))
  have f25 := ((((P10.other W1 (Or.inr (slot_ne (Or.inl (wd_161 hw)) (Or.inr (wd_148 hw)) (by decide) (t := .int) (t' := (.object "java/util/HashMap")) (by decide) (by decide)))).other W7 (Or.inr (slot_ne (Or.inl (wd_161 hw)) (Or.inl (wd_153 hw)) (by decide) (t := .int) (t' := .int) (by decide) (by decide)))).other W14 (Or.inr (slot_ne (Or.inl (wd_161 hw)) (Or.inl (wd_157 hw)) (by decide) (t := .int) (t' := (.object s5')) (by decide) (by decide)))).other W19 (Or.inr (slot_ne (Or.inl (wd_161 hw)) (Or.inl (wd_159 hw)) (by decide) (t := .int) (t' := (.object s5')) (by decide) (by decide))))
  have f26 := (f21.wr W19)
  obtain ⟨T24, h24, X24, e24, W24, st24⟩ := putF X19 hx hZ hown (host := "") (Or.inl (wd_160 hw)) Via.refl e19 f25 f26 (Or.inl (wd_161 hw)) (wd_135 hw) (ty := .int) (by decide) rfl rfl (g := (mkF m 34 #[rv x1, rv x2, .val .null] [(.int (0 : Int32)), (.ref x1)])) rfl rfl (hb hby d19_34)
  refine Rch.go st24 ?_
  have z27 : n0 ≤ h24.size := (Nat.le_trans z22 (Nat.le_of_eq W24.size.symm))
  have o28 := o23.wr W24 P3
  have F24 := f25.same W24
  have N24 := Fr.snoc X24 N19 P3
  show Rch p e below _ (T24.setTop (mkF m 37 #[rv x1, rv x2, .val .null] []))
  refine Rch.go (fun t k => XS.aloadN X24.here hx rfl (hb hby d19_37) rfl rfl k) ?_
  show Rch p e below _ (T24.setTop (mkF m 38 #[rv x1, rv x2, .val .null] [.null]))
  refine Rch.go (fun t k => XS.ifnullYes X24.here hx rfl (pc0 := 38) (pc' := 78) rfl (hb hby d19_38) rfl (by decide) (by decide) k) ?_
  show Rch p e below _ (T24.setTop (mkF m 78 #[rv x1, rv x2, .val .null] []))
  have f29 := ((((F1.other W7 (Or.inr (slot_ne (Or.inr (wd_148 hw)) (Or.inl (wd_153 hw)) (by decide) (t := (.object "java/util/HashMap")) (t' := .int) (by decide) (by decide)))).other W14 (Or.inr (slot_ne (Or.inr (wd_148 hw)) (Or.inl (wd_157 hw)) (by decide) (t := (.object "java/util/HashMap")) (t' := (.object s5')) (by decide) (by decide)))).other W19 (Or.inr (slot_ne (Or.inr (wd_148 hw)) (Or.inl (wd_159 hw)) (by decide) (t := (.object "java/util/HashMap")) (t' := (.object s5')) (by decide) (by decide)))).other W24 (Or.inr (slot_ne (Or.inr (wd_148 hw)) (Or.inl (wd_161 hw)) (by decide) (t := (.object "java/util/HashMap")) (t' := .int) (by decide) (by decide))))
  have f30 := (((F7.other W14 (Or.inr (slot_ne (Or.inl (wd_153 hw)) (Or.inl (wd_157 hw)) (by decide) (t := .int) (t' := (.object s5')) (by decide) (by decide)))).other W19 (Or.inr (slot_ne (Or.inl (wd_153 hw)) (Or.inl (wd_159 hw)) (by decide) (t := .int) (t' := (.object s5')) (by decide) (by decide)))).other W24 (Or.inr (slot_ne (Or.inl (wd_153 hw)) (Or.inl (wd_161 hw)) (by decide) (t := .int) (t' := .int) (by decide) (by decide))))
  have f31 := ((F14.other W19 (Or.inr (slot_ne (Or.inl (wd_157 hw)) (Or.inl (wd_159 hw)) (by decide) (t := (.object s5')) (t' := (.object s5')) (by decide) (by decide)))).other W24 (Or.inr (slot_ne (Or.inl (wd_157 hw)) (Or.inl (wd_161 hw)) (by decide) (t := (.object s5')) (t' := .int) (by decide) (by decide))))
  have f32 := (F19.other W24 (Or.inr (slot_ne (Or.inl (wd_159 hw)) (Or.inl (wd_161 hw)) (by decide) (t := (.object s5')) (t' := .int) (by decide) (by decide))))
  refine Rch.void X24 hx hret hlk (hb hby d19_78) (by decide) (by decide) ?_
  try rw [e24]
  exact ⟨rfl, N24, ((((((Keep.refl _ _).wr W1 (Or.inl (List.mem_of_getElem? (i := 0) rfl))).wr W7 (Or.inl (List.mem_of_getElem? (i := 0) rfl))).wr W14 (Or.inl (List.mem_of_getElem? (i := 0) rfl))).wr W19 (Or.inl (List.mem_of_getElem? (i := 0) rfl))).wr W24 (Or.inl (List.mem_of_getElem? (i := 0) rfl))), f29, f30, f31, f32, F24⟩
theorem wd_146 {Z : State} {a0 : Array Value} (hw : ∀ d ∈ tables_1, d.before a0 Z = true) : (Jvm.Cond.code ({ cls := s2', name := "<init>", desc := "(Ljava/util/HashMap;)V" } : Jvm.MethodName) jdk_99_method_1_code (3 : Nat) (Option.none : Option Jvm.ClassFile.FieldType)).before a0 Z = true := hw _ (List.mem_of_getElem? (i := 146) rfl)
theorem wd_145 {Z : State} {a0 : Array Value} (hw : ∀ d ∈ tables_1, d.before a0 Z = true) : (Jvm.Cond.initialized s2').before a0 Z = true := hw _ (List.mem_of_getElem? (i := 145) rfl)
theorem wd_142 {Z : State} {a0 : Array Value} (hw : ∀ d ∈ tables_1, d.before a0 Z = true) : (Jvm.Cond.instanceMethod ({ cls := s2', name := "<init>", desc := "(Ljava/util/HashMap;)V" } : Jvm.MethodName)).before a0 Z = true := hw _ (List.mem_of_getElem? (i := 142) rfl)
theorem d18_5 : decode jdk_142_method_1_code 5 = .ok (.return_, 1) := by decide +kernel
theorem pn_java_util_HashMap_EntryIterator : plainName s7' = true := by first | (simp [plainName, overriddenIn]; done) | decide +kernel
set_option maxRecDepth 65536 in
set_option maxHeartbeats 4000000 in
theorem ef_m19_init (m : MethodId) (x1 : Addr) (x2 : Addr) : entryFrame m #[(.ref x1), (.ref x2)] 2 = mkF m 0 #[rv x1, rv x2] [] := by first | rfl | (simp [entryFrame, mkF, argsToLocals, Value.category]; done)
set_option maxRecDepth 65536 in
set_option maxHeartbeats 40000000 in
theorem m19_init (l : Launch) (Z : State) (a0 : Array Value) (hw : ∀ d ∈ tables_1, d.before a0 Z = true) (x1 : Addr) (x2 : Addr) (h0 : Heap) (n0 : Nat) (Z0 : n0 ≤ h0.size) (O0 : Old Z n0 h0) (P1 : Exa Z h0 x1 s7') (P2 : Fld Z h0 x1 s2' "this$0" "Ljava/util/HashMap;" .null) (P3 : n0 ≤ x1) (P4 : Fld Z h0 x2 "java/util/HashMap" "modCount" "I" (.int (0 : Int32))) (P5 : x2 ≠ x1) (P6 : Fld Z h0 x1 s2' "expectedModCount" "I" (.int (0 : Int32))) (P7 : Fld Z h0 x2 "java/util/HashMap" "table" "[Ljava/util/HashMap$Node;" .null) (P8 : Fld Z h0 x1 s2' "next" "Ljava/util/HashMap$Node;" .null) (P9 : Fld Z h0 x1 s2' "current" "Ljava/util/HashMap$Node;" .null) (P10 : Fld Z h0 x1 s2' "index" "I" (.int (0 : Int32))) :
    Ctr l Z [] (⟨s7', "<init>", "(Ljava/util/HashMap;)V"⟩ : MethodName) jdk_142_method_1_code 2 none #[(.ref x1), (.ref x2)] h0 ({ frames := 2, cells := 0, slots := 0, locals := 26 } : Room) (fun v h L => v = none ∧ Fr n0 L ∧ Keep h0 h [x1] ∧ Fld Z h x1 s2' "this$0" "Ljava/util/HashMap;" (.ref x2) ∧ Fld Z h x1 s2' "expectedModCount" "I" (.int (0 : Int32)) ∧ Fld Z h x1 s2' "next" "Ljava/util/HashMap$Node;" .null ∧ Fld Z h x1 s2' "current" "Ljava/util/HashMap$Node;" .null ∧ Fld Z h x1 s2' "index" "I" (.int (0 : Int32))) := by
  refine Ctr.of (plainFor_of_name pn_java_util_HashMap_EntryIterator) (fun m => ef_m19_init m x1 x2) ?_
  intro p e s m below meth c T0 hx hZ hby hml hown hnm hret hlk X0 e0
  have N0 := Fr.nil n0
  show Rch p e below _ (T0.setTop (mkF m 0 #[rv x1, rv x2] []))
  refine Rch.go (fun t k => XS.aloadN X0.here hx rfl (hb hby d18_0) rfl rfl k) ?_
  show Rch p e below _ (T0.setTop (mkF m 1 #[rv x1, rv x2] [(.ref x1)]))
  refine Rch.go (fun t k => XS.aloadN X0.here hx rfl (hb hby d18_1) rfl rfl k) ?_
  show Rch p e below _ (T0.setTop (mkF m 2 #[rv x1, rv x2] [(.ref x2), (.ref x1)]))
  obtain ⟨v1, T1, L1, X1, Q1, st1⟩ := callSp X0 hx hZ (m20_init l Z a0 hw x1 x2 h0 n0 Z0 O0 P1 P2 P3 P4 P5 P6 P7 P8 P9 P10) e0 hown rfl (wd_141 hw) (wd_142 hw) (wd_146 hw) (wd_145 hw) (by decide) (hb hby d18_2) 0 (by decide) (by decide) (by decide) (by decide) (by rw [hml]; rfl) x1 [(.ref x2)] [] rfl (lenOf pd_7 rfl) rfl (Nat.le_of_eq rfl) (Ls := #[rv x1, rv x2])
  obtain ⟨rfl, M1, K1, F1_0, F1_1, F1_2, F1_3, F1_4⟩ := Q1
  have N1 := Fr.app N0 M1
  refine Rch.go st1 ?_
  have z2 : n0 ≤ T1.heap.size := (Nat.le_trans Z0 K1.1)
  have o3 := O0.keep K1 (allS P3 all0)
  show Rch p e below _ (T1.setTop (mkF m 5 #[rv x1, rv x2] []))
  refine Rch.void X1 hx hret hlk (hb hby d18_5) (by decide) (by decide) ?_
  exact ⟨rfl, N1, ((Keep.refl _ _).trans K1 (allS (Or.inl (List.mem_of_getElem? (i := 0) rfl)) all0)), F1_0, F1_1, F1_2, F1_3, F1_4⟩
theorem wd_140 {Z : State} {a0 : Array Value} (hw : ∀ d ∈ tables_1, d.before a0 Z = true) : (Jvm.Cond.code ({ cls := s7', name := "<init>", desc := "(Ljava/util/HashMap;)V" } : Jvm.MethodName) jdk_142_method_1_code (2 : Nat) (Option.none : Option Jvm.ClassFile.FieldType)).before a0 Z = true := hw _ (List.mem_of_getElem? (i := 140) rfl)
theorem wd_138 {Z : State} {a0 : Array Value} (hw : ∀ d ∈ tables_1, d.before a0 Z = true) : (Jvm.Cond.instanceMethod ({ cls := s7', name := "<init>", desc := "(Ljava/util/HashMap;)V" } : Jvm.MethodName)).before a0 Z = true := hw _ (List.mem_of_getElem? (i := 138) rfl)
theorem d17_11 : decode jdk_111_method_4_code 11 = .ok (.areturn, 1) := by decide +kernel
set_option maxRecDepth 65536 in
set_option maxHeartbeats 4000000 in
theorem ef_m18_iterator (m : MethodId) (x1 : Addr) (x2 : Addr) : entryFrame m #[(.ref x1)] 1 = mkF m 0 #[rv x1] [] := by first | rfl | (simp [entryFrame, mkF, argsToLocals, Value.category]; done)
set_option maxRecDepth 65536 in
set_option maxHeartbeats 40000000 in
theorem m18_iterator (l : Launch) (Z : State) (a0 : Array Value) (hw : ∀ d ∈ tables_1, d.before a0 Z = true) (x1 : Addr) (x2 : Addr) (h0 : Heap) (n0 : Nat) (Z0 : n0 ≤ h0.size) (O0 : Old Z n0 h0) (P1 : Fld Z h0 x1 s4' "this$0" "Ljava/util/HashMap;" (.ref x2)) (P2 : Fld Z h0 x2 "java/util/HashMap" "modCount" "I" (.int (0 : Int32))) (P3 : Fld Z h0 x2 "java/util/HashMap" "table" "[Ljava/util/HashMap$Node;" .null) :
    Ctr l Z [] (⟨s4', "iterator", "()Ljava/util/Iterator;"⟩ : MethodName) jdk_111_method_4_code 1 (some (.object "java/util/Iterator")) #[(.ref x1)] h0 ({ frames := 3, cells := 1, slots := 5, locals := 40 } : Room) (fun v h L => ∃ (b1 : Addr), v = some (.ref b1) ∧ Fr n0 L ∧ Keep h0 h [] ∧ h0.size ≤ b1 ∧ Exa Z h b1 s7' ∧ Fld Z h b1 s2' "this$0" "Ljava/util/HashMap;" (.ref x2) ∧ Fld Z h b1 s2' "expectedModCount" "I" (.int (0 : Int32)) ∧ Fld Z h b1 s2' "next" "Ljava/util/HashMap$Node;" .null ∧ Fld Z h b1 s2' "current" "Ljava/util/HashMap$Node;" .null ∧ Fld Z h b1 s2' "index" "I" (.int (0 : Int32))) := by
  refine Ctr.of (plainFor_of_name pn_java_util_HashMap_EntrySet) (fun m => ef_m18_iterator m x1 x2) ?_
  intro p e s m below meth c T0 hx hZ hby hml hown hnm hret hlk X0 e0
  have N0 := Fr.nil n0
  show Rch p e below _ (T0.setTop (mkF m 0 #[rv x1] []))
  obtain ⟨T1, h1, X1, e1, E1, A1, D1, -, st1⟩ := newO X0 hx hZ hown (wd_134 hw) (wd_135 hw) (wd_136 hw) e0 (g := (mkF m 0 #[rv x1] [])) rfl (hb hby d17_0) (by decide) (by decide)
  obtain ⟨b1, g1⟩ : ∃ z, z = h0.size := ⟨_, rfl⟩
  rw [← g1] at A1 D1 st1
  refine Rch.go st1 ?_
  have z2 : n0 ≤ h1.size := (Nat.le_trans Z0 E1.1)
  have o3 := O0.ext E1
  have g_b1 : n0 ≤ b1 := Nat.le_trans Z0 (Nat.le_of_eq g1.symm)
  have F1_this_0 : Fld Z h1 b1 s2' "this$0" "Ljava/util/HashMap;" .null := (D1 (Or.inr (wd_148 hw)) (ty := (.object "java/util/HashMap")) (by decide))
  have F1_expectedModCount : Fld Z h1 b1 s2' "expectedModCount" "I" (.int (0 : Int32)) := (D1 (Or.inl (wd_153 hw)) (ty := .int) (by decide))
  have F1_next : Fld Z h1 b1 s2' "next" "Ljava/util/HashMap$Node;" .null := (D1 (Or.inl (wd_157 hw)) (ty := (.object s5')) (by decide))
  have F1_current : Fld Z h1 b1 s2' "current" "Ljava/util/HashMap$Node;" .null := (D1 (Or.inl (wd_159 hw)) (ty := (.object s5')) (by decide))
  have F1_index : Fld Z h1 b1 s2' "index" "I" (.int (0 : Int32)) := (D1 (Or.inl (wd_161 hw)) (ty := .int) (by decide))
  show Rch p e below _ (T1.setTop (mkF m 3 #[rv x1] [(.ref b1)]))
  refine Rch.go (fun t k => XS.dup X1.here hx rfl (hb hby d17_3) rfl rfl k) ?_
  show Rch p e below _ (T1.setTop (mkF m 4 #[rv x1] [(.ref b1), (.ref b1)]))
  refine Rch.go (fun t k => XS.aloadN X1.here hx rfl (hb hby d17_4) rfl rfl k) ?_
  show Rch p e below _ (T1.setTop (mkF m 5 #[rv x1] [(.ref x1), (.ref b1), (.ref b1)]))
  have f5 := (P1.ext E1)
  obtain ⟨T4, X4, e4, st4⟩ := getF X1 hx hZ hown (host := "") (Or.inl (wd_110 hw)) Via.refl e1 f5 (g := (mkF m 5 #[rv x1] [(.ref x1), (.ref b1), (.ref b1)])) rfl rfl (hb hby d17_5)
  refine Rch.go st4 ?_
  show Rch p e below _ (T4.setTop (mkF m 8 #[rv x1] [(.ref x2), (.ref b1), (.ref b1)]))
  have f6 := (P2.ext E1)
  have lt7 := P2.lt
  have ne8 : x2 ≠ b1 := Nat.ne_of_lt (Nat.lt_of_lt_of_le lt7 (Nat.le_of_eq g1.symm))
  have f9 := (P3.ext E1)
  obtain ⟨v10, T10, L10, X10, Q10, st10⟩ := callSp X4 hx hZ (m19_init l Z a0 hw b1 x2 h1 n0 z2 o3 A1 F1_this_0 g_b1 f6 ne8 F1_expectedModCount f9 F1_next F1_current F1_index) e4 hown rfl (wd_137 hw) (wd_138 hw) (wd_140 hw) (wd_136 hw) (by decide) (hb hby d17_8) 1 (by decide) (by decide) (by decide) (by decide) (by rw [hml]; rfl) b1 [(.ref x2)] [(.ref b1)] rfl (lenOf pd_7 rfl) rfl (Nat.le_of_eq rfl) (Ls := #[rv x1])
  obtain ⟨rfl, M10, K10, F10_0, F10_1, F10_2, F10_3, F10_4⟩ := Q10
  have N10 := Fr.app N0 M10
  refine Rch.go st10 ?_
  have z11 : n0 ≤ T10.heap.size := (Nat.le_trans z2 K10.1)
  have o12 := o3.keep K10 (allS g_b1 all0)
  show Rch p e below _ (T10.setTop (mkF m 11 #[rv x1] [(.ref b1)]))
  have f13 := (A1.keep K10)
  refine Rch.val X10 hx (t := (.object "java/util/Iterator")) hret hlk rfl (Or.inr (Or.inr (Or.inr (Or.inr ⟨rfl, rfl, rfl⟩)))) (hb hby d17_11) (by decide) (by decide) ?_
  exact ⟨b1, rfl, N10, (((Keep.refl _ _).ext E1).trans K10 (allS (Or.inr (Nat.le_trans (Nat.le_refl _) (Nat.le_of_eq g1.symm))) all0)), (Nat.le_trans (Nat.le_refl _) (Nat.le_of_eq g1.symm)), f13, F10_0, F10_1, F10_2, F10_3, F10_4⟩
theorem wd_133 {Z : State} {a0 : Array Value} (hw : ∀ d ∈ tables_1, d.before a0 Z = true) : (Jvm.Cond.code ({ cls := s4', name := "iterator", desc := "()Ljava/util/Iterator;" } : Jvm.MethodName) jdk_111_method_4_code (1 : Nat) (Option.some (Jvm.ClassFile.FieldType.object "java/util/Iterator"))).before a0 Z = true := hw _ (List.mem_of_getElem? (i := 133) rfl)
theorem pd_9 : parseMethodDescriptor "()Ljava/util/Iterator;" = some ⟨[], some (.object "java/util/Iterator")⟩ := by decide +kernel
theorem wd_126 {Z : State} {a0 : Array Value} (hw : ∀ d ∈ tables_1, d.before a0 Z = true) : (Jvm.Cond.declares ({ cls := "java/util/Set", name := "iterator", desc := "()Ljava/util/Iterator;" } : Jvm.MethodName)).before a0 Z = true := hw _ (List.mem_of_getElem? (i := 126) rfl)
theorem wd_127 {Z : State} {a0 : Array Value} (hw : ∀ d ∈ tables_1, d.before a0 Z = true) : (Jvm.Cond.interfaceMethod "java/util/Set" "java/util/Set" "iterator" "()Ljava/util/Iterator;").before a0 Z = true := hw _ (List.mem_of_getElem? (i := 127) rfl)
theorem wd_128 {Z : State} {a0 : Array Value} (hw : ∀ d ∈ tables_1, d.before a0 Z = true) : (Jvm.Cond.selects s4' ({ cls := "java/util/Set", name := "iterator", desc := "()Ljava/util/Iterator;" } : Jvm.MethodName) ({ cls := s4', name := "iterator", desc := "()Ljava/util/Iterator;" } : Jvm.MethodName)).before a0 Z = true := hw _ (List.mem_of_getElem? (i := 128) rfl)
theorem wd_129 {Z : State} {a0 : Array Value} (hw : ∀ d ∈ tables_1, d.before a0 Z = true) : (Jvm.Cond.instanceMethod ({ cls := s4', name := "iterator", desc := "()Ljava/util/Iterator;" } : Jvm.MethodName)).before a0 Z = true := hw _ (List.mem_of_getElem? (i := 129) rfl)
theorem wd_130 {Z : State} {a0 : Array Value} (hw : ∀ d ∈ tables_1, d.before a0 Z = true) : (Jvm.Cond.publicMethod ({ cls := s4', name := "iterator", desc := "()Ljava/util/Iterator;" } : Jvm.MethodName)).before a0 Z = true := hw _ (List.mem_of_getElem? (i := 130) rfl)
theorem wd_131 {Z : State} {a0 : Array Value} (hw : ∀ d ∈ tables_1, d.before a0 Z = true) : (Jvm.Cond.unhidden s4' "iterator" "()Ljava/util/Iterator;").before a0 Z = true := hw _ (List.mem_of_getElem? (i := 131) rfl)
theorem wd_132 {Z : State} {a0 : Array Value} (hw : ∀ d ∈ tables_1, d.before a0 Z = true) : (Jvm.Cond.castable s4' "java/util/Set").before a0 Z = true := hw _ (List.mem_of_getElem? (i := 132) rfl)
theorem d11_26 : decode prog_20_method_17_code 26 = .ok (.astore_n 2, 1) := by decide +kernel
theorem d11_27 : decode prog_20_method_17_code 27 = .ok (.aload_n 2, 1) := by decide +kernel
theorem d11_28 : decode prog_20_method_17_code 28 = .ok (.invokeinterface 127 1, 5) := by decide +kernel
theorem wd_162 {Z : State} {a0 : Array Value} (hw : ∀ d ∈ tables_1, d.before a0 Z = true) : (Jvm.Cond.methodLink s1' (127 : Nat) ({ cls := "java/util/Iterator", name := "hasNext", desc := "()Z" } : Jvm.MethodName)).before a0 Z = true := hw _ (List.mem_of_getElem? (i := 162) rfl)
theorem d20_0 : decode jdk_99_method_2_code 0 = .ok (.aload_n 0, 1) := by decide +kernel
theorem d20_1 : decode jdk_99_method_2_code 1 = .ok (.getfield 26, 3) := by decide +kernel
theorem d20_4 : decode jdk_99_method_2_code 4 = .ok (.ifnull 7, 3) := by decide +kernel
theorem d20_11 : decode jdk_99_method_2_code 11 = .ok (.iconst 0, 1) := by decide +kernel
theorem d20_12 : decode jdk_99_method_2_code 12 = .ok (.ireturn, 1) := by decide +kernel
set_option maxRecDepth 65536 in
set_option maxHeartbeats 4000000 in
theorem ef_m21_hasNext (m : MethodId) (x1 : Addr) : entryFrame m #[(.ref x1)] 1 = mkF m 0 #[rv x1] [] := by first | rfl | (simp [entryFrame, mkF, argsToLocals, Value.category]; done)
set_option maxRecDepth 65536 in
set_option maxHeartbeats 40000000 in
theorem m21_hasNext (l : Launch) (Z : State) (a0 : Array Value) (hw : ∀ d ∈ tables_1, d.before a0 Z = true) (x1 : Addr) (h0 : Heap) (n0 : Nat) (Z0 : n0 ≤ h0.size) (O0 : Old Z n0 h0) (P1 : Fld Z h0 x1 s2' "next" "Ljava/util/HashMap$Node;" .null) :
    Ctr l Z [] (⟨s2', "hasNext", "()Z"⟩ : MethodName) jdk_99_method_2_code 1 (some .boolean) #[(.ref x1)] h0 ({ frames := 0, cells := 0, slots := 0, locals := 0 } : Room) (fun v h L => v = some (.int (0 : Int32)) ∧ Fr n0 L ∧ h = h0) := by
  refine Ctr.of (plainFor_of_name pn_java_util_HashMap_HashIterator) (fun m => ef_m21_hasNext m x1) ?_
  intro p e s m below meth c T0 hx hZ hby hml hown hnm hret hlk X0 e0
  have N0 := Fr.nil n0
  show Rch p e below _ (T0.setTop (mkF m 0 #[rv x1] []))
  refine Rch.go (fun t k => XS.aloadN X0.here hx rfl (hb hby d20_0) rfl rfl k) ?_
  show Rch p e below _ (T0.setTop (mkF m 1 #[rv x1] [(.ref x1)]))
  obtain ⟨T1, X1, e1, st1⟩ := getF X0 hx hZ hown (host := "") (Or.inl (wd_156 hw)) Via.refl e0 P1 (g := (mkF m 1 #[rv x1] [(.ref x1)])) rfl rfl (hb hby d20_1)
  refine Rch.go st1 ?_
  show Rch p e below _ (T1.setTop (mkF m 4 #[rv x1] [.null]))
  refine Rch.go (fun t k => XS.ifnullYes X1.here hx rfl (pc0 := 4) (pc' := 11) rfl (hb hby d20_4) rfl (by decide) (by decide) k) ?_
  show Rch p e below _ (T1.setTop (mkF m 11 #[rv x1] []))
  refine Rch.go (fun t k => XS.iconst X1.here hx rfl (hb hby d20_11) k) ?_
  show Rch p e below _ (T1.setTop (mkF m 12 #[rv x1] [(.int (0 : Int32))]))
  refine Rch.val X1 hx (t := .boolean) hret hlk rfl (mayI (by simp)) (hb hby d20_12) (by decide) (by decide) ?_
  try rw [e1]
  exact ⟨rfl, N0, rfl⟩
theorem wd_170 {Z : State} {a0 : Array Value} (hw : ∀ d ∈ tables_1, d.before a0 Z = true) : (Jvm.Cond.code ({ cls := s2', name := "hasNext", desc := "()Z" } : Jvm.MethodName) jdk_99_method_2_code (1 : Nat) (Option.some Jvm.ClassFile.FieldType.boolean)).before a0 Z = true := hw _ (List.mem_of_getElem? (i := 170) rfl)
theorem pd_10 : parseMethodDescriptor "()Z" = some ⟨[], some .boolean⟩ := by decide +kernel
theorem wd_163 {Z : State} {a0 : Array Value} (hw : ∀ d ∈ tables_1, d.before a0 Z = true) : (Jvm.Cond.declares ({ cls := "java/util/Iterator", name := "hasNext", desc := "()Z" } : Jvm.MethodName)).before a0 Z = true := hw _ (List.mem_of_getElem? (i := 163) rfl)
theorem wd_164 {Z : State} {a0 : Array Value} (hw : ∀ d ∈ tables_1, d.before a0 Z = true) : (Jvm.Cond.interfaceMethod "java/util/Iterator" "java/util/Iterator" "hasNext" "()Z").before a0 Z = true := hw _ (List.mem_of_getElem? (i := 164) rfl)
theorem wd_165 {Z : State} {a0 : Array Value} (hw : ∀ d ∈ tables_1, d.before a0 Z = true) : (Jvm.Cond.selects s7' ({ cls := "java/util/Iterator", name := "hasNext", desc := "()Z" } : Jvm.MethodName) ({ cls := s2', name := "hasNext", desc := "()Z" } : Jvm.MethodName)).before a0 Z = true := hw _ (List.mem_of_getElem? (i := 165) rfl)
theorem wd_166 {Z : State} {a0 : Array Value} (hw : ∀ d ∈ tables_1, d.before a0 Z = true) : (Jvm.Cond.instanceMethod ({ cls := s2', name := "hasNext", desc := "()Z" } : Jvm.MethodName)).before a0 Z = true := hw _ (List.mem_of_getElem? (i := 166) rfl)
theorem wd_167 {Z : State} {a0 : Array Value} (hw : ∀ d ∈ tables_1, d.before a0 Z = true) : (Jvm.Cond.publicMethod ({ cls := s2', name := "hasNext", desc := "()Z" } : Jvm.MethodName)).before a0 Z = true := hw _ (List.mem_of_getElem? (i := 167) rfl)
theorem wd_168 {Z : State} {a0 : Array Value} (hw : ∀ d ∈ tables_1, d.before a0 Z = true) : (Jvm.Cond.unhidden s7' "hasNext" "()Z").before a0 Z = true := hw _ (List.mem_of_getElem? (i := 168) rfl)
theorem wd_169 {Z : State} {a0 : Array Value} (hw : ∀ d ∈ tables_1, d.before a0 Z = true) : (Jvm.Cond.castable s7' "java/util/Iterator").before a0 Z = true := hw _ (List.mem_of_getElem? (i := 169) rfl)
theorem d11_33 : decode prog_20_method_17_code 33 = .ok (.ifCond .eq 70, 3) := by decide +kernel
theorem d11_103 : decode prog_20_method_17_code 103 = .ok (.aload_n 1, 1) := by decide +kernel
theorem d11_104 : decode prog_20_method_17_code 104 = .ok (.invokestatic 158, 3) := by decide +kernel
theorem wd_171 {Z : State} {a0 : Array Value} (hw : ∀ d ∈ tables_1, d.before a0 Z = true) : (Jvm.Cond.methodLink s1' (158 : Nat) ({ cls := "java/util/Collections", name := "unmodifiableMap", desc := "(Ljava/util/Map;)Ljava/util/Map;" } : Jvm.MethodName)).before a0 Z = true := hw _ (List.mem_of_getElem? (i := 171) rfl)
theorem wd_174 {Z : State} {a0 : Array Value} (hw : ∀ d ∈ tables_1, d.before a0 Z = true) : (Jvm.Cond.code ({ cls := "java/util/Collections", name := "unmodifiableMap", desc := "(Ljava/util/Map;)Ljava/util/Map;" } : Jvm.MethodName) jdk_79_method_36_code (1 : Nat) (Option.some (Jvm.ClassFile.FieldType.object "java/util/Map"))).before a0 Z = true := hw _ (List.mem_of_getElem? (i := 174) rfl)
theorem wd_173 {Z : State} {a0 : Array Value} (hw : ∀ d ∈ tables_1, d.before a0 Z = true) : (Jvm.Cond.initialized "java/util/Collections").before a0 Z = true := hw _ (List.mem_of_getElem? (i := 173) rfl)
theorem pd_11 : parseMethodDescriptor "(Ljava/util/Map;)Ljava/util/Map;" = some ⟨[(.object "java/util/Map")], some (.object "java/util/Map")⟩ := by decide +kernel
theorem wd_172 {Z : State} {a0 : Array Value} (hw : ∀ d ∈ tables_1, d.before a0 Z = true) : (Jvm.Cond.static ({ cls := "java/util/Collections", name := "unmodifiableMap", desc := "(Ljava/util/Map;)Ljava/util/Map;" } : Jvm.MethodName)).before a0 Z = true := hw _ (List.mem_of_getElem? (i := 172) rfl)
theorem d11_107 : decode prog_20_method_17_code 107 = .ok (.areturn, 1) := by decide +kernel
theorem pn_com_example_fuchun_fuchun_remoting_RemotingCommand : plainName s1' = true := by first | (simp [plainName, overriddenIn]; done) | decide +kernel
set_option maxRecDepth 65536 in
set_option maxHeartbeats 4000000 in
theorem ef_m11_copyFields (m : MethodId) (x1 : Addr) (x2 : Addr) (x3 : Addr) : entryFrame m #[(.ref x1)] 6 = mkF m 0 #[rv x1, .unset, .unset, .unset, .unset, .unset] [] := by first | rfl | (simp [entryFrame, mkF, argsToLocals, Value.category]; done)
set_option maxRecDepth 65536 in
set_option maxHeartbeats 40000000 in
theorem m11_copyFields (l : Launch) (Z : State) (a0 : Array Value) (hw : ∀ d ∈ tables_1, d.before a0 Z = true) (x1 : Addr) (x2 : Addr) (x3 : Addr) (h0 : Heap) (n0 : Nat) (Z0 : n0 ≤ h0.size) (O0 : Old Z n0 h0) (P1 : Exa Z h0 x1 "java/util/HashMap") (P2 : Fld Z h0 x1 "java/util/HashMap" "entrySet" "Ljava/util/Set;" .null) (P3 : n0 ≤ x1) (P4 : Fld Z h0 x1 "java/util/HashMap" "loadFactor" "F" (.float (1061158912 : UInt32))) (P5 : Fld Z h0 x1 "java/util/HashMap" "modCount" "I" (.int (0 : Int32))) (P6 : Fld Z h0 x1 "java/util/HashMap" "table" "[Ljava/util/HashMap$Node;" .null) (P7 : MirA Z s3' x2) (P8 : MirA Z s6' x3) :
    CtrW l Z [] (⟨s1', "copyFields", "(Ljava/util/Map;)Ljava/util/Map;"⟩ : MethodName) prog_20_method_17_code 6 (some (.object "java/util/Map")) #[(.ref x1)] h0 ({ frames := 5, cells := 6, slots := 50, locals := 64 } : Room) (fun v h L => ∃ (b18_0 : Addr) (vw26 : Value), v = some vw26 ∧ vw26.isRef = true ∧ Fr n0 L ∧ Keep h0 h [x1] ∧ h0.size ≤ b18_0 ∧ Fld Z h x1 "java/util/HashMap" "entrySet" "Ljava/util/Set;" (.ref b18_0) ∧ Exa Z h b18_0 s4' ∧ Fld Z h b18_0 s4' "this$0" "Ljava/util/HashMap;" (.ref x1) ∧ Fld Z h x1 "java/util/HashMap" "loadFactor" "F" (.float (1061158912 : UInt32)) ∧ Fld Z h x1 "java/util/HashMap" "modCount" "I" (.int (0 : Int32)) ∧ Fld Z h x1 "java/util/HashMap" "table" "[Ljava/util/HashMap$Node;" .null) := by
  refine CtrW.of (plainFor_of_name pn_com_example_fuchun_fuchun_remoting_RemotingCommand) (fun m => ef_m11_copyFields m x1 x2 x3) ?_
  intro p e s vm0 m below meth c T0 hx hZ hby hml hown hnm hret hlk Y0 X0 e0
  have N0 := Fr.nil n0
  show Rch p e below _ (T0.setTop (mkF m 0 #[rv x1, .unset, .unset, .unset, .unset, .unset] []))
  refine Rch.go (fun t k => XS.aloadN X0.here hx rfl (hb hby d11_0) rfl rfl k) ?_
  show Rch p e below _ (T0.setTop (mkF m 1 #[rv x1, .unset, .unset, .unset, .unset, .unset] [(.ref x1)]))
  obtain ⟨b1, T1, h1, k1, X1, e1, E1, Y1, yk1, hZ1, hown1, st1⟩ := ldcS X0 hx hZ hown (wd_76 hw) (strW hw) e0 Y0 (Nat.le_refl _) (g := (mkF m 1 #[rv x1, .unset, .unset, .unset, .unset, .unset] [(.ref x1)])) rfl (hb hby d11_1) (n := 24) (by decide) (by decide) (by decide) (by decide)
  refine Rch.go st1 ?_
  have z2 : n0 ≤ h1.size := (Nat.le_trans Z0 E1.1)
  have o3 := O0.ext E1
  show Rch p e below _ (T1.setTop (mkF m 3 #[rv x1, .unset, .unset, .unset, .unset, .unset] [(.ref b1), (.ref x1)]))
  obtain ⟨v4, T4, L4, X4, Q4, st4⟩ := callSt X1 hx hZ1 (m10_requireNonNull l Z a0 hw x1 b1 h1 n0 z2 o3 ) e1 hown1 (wd_58 hw) (wd_59 hw) (wd_61 hw) (wd_60 hw) (by decide) (hb hby d11_3) 0 (by decide) (by decide) (by decide) (by decide) (by rw [hml]; rfl) [(.ref x1), (.ref b1)] [] rfl (lenOf pd_6 rfl) rfl (Nat.le_of_eq rfl) (Ls := #[rv x1, .unset, .unset, .unset, .unset, .unset])
  obtain ⟨rfl, M4, e4⟩ := Q4
  have N4 := Fr.app N0 M4
  refine Rch.go st4 ?_
  show Rch p e below _ (T4.setTop (mkF m 6 #[rv x1, .unset, .unset, .unset, .unset, .unset] [(.ref x1)]))
  refine Rch.go (fun t k => XS.pop X4.here hx rfl (hb hby d11_6) rfl rfl k) ?_
  show Rch p e below _ (T4.setTop (mkF m 7 #[rv x1, .unset, .unset, .unset, .unset, .unset] []))
  obtain ⟨T5, h5, X5, e5, E5, A5, D5, -, st5⟩ := newO X4 hx hZ1 hown1 (wd_77 hw) (wd_78 hw) (wd_79 hw) e4 (g := (mkF m 7 #[rv x1, .unset, .unset, .unset, .unset, .unset] [])) rfl (hb hby d11_7) (by decide) (by decide)
  obtain ⟨b5, g5⟩ : ∃ z, z = h1.size := ⟨_, rfl⟩
  rw [← g5] at A5 D5 st5
  refine Rch.go st5 ?_
  have z6 : n0 ≤ h5.size := (Nat.le_trans z2 E5.1)
  have o7 := o3.ext E5
  have g_b5 : n0 ≤ b5 := Nat.le_trans z2 (Nat.le_of_eq g5.symm)
  have F5_loadFactor : Fld Z h5 b5 "java/util/HashMap" "loadFactor" "F" (.float (0 : UInt32)) := (D5 (Or.inr (wd_87 hw)) (ty := .float) (by decide))
  have F5_putMode : Fld Z h5 b5 s3' "putMode" "I" (.int (0 : Int32)) := (D5 (Or.inl (wd_89 hw)) (ty := .int) (by decide))
  have F5_accessOrder : Fld Z h5 b5 s3' "accessOrder" "Z" (.int (0 : Int32)) := (D5 (Or.inr (wd_91 hw)) (ty := .boolean) (by decide))
  show Rch p e below _ (T5.setTop (mkF m 10 #[rv x1, .unset, .unset, .unset, .unset, .unset] [(.ref b5)]))
  refine Rch.go (fun t k => XS.dup X5.here hx rfl (hb hby d11_10) rfl rfl k) ?_
  show Rch p e below _ (T5.setTop (mkF m 11 #[rv x1, .unset, .unset, .unset, .unset, .unset] [(.ref b5), (.ref b5)]))
  obtain ⟨v8, T8, L8, X8, Q8, st8⟩ := callSp X5 hx hZ1 (m12_init l Z a0 hw b5 h5 n0 z6 o7 A5 F5_loadFactor g_b5 F5_putMode F5_accessOrder) e5 hown1 rfl (wd_80 hw) (wd_81 hw) (wd_82 hw) (wd_79 hw) (by decide) (hb hby d11_11) 1 (by decide) (by decide) (by decide) (by decide) (by rw [hml]; rfl) b5 [] [(.ref b5)] rfl (lenOf pd_5 rfl) rfl (Nat.le_of_eq rfl) (Ls := #[rv x1, .unset, .unset, .unset, .unset, .unset])
  obtain ⟨rfl, M8, K8, F8_0, F8_1, F8_2⟩ := Q8
  have N8 := Fr.app N4 M8
  refine Rch.go st8 ?_
  have z9 : n0 ≤ T8.heap.size := (Nat.le_trans z6 K8.1)
  have o10 := o7.keep K8 (allS g_b5 all0)
  show Rch p e below _ (T8.setTop (mkF m 14 #[rv x1, .unset, .unset, .unset, .unset, .unset] [(.ref b5)]))
  refine Rch.go (fun t k => XS.astoreN X8.here hx rfl (hb hby d11_14) rfl rfl (l' := #[rv x1, rv b5, .unset, .unset, .unset, .unset]) rfl k) ?_
  show Rch p e below _ (T8.setTop (mkF m 15 #[rv x1, rv b5, .unset, .unset, .unset, .unset] []))
  refine Rch.go (fun t k => XS.aloadN X8.here hx rfl (hb hby d11_15) rfl rfl k) ?_
  show Rch p e below _ (T8.setTop (mkF m 16 #[rv x1, rv b5, .unset, .unset, .unset, .unset] [(.ref x1)]))
  have lt11 := (Nat.lt_of_lt_of_le P1.lt E1.1)
  have ne12 : x1 ≠ b5 := Nat.ne_of_lt (Nat.lt_of_lt_of_le lt11 (Nat.le_of_eq g5.symm))
  have f13 := (((P2.ext E1).ext E5).keep K8 (ninS ne12 nin0))
  have f14 := (((P1.ext E1).ext E5).keep K8)
  have f15 := (((P4.ext E1).ext E5).keep K8 (ninS ne12 nin0))
  have f16 := (((P5.ext E1).ext E5).keep K8 (ninS ne12 nin0))
  have f17 := (((P6.ext E1).ext E5).keep K8 (ninS ne12 nin0))
  obtain ⟨v18, T18, L18, X18, Q18, st18⟩ := callIf X8 hx hZ1 (m14_entrySet l Z a0 hw x1 T8.heap n0 z9 o10 f13 f14 P3 f15 f16 f17) rfl hown1 (wd_92 hw) (wd_93 hw) (wd_94 hw) (wd_95 hw) (wd_96 hw) (wd_97 hw) (wd_98 hw) (wd_99 hw) (wd_100 hw) (wd_35 hw) (by decide) (hb hby d11_16) 0 (by decide) (by decide) (by decide) (by decide) (by rw [hml]; rfl) x1 f14 [] [] rfl (lenOf pd_8 rfl) rfl (Nat.le_of_eq rfl) (Ls := #[rv x1, rv b5, .unset, .unset, .unset, .unset])
  obtain ⟨b18_0, rfl, M18, K18, zz18_0, F18_0, F18_1, F18_2, F18_3, F18_4, F18_5⟩ := Q18
  have N18 := Fr.app N8 M18
  refine Rch.go st18 ?_
  have z19 : n0 ≤ T18.heap.size := (Nat.le_trans z9 K18.1)
  have o20 := o10.keep K18 (allS P3 all0)
  have g_b18_0 : n0 ≤ b18_0 := Nat.le_trans z9 zz18_0
  show Rch p e below _ (T18.setTop (mkF m 21 #[rv x1, rv b5, .unset, .unset, .unset, .unset] [(.ref b18_0)]))
  obtain ⟨v21, T21, L21, X21, Q21, st21⟩ := callIf X18 hx hZ1 (m18_iterator l Z a0 hw b18_0 x1 T18.heap n0 z19 o20 F18_2 F18_4 F18_5) rfl hown1 (wd_125 hw) (wd_126 hw) (wd_127 hw) (wd_128 hw) (wd_129 hw) (wd_130 hw) (wd_131 hw) (wd_132 hw) (wd_133 hw) (wd_105 hw) (by decide) (hb hby d11_21) 0 (by decide) (by decide) (by decide) (by decide) (by rw [hml]; rfl) b18_0 F18_1 [] [] rfl (lenOf pd_9 rfl) rfl (Nat.le_of_eq rfl) (Ls := #[rv x1, rv b5, .unset, .unset, .unset, .unset])
  obtain ⟨b21_0, rfl, M21, K21, zz21_0, F21_0, F21_1, F21_2, F21_3, F21_4, F21_5⟩ := Q21
  have N21 := Fr.app N18 M21
  refine Rch.go st21 ?_
  have z22 : n0 ≤ T21.heap.size := (Nat.le_trans z19 K21.1)
  have o23 := o20.keep K21 all0
  have g_b21_0 : n0 ≤ b21_0 := Nat.le_trans z19 zz21_0
  show Rch p e below _ (T21.setTop (mkF m 26 #[rv x1, rv b5, .unset, .unset, .unset, .unset] [(.ref b21_0)]))
  refine Rch.go (fun t k => XS.astoreN X21.here hx rfl (hb hby d11_26) rfl rfl (l' := #[rv x1, rv b5, rv b21_0, .unset, .unset, .unset]) rfl k) ?_
  show Rch p e below _ (T21.setTop (mkF m 27 #[rv x1, rv b5, rv b21_0, .unset, .unset, .unset] []))
  refine Rch.go (fun t k => XS.aloadN X21.here hx rfl (hb hby d11_27) rfl rfl k) ?_
  show Rch p e below _ (T21.setTop (mkF m 28 #[rv x1, rv b5, rv b21_0, .unset, .unset, .unset] [(.ref b21_0)]))
  obtain ⟨v24, T24, L24, X24, Q24, st24⟩ := callIf X21 hx hZ1 (m21_hasNext l Z a0 hw b21_0 T21.heap n0 z22 o23 F21_3) rfl hown1 (wd_162 hw) (wd_163 hw) (wd_164 hw) (wd_165 hw) (wd_166 hw) (wd_167 hw) (wd_168 hw) (wd_169 hw) (wd_170 hw) (wd_145 hw) (by decide) (hb hby d11_28) 0 (by decide) (by decide) (by decide) (by decide) (by rw [hml]; rfl) b21_0 F21_0 [] [] rfl (lenOf pd_10 rfl) rfl (Nat.le_of_eq rfl) (Ls := #[rv x1, rv b5, rv b21_0, .unset, .unset, .unset])
  obtain ⟨rfl, M24, e24⟩ := Q24
  have N24 := Fr.app N21 M24
  refine Rch.go st24 ?_
  show Rch p e below _ (T24.setTop (mkF m 33 #[rv x1, rv b5, rv b21_0, .unset, .unset, .unset] [(.int (0 : Int32))]))
  refine Rch.go (fun t k => XS.ifYes X24.here hx rfl (pc0 := 33) (pc' := 103) rfl (hb hby d11_33) rfl (by decide) (by decide) (by decide) k) ?_
  show Rch p e below _ (T24.setTop (mkF m 103 #[rv x1, rv b5, rv b21_0, .unset, .unset, .unset] []))
  refine Rch.go (fun t k => XS.aloadN X24.here hx rfl (hb hby d11_103) rfl rfl k) ?_
  show Rch p e below _ (T24.setTop (mkF m 104 #[rv x1, rv b5, rv b21_0, .unset, .unset, .unset] [(.ref b5)]))
  have f25 := (((A5.keep K8).keep K18).keep K21)
  obtain ⟨v26, T26, L26, X26, Q26, st26⟩ := callSt X24 hx hZ1 (umap l Z a0 hw b5 x2 x3 T21.heap n0 z22 o23 f25 P7 P8) e24 hown1 (wd_171 hw) (wd_172 hw) (wd_174 hw) (wd_173 hw) (by decide) (hb hby d11_104) 0 (by decide) (by decide) (by decide) (by decide) (by rw [hml]; rfl) [(.ref b5)] [] rfl (lenOf pd_11 rfl) rfl (Nat.le_of_eq rfl) (Ls := #[rv x1, rv b5, rv b21_0, .unset, .unset, .unset])
  obtain ⟨vw26, rfl, vp26, M26, K26⟩ := Q26
  have N26 := Fr.app N24 M26
  refine Rch.go st26 ?_
  have z27 : n0 ≤ T26.heap.size := (Nat.le_trans z22 K26.1)
  have o28 := o23.keep K26 all0
  show Rch p e below _ (T26.setTop (mkF m 107 #[rv x1, rv b5, rv b21_0, .unset, .unset, .unset] [vw26]))
  have f29 := ((F18_0.keep K21 nin0).keep K26 nin0)
  have f30 := ((F18_1.keep K21).keep K26)
  have f31 := ((F18_2.keep K21 nin0).keep K26 nin0)
  have f32 := ((F18_3.keep K21 nin0).keep K26 nin0)
  have f33 := ((F18_4.keep K21 nin0).keep K26 nin0)
  have f34 := ((F18_5.keep K21 nin0).keep K26 nin0)
  refine Rch.valW X26 hx Y1 rfl (Nat.le_trans (Nat.le_trans (Nat.le_trans (Nat.le_trans (Nat.le_trans yk1 E5.1) K8.1) K18.1) K21.1) K26.1) (t := (.object "java/util/Map")) hret hlk (own_nref vp26) (Or.inr (Or.inr (Or.inr (Or.inr ⟨rfl, rfl, vp26⟩)))) (hb hby d11_107) (by decide) (by decide) ?_
  exact ⟨b18_0, vw26, rfl, vp26, N26, (((((((Keep.refl _ _).ext E1).ext E5).trans K8 (allS (Or.inr (Nat.le_trans (Nat.le_trans (Nat.le_refl _) E1.1) (Nat.le_of_eq g5.symm))) all0)).trans K18 (allS (Or.inl (List.mem_of_getElem? (i := 0) rfl)) all0)).trans K21 all0).trans K26 all0), (Nat.le_trans (Nat.le_trans (Nat.le_trans (Nat.le_trans (Nat.le_refl _) E1.1) E5.1) K8.1) zz18_0), f29, f30, f31, f32, f33, f34⟩
theorem wd_75 {Z : State} {a0 : Array Value} (hw : ∀ d ∈ tables_1, d.before a0 Z = true) : (Jvm.Cond.code ({ cls := s1', name := "copyFields", desc := "(Ljava/util/Map;)Ljava/util/Map;" } : Jvm.MethodName) prog_20_method_17_code (6 : Nat) (Option.some (Jvm.ClassFile.FieldType.object "java/util/Map"))).before a0 Z = true := hw _ (List.mem_of_getElem? (i := 75) rfl)
theorem wd_74 {Z : State} {a0 : Array Value} (hw : ∀ d ∈ tables_1, d.before a0 Z = true) : (Jvm.Cond.static ({ cls := s1', name := "copyFields", desc := "(Ljava/util/Map;)Ljava/util/Map;" } : Jvm.MethodName)).before a0 Z = true := hw _ (List.mem_of_getElem? (i := 74) rfl)
theorem d9_51 : decode prog_20_method_1_code 51 = .ok (.putfield 42, 3) := by decide +kernel
theorem wd_195 {Z : State} {a0 : Array Value} (hw : ∀ d ∈ tables_1, d.before a0 Z = true) : (Jvm.Cond.fieldLink s1' (42 : Nat) s1' "fields" "Ljava/util/Map;").before a0 Z = true := hw _ (List.mem_of_getElem? (i := 195) rfl)
theorem d9_54 : decode prog_20_method_1_code 54 = .ok (.aload_n 0, 1) := by decide +kernel
theorem d9_55 : decode prog_20_method_1_code 55 = .ok (.aload 8, 2) := by decide +kernel
theorem d9_57 : decode prog_20_method_1_code 57 = .ok (.ldc 46, 2) := by decide +kernel
theorem wd_197 {Z : State} {a0 : Array Value} (hw : ∀ d ∈ tables_1, d.before a0 Z = true) : (Jvm.Cond.stringLink s1' (46 : Nat) "body").before a0 Z = true := hw _ (List.mem_of_getElem? (i := 197) rfl)
theorem d9_59 : decode prog_20_method_1_code 59 = .ok (.invokestatic 15, 3) := by decide +kernel
theorem d9_62 : decode prog_20_method_1_code 62 = .ok (.checkcast 48, 3) := by decide +kernel
theorem wd_198 {Z : State} {a0 : Array Value} (hw : ∀ d ∈ tables_1, d.before a0 Z = true) : (Jvm.Cond.classLink s1' (48 : Nat) "[B").before a0 Z = true := hw _ (List.mem_of_getElem? (i := 198) rfl)
theorem d9_65 : decode prog_20_method_1_code 65 = .ok (.putfield 50, 3) := by decide +kernel
theorem wd_200 {Z : State} {a0 : Array Value} (hw : ∀ d ∈ tables_1, d.before a0 Z = true) : (Jvm.Cond.fieldLink s1' (50 : Nat) s1' "body" "[B").before a0 Z = true := hw _ (List.mem_of_getElem? (i := 200) rfl)
theorem d9_68 : decode prog_20_method_1_code 68 = .ok (.return_, 1) := by decide +kernel
set_option maxRecDepth 65536 in
set_option maxHeartbeats 4000000 in
theorem ef_m9_init (m : MethodId) (x1 : Addr) (y2 : Int32) (x3 : Addr) (y4 : Int32) (y5 : Int32) (y6 : Int32) (x7 : Addr) (x8 : Addr) (x9 : Addr) (x10 : Addr) : entryFrame m #[(.ref x1), (.int y2), (.ref x3), (.int y4), (.int y5), (.int y6), .null, (.ref x7), (.ref x8)] 9 = mkF m 0 #[rv x1, iv y2, rv x3, iv y4, iv y5, iv y6, .val .null, rv x7, rv x8] [] := by first | rfl | (simp [entryFrame, mkF, argsToLocals, Value.category]; done)
set_option maxRecDepth 65536 in
set_option maxHeartbeats 40000000 in
theorem m9_init (l : Launch) (Z : State) (a0 : Array Value) (hw : ∀ d ∈ tables_1, d.before a0 Z = true) (x1 : Addr) (y2 : Int32) (x3 : Addr) (y4 : Int32) (y5 : Int32) (y6 : Int32) (x7 : Addr) (x8 : Addr) (x9 : Addr) (x10 : Addr) (h0 : Heap) (n0 : Nat) (Z0 : n0 ≤ h0.size) (O0 : Old Z n0 h0) (P1 : Exa Z h0 x1 s1') (P2 : Fld Z h0 x1 s1' "code" "I" (.int (0 : Int32))) (P3 : n0 ≤ x1) (P4 : Exa Z h0 x3 "java/lang/String") (P5 : Fld Z h0 x1 s1' "language" "Ljava/lang/String;" .null) (P6 : Fld Z h0 x1 s1' "version" "I" (.int (0 : Int32))) (P7 : Fld Z h0 x1 s1' "opaque" "I" (.int (0 : Int32))) (P8 : Fld Z h0 x1 s1' "flag" "I" (.int (0 : Int32))) (P9 : Fld Z h0 x1 s1' "remark" "Ljava/lang/String;" .null) (P10 : Exa Z h0 x7 "java/util/HashMap") (P11 : Fld Z h0 x7 "java/util/HashMap" "entrySet" "Ljava/util/Set;" .null) (P12 : x7 ≠ x1) (P13 : n0 ≤ x7) (P14 : Fld Z h0 x7 "java/util/HashMap" "loadFactor" "F" (.float (1061158912 : UInt32))) (P15 : Fld Z h0 x7 "java/util/HashMap" "modCount" "I" (.int (0 : Int32))) (P16 : Fld Z h0 x7 "java/util/HashMap" "table" "[Ljava/util/HashMap$Node;" .null) (P17 : MirA Z s3' x9) (P18 : MirA Z s6' x10) (P19 : Fld Z h0 x1 s1' "fields" "Ljava/util/Map;" .null) (P20 : Exa Z h0 x8 "[B") (P21 : Fld Z h0 x1 s1' "body" "[B" .null) :
    CtrW l Z [] (⟨s1', "<init>", "(ILjava/lang/String;IIILjava/lang/String;Ljava/util/Map;[B)V"⟩ : MethodName) prog_20_method_1_code 9 none #[(.ref x1), (.int y2), (.ref x3), (.int y4), (.int y5), (.int y6), .null, (.ref x7), (.ref x8)] h0 ({ frames := 6, cells := 10, slots := 106, locals := 82 } : Room) (fun v h L => ∃ (b41_0 : Addr), v = none ∧ Fr n0 L ∧ Keep h0 h [x1, x7] ∧ h0.size ≤ b41_0 ∧ Fld Z h x1 s1' "code" "I" (.int y2) ∧ Fld Z h x1 s1' "language" "Ljava/lang/String;" (.ref x3) ∧ Fld Z h x1 s1' "version" "I" (.int y4) ∧ Fld Z h x1 s1' "opaque" "I" (.int y5) ∧ Fld Z h x1 s1' "flag" "I" (.int y6) ∧ Fld Z h x1 s1' "remark" "Ljava/lang/String;" .null ∧ Fld Z h x7 "java/util/HashMap" "entrySet" "Ljava/util/Set;" (.ref b41_0) ∧ Exa Z h b41_0 s4' ∧ Fld Z h b41_0 s4' "this$0" "Ljava/util/HashMap;" (.ref x7) ∧ Fld Z h x7 "java/util/HashMap" "loadFactor" "F" (.float (1061158912 : UInt32)) ∧ Fld Z h x7 "java/util/HashMap" "modCount" "I" (.int (0 : Int32)) ∧ Fld Z h x7 "java/util/HashMap" "table" "[Ljava/util/HashMap$Node;" .null ∧ Fld Z h x1 s1' "body" "[B" (.ref x8)) := by
  refine CtrW.of (plainFor_of_name pn_com_example_fuchun_fuchun_remoting_RemotingCommand) (fun m => ef_m9_init m x1 y2 x3 y4 y5 y6 x7 x8 x9 x10) ?_
  intro p e s vm0 m below meth c T0 hx hZ hby hml hown hnm hret hlk Y0 X0 e0
  have N0 := Fr.nil n0
  show Rch p e below _ (T0.setTop (mkF m 0 #[rv x1, iv y2, rv x3, iv y4, iv y5, iv y6, .val .null, rv x7, rv x8] []))
  refine Rch.go (fun t k => XS.aloadN X0.here hx rfl (hb hby d9_0) rfl rfl k) ?_
  show Rch p e below _ (T0.setTop (mkF m 1 #[rv x1, iv y2, rv x3, iv y4, iv y5, iv y6, .val .null, rv x7, rv x8] [(.ref x1)]))
  obtain ⟨T1, X1, e1, st1⟩ := initO X0 hx hZ hown (wd_52 hw) (wd_20 hw) (wd_21 hw) e0 (g := (mkF m 1 #[rv x1, iv y2, rv x3, iv y4, iv y5, iv y6, .val .null, rv x7, rv x8] [(.ref x1)])) rfl (by rw [hml]; rfl) rfl (hb hby d9_1) (by decide) (W := 0) (by show 2 * 0 + _ ≤ _; exact Nat.le_of_eq rfl) (by decide)
  refine Rch.go st1 ?_
  show Rch p e below _ (T1.setTop (mkF m 4 #[rv x1, iv y2, rv x3, iv y4, iv y5, iv y6, .val .null, rv x7, rv x8] []))
  refine Rch.go (fun t k => XS.aloadN X1.here hx rfl (hb hby d9_4) rfl rfl k) ?_
  show Rch p e below _ (T1.setTop (mkF m 5 #[rv x1, iv y2, rv x3, iv y4, iv y5, iv y6, .val .null, rv x7, rv x8] [(.ref x1)]))
  refine Rch.go (fun t k => XS.iloadN X1.here hx rfl (hb hby d9_5) rfl  k) ?_
  show Rch p e below _ (T1.setTop (mkF m 6 #[rv x1, iv y2, rv x3, iv y4, iv y5, iv y6, .val .null, rv x7, rv x8] [(.int y2), (.ref x1)]))
  obtain ⟨T2, h2, X2, e2, W2, st2⟩ := putF X1 hx hZ hown (host := "") (Or.inl (wd_53 hw)) Via.refl e1 P2 P1 (Or.inr ⟨(wd_54 hw), rfl, hnm⟩) (wd_31 hw) (ty := .int) (by decide) rfl rfl (g := (mkF m 6 #[rv x1, iv y2, rv x3, iv y4, iv y5, iv y6, .val .null, rv x7, rv x8] [(.int y2), (.ref x1)])) rfl rfl (hb hby d9_6)
  refine Rch.go st2 ?_
  have z3 : n0 ≤ h2.size := (Nat.le_trans Z0 (Nat.le_of_eq W2.size.symm))
  have o4 := O0.wr W2 P3
  have F2 := P2.same W2
  have N2 := Fr.snoc X2 N0 P3
  show Rch p e below _ (T2.setTop (mkF m 9 #[rv x1, iv y2, rv x3, iv y4, iv y5, iv y6, .val .null, rv x7, rv x8] []))
  refine Rch.go (fun t k => XS.aloadN X2.here hx rfl (hb hby d9_9) rfl rfl k) ?_
  show Rch p e below _ (T2.setTop (mkF m 10 #[rv x1, iv y2, rv x3, iv y4, iv y5, iv y6, .val .null, rv x7, rv x8] [(.ref x1)]))
  refine Rch.go (fun t k => XS.aloadN X2.here hx rfl (hb hby d9_10) rfl rfl k) ?_
  show Rch p e below _ (T2.setTop (mkF m 11 #[rv x1, iv y2, rv x3, iv y4, iv y5, iv y6, .val .null, rv x7, rv x8] [(.ref x3), (.ref x1)]))
  obtain ⟨b5, T5, h5, k5, X5, e5, E5, Y5, yk5, hZ5, hown5, st5⟩ := ldcS X2 hx hZ hown (wd_55 hw) (strW hw) e2 Y0 (Nat.le_trans (Nat.le_refl _) (Nat.le_of_eq W2.size.symm)) (g := (mkF m 11 #[rv x1, iv y2, rv x3, iv y4, iv y5, iv y6, .val .null, rv x7, rv x8] [(.ref x3), (.ref x1)])) rfl (hb hby d9_11) (n := 32) (by decide) (by decide) (by decide) (by decide)
  refine Rch.go st5 ?_
  have z6 : n0 ≤ h5.size := (Nat.le_trans z3 E5.1)
  have o7 := o4.ext E5
  show Rch p e below _ (T5.setTop (mkF m 13 #[rv x1, iv y2, rv x3, iv y4, iv y5, iv y6, .val .null, rv x7, rv x8] [(.ref b5), (.ref x3), (.ref x1)]))
  obtain ⟨v8, T8, L8, X8, Q8, st8⟩ := callSt X5 hx hZ5 (m10_requireNonNull l Z a0 hw x3 b5 h5 n0 z6 o7 ) e5 hown5 (wd_58 hw) (wd_59 hw) (wd_61 hw) (wd_60 hw) (by decide) (hb hby d9_13) 1 (by decide) (by decide) (by decide) (by decide) (by rw [hml]; rfl) [(.ref x3), (.ref b5)] [(.ref x1)] rfl (lenOf pd_6 rfl) rfl (Nat.le_of_eq rfl) (Ls := #[rv x1, iv y2, rv x3, iv y4, iv y5, iv y6, .val .null, rv x7, rv x8])
  obtain ⟨rfl, M8, e8⟩ := Q8
  have N8 := Fr.app N2 M8
  refine Rch.go st8 ?_
  show Rch p e below _ (T8.setTop (mkF m 16 #[rv x1, iv y2, rv x3, iv y4, iv y5, iv y6, .val .null, rv x7, rv x8] [(.ref x3), (.ref x1)]))
  have f10 := ((P4.wr W2).ext E5)
  obtain ⟨T9, X9, e9, st9⟩ := castY X8 hx hZ5 hown5 (wd_62 hw) e8 (Ins.self f10) (g := (mkF m 16 #[rv x1, iv y2, rv x3, iv y4, iv y5, iv y6, .val .null, rv x7, rv x8] [(.ref x3), (.ref x1)])) rfl rfl (hb hby d9_16)
  refine Rch.go st9 ?_
  show Rch p e below _ (T9.setTop (mkF m 19 #[rv x1, iv y2, rv x3, iv y4, iv y5, iv y6, .val .null, rv x7, rv x8] [(.ref x3), (.ref x1)]))
  have f12 := ((P5.other W2 (Or.inr (slot_ne (Or.inr (wd_64 hw)) (Or.inr (wd_54 hw)) (by decide) (t := (.object "java/lang/String")) (t' := .int) (by decide) (by decide)))).ext E5)
  have f13 := ((P1.wr W2).ext E5)
  obtain ⟨T11, h11, X11, e11, W11, st11⟩ := putF X9 hx hZ5 hown5 (host := "") (Or.inl (wd_63 hw)) Via.refl e9 f12 f13 (Or.inr ⟨(wd_64 hw), rfl, hnm⟩) (wd_31 hw) (ty := (.object "java/lang/String")) (by decide) rfl rfl (g := (mkF m 19 #[rv x1, iv y2, rv x3, iv y4, iv y5, iv y6, .val .null, rv x7, rv x8] [(.ref x3), (.ref x1)])) rfl rfl (hb hby d9_19)
  refine Rch.go st11 ?_
  have z14 : n0 ≤ h11.size := (Nat.le_trans z6 (Nat.le_of_eq W11.size.symm))
  have o15 := o7.wr W11 P3
  have F11 := f12.same W11
  have N11 := Fr.snoc X11 N8 P3
  show Rch p e below _ (T11.setTop (mkF m 22 #[rv x1, iv y2, rv x3, iv y4, iv y5, iv y6, .val .null, rv x7, rv x8] []))
  refine Rch.go (fun t k => XS.aloadN X11.here hx rfl (hb hby d9_22) rfl rfl k) ?_
  show Rch p e below _ (T11.setTop (mkF m 23 #[rv x1, iv y2, rv x3, iv y4, iv y5, iv y6, .val .null, rv x7, rv x8] [(.ref x1)]))
  refine Rch.go (fun t k => XS.iloadN X11.here hx rfl (hb hby d9_23) rfl  k) ?_
  show Rch p e below _ (T11.setTop (mkF m 24 #[rv x1, iv y2, rv x3, iv y4, iv y5, iv y6, .val .null, rv x7, rv x8] [(.int y4), (.ref x1)]))
  have f17 := (((P6.other W2 (Or.inr (slot_ne (Or.inr (wd_66 hw)) (Or.inr (wd_54 hw)) (by decide) (t := .int) (t' := .int) (by decide) (by decide)))).ext E5).other W11 (Or.inr (slot_ne (Or.inr (wd_66 hw)) (Or.inr (wd_64 hw)) (by decide) (t := .int) (t' := (.object "java/lang/String")) (by decide) (by decide))))
  have f18 := (f13.wr W11)
  obtain ⟨T16, h16, X16, e16, W16, st16⟩ := putF X11 hx hZ5 hown5 (host := "") (Or.inl (wd_65 hw)) Via.refl e11 f17 f18 (Or.inr ⟨(wd_66 hw), rfl, hnm⟩) (wd_31 hw) (ty := .int) (by decide) rfl rfl (g := (mkF m 24 #[rv x1, iv y2, rv x3, iv y4, iv y5, iv y6, .val .null, rv x7, rv x8] [(.int y4), (.ref x1)])) rfl rfl (hb hby d9_24)
  refine Rch.go st16 ?_
  have z19 : n0 ≤ h16.size := (Nat.le_trans z14 (Nat.le_of_eq W16.size.symm))
  have o20 := o15.wr W16 P3
  have F16 := f17.same W16
  have N16 := Fr.snoc X16 N11 P3
  show Rch p e below _ (T16.setTop (mkF m 27 #[rv x1, iv y2, rv x3, iv y4, iv y5, iv y6, .val .null, rv x7, rv x8] []))
  refine Rch.go (fun t k => XS.aloadN X16.here hx rfl (hb hby d9_27) rfl rfl k) ?_
  show Rch p e below _ (T16.setTop (mkF m 28 #[rv x1, iv y2, rv x3, iv y4, iv y5, iv y6, .val .null, rv x7, rv x8] [(.ref x1)]))
  refine Rch.go (fun t k => XS.iload X16.here hx rfl (hb hby d9_28) rfl  k) ?_
  show Rch p e below _ (T16.setTop (mkF m 30 #[rv x1, iv y2, rv x3, iv y4, iv y5, iv y6, .val .null, rv x7, rv x8] [(.int y5), (.ref x1)]))
  have f22 := ((((P7.other W2 (Or.inr (slot_ne (Or.inr (wd_68 hw)) (Or.inr (wd_54 hw)) (by decide) (t := .int) (t' := .int) (by decide) (by decide)))).ext E5).other W11 (Or.inr (slot_ne (Or.inr (wd_68 hw)) (Or.inr (wd_64 hw)) (by decide) (t := .int) (t' := (.object "java/lang/String")) (by decide) (by decide)))).other W16 (Or.inr (slot_ne (Or.inr (wd_68 hw)) (Or.inr (wd_66 hw)) (by decide) (t := .int) (t' := .int) (by decide) (by decide))))
  have f23 := (f18.wr W16)
  obtain ⟨T21, h21, X21, e21, W21, st21⟩ := putF X16 hx hZ5 hown5 (host := "") (Or.inl (wd_67 hw)) Via.refl e16 f22 f23 (Or.inr ⟨(wd_68 hw), rfl, hnm⟩) (wd_31 hw) (ty := .int) (by decide) rfl rfl (g := (mkF m 30 #[rv x1, iv y2, rv x3, iv y4, iv y5, iv y6, .val .null, rv x7, rv x8] [(.int y5), (.ref x1)])) rfl rfl (hb hby d9_30)
  refine Rch.go st21 ?_
  have z24 : n0 ≤ h21.size := (Nat.le_trans z19 (Nat.le_of_eq W21.size.symm))
  have o25 := o20.wr W21 P3
  have F21 := f22.same W21
  have N21 := Fr.snoc X21 N16 P3
  show Rch p e below _ (T21.setTop (mkF m 33 #[rv x1, iv y2, rv x3, iv y4, iv y5, iv y6, .val .null, rv x7, rv x8] []))
  refine Rch.go (fun t k => XS.aloadN X21.here hx rfl (hb hby d9_33) rfl rfl k) ?_
  show Rch p e below _ (T21.setTop (mkF m 34 #[rv x1, iv y2, rv x3, iv y4, iv y5, iv y6, .val .null, rv x7, rv x8] [(.ref x1)]))
  refine Rch.go (fun t k => XS.iload X21.here hx rfl (hb hby d9_34) rfl  k) ?_
  show Rch p e below _ (T21.setTop (mkF m 36 #[rv x1, iv y2, rv x3, iv y4, iv y5, iv y6, .val .null, rv x7, rv x8] [(.int y6), (.ref x1)]))
  have f27 := (((((P8.other W2 (Or.inr (slot_ne (Or.inr (wd_70 hw)) (Or.inr (wd_54 hw)) (by decide) (t := .int) (t' := .int) (by decide) (by decide)))).ext E5).other W11 (Or.inr (slot_ne (Or.inr (wd_70 hw)) (Or.inr (wd_64 hw)) (by decide) (t := .int) (t' := (.object "java/lang/String")) (by decide) (by decide)))).other W16 (Or.inr (slot_ne (Or.inr (wd_70 hw)) (Or.inr (wd_66 hw)) (by decide) (t := .int) (t' := .int) (by decide) (by decide)))).other W21 (Or.inr (slot_ne (Or.inr (wd_70 hw)) (Or.inr (wd_68 hw)) (by decide) (t := .int) (t' := .int) (by decide) (by decide))))
  have f28 := (f23.wr W21)
  obtain ⟨T26, h26, X26, e26, W26, st26⟩ := putF X21 hx hZ5 hown5 (host := "") (Or.inl (wd_69 hw)) Via.refl e21 f27 f28 (Or.inr ⟨(wd_70 hw), rfl, hnm⟩) (wd_31 hw) (ty := .int) (by decide) rfl rfl (g := (mkF m 36 #[rv x1, iv y2, rv x3, iv y4, iv y5, iv y6, .val .null, rv x7, rv x8] [(.int y6), (.ref x1)])) rfl rfl (hb hby d9_36)
  refine Rch.go st26 ?_
  have z29 : n0 ≤ h26.size := (Nat.le_trans z24 (Nat.le_of_eq W26.size.symm))
  have o30 := o25.wr W26 P3
  have F26 := f27.same W26
  have N26 := Fr.snoc X26 N21 P3
  show Rch p e below _ (T26.setTop (mkF m 39 #[rv x1, iv y2, rv x3, iv y4, iv y5, iv y6, .val .null, rv x7, rv x8] []))
  refine Rch.go (fun t k => XS.aloadN X26.here hx rfl (hb hby d9_39) rfl rfl k) ?_
  show Rch p e below _ (T26.setTop (mkF m 40 #[rv x1, iv y2, rv x3, iv y4, iv y5, iv y6, .val .null, rv x7, rv x8] [(.ref x1)]))
  refine Rch.go (fun t k => XS.aload X26.here hx rfl (hb hby d9_40) rfl rfl k) ?_
  show Rch p e below _ (T26.setTop (mkF m 42 #[rv x1, iv y2, rv x3, iv y4, iv y5, iv y6, .val .null, rv x7, rv x8] [.null, (.ref x1)]))
  have f32 := ((((((P9.other W2 (Or.inr (slot_ne (Or.inr (wd_72 hw)) (Or.inr (wd_54 hw)) (by decide) (t := (.object "java/lang/String")) (t' := .int) (by decide) (by decide)))).ext E5).other W11 (Or.inr (slot_ne (Or.inr (wd_72 hw)) (Or.inr (wd_64 hw)) (by decide) (t := (.object "java/lang/String")) (t' := (.object "java/lang/String")) (by decide) (by decide)))).other W16 (Or.inr (slot_ne (Or.inr (wd_72 hw)) (Or.inr (wd_66 hw)) (by decide) (t := (.object "java/lang/String")) (t' := .int) (by decide) (by decide)))).other W21 (Or.inr (slot_ne (Or.inr (wd_72 hw)) (Or.inr (wd_68 hw)) (by decide) (t := (.object "java/lang/String")) (t' := .int) (by decide) (by decide)))).other W26 (Or.inr (slot_ne (Or.inr (wd_72 hw)) (Or.inr (wd_70 hw)) (by decide) (t := (.object "java/lang/String")) (t' := .int) (by decide) (by decide))))
  have f33 := (f28.wr W26)
  obtain ⟨T31, h31, X31, e31, W31, st31⟩ := putF X26 hx hZ5 hown5 (host := "") (Or.inl (wd_71 hw)) Via.refl e26 f32 f33 (Or.inr ⟨(wd_72 hw), rfl, hnm⟩) (wd_31 hw) (ty := (.object "java/lang/String")) (by decide) rfl rfl (g := (mkF m 42 #[rv x1, iv y2, rv x3, iv y4, iv y5, iv y6, .val .null, rv x7, rv x8] [.null, (.ref x1)])) rfl rfl (hb hby d9_42)
  refine Rch.go st31 ?_
  have z34 : n0 ≤ h31.size := (Nat.le_trans z29 (Nat.le_of_eq W31.size.symm))
  have o35 := o30.wr W31 P3
  have F31 := f32.same W31
  have N31 := Fr.snoc X31 N26 P3
  show Rch p e below _ (T31.setTop (mkF m 45 #[rv x1, iv y2, rv x3, iv y4, iv y5, iv y6, .val .null, rv x7, rv x8] []))
  refine Rch.go (fun t k => XS.aloadN X31.here hx rfl (hb hby d9_45) rfl rfl k) ?_
  show Rch p e below _ (T31.setTop (mkF m 46 #[rv x1, iv y2, rv x3, iv y4, iv y5, iv y6, .val .null, rv x7, rv x8] [(.ref x1)]))
  refine Rch.go (fun t k => XS.aload X31.here hx rfl (hb hby d9_46) rfl rfl k) ?_
  show Rch p e below _ (T31.setTop (mkF m 48 #[rv x1, iv y2, rv x3, iv y4, iv y5, iv y6, .val .null, rv x7, rv x8] [(.ref x7), (.ref x1)]))
  have f36 := (((((((P10.wr W2).ext E5).wr W11).wr W16).wr W21).wr W26).wr W31)
  have f37 := (((((((P11.other W2 (Or.inl P12)).ext E5).other W11 (Or.inl P12)).other W16 (Or.inl P12)).other W21 (Or.inl P12)).other W26 (Or.inl P12)).other W31 (Or.inl P12))
  have f38 := (((((((P14.other W2 (Or.inl P12)).ext E5).other W11 (Or.inl P12)).other W16 (Or.inl P12)).other W21 (Or.inl P12)).other W26 (Or.inl P12)).other W31 (Or.inl P12))
  have f39 := (((((((P15.other W2 (Or.inl P12)).ext E5).other W11 (Or.inl P12)).other W16 (Or.inl P12)).other W21 (Or.inl P12)).other W26 (Or.inl P12)).other W31 (Or.inl P12))
  have f40 := (((((((P16.other W2 (Or.inl P12)).ext E5).other W11 (Or.inl P12)).other W16 (Or.inl P12)).other W21 (Or.inl P12)).other W26 (Or.inl P12)).other W31 (Or.inl P12))
  obtain ⟨v41, T41, L41, X41, Q41, Y41, hZ41, hown41, st41⟩ := callStW X31 hx hZ5 Y5 (Nat.le_trans (Nat.le_trans (Nat.le_trans (Nat.le_trans (Nat.le_trans yk5 (Nat.le_of_eq W11.size.symm)) (Nat.le_of_eq W16.size.symm)) (Nat.le_of_eq W21.size.symm)) (Nat.le_of_eq W26.size.symm)) (Nat.le_of_eq W31.size.symm)) (m11_copyFields l Z a0 hw x7 x9 x10 h31 n0 z34 o35 f36 f37 P13 f38 f39 f40 P17 P18) e31 hown5 (wd_73 hw) (wd_74 hw) (wd_75 hw) (wd_32 hw) (by decide) (hb hby d9_48) 1 (by decide) (by decide) (by decide) (by decide) (by rw [hml]; rfl) [(.ref x7)] [(.ref x1)] rfl (lenOf pd_11 rfl) rfl (Nat.le_of_eq rfl) (Ls := #[rv x1, iv y2, rv x3, iv y4, iv y5, iv y6, .val .null, rv x7, rv x8])
  obtain ⟨b41_0, vw41, rfl, vp41, M41, K41, zz41_0, F41_0, F41_1, F41_2, F41_3, F41_4, F41_5⟩ := Q41
  have N41 := Fr.app N31 M41
  refine Rch.go st41 ?_
  have z42 : n0 ≤ T41.heap.size := (Nat.le_trans z34 K41.1)
  have o43 := o35.keep K41 (allS P13 all0)
  have g_b41_0 : n0 ≤ b41_0 := Nat.le_trans z34 zz41_0
  show Rch p e below _ (T41.setTop (mkF m 51 #[rv x1, iv y2, rv x3, iv y4, iv y5, iv y6, .val .null, rv x7, rv x8] [vw41, (.ref x1)]))
  have f45 := ((((((((P19.other W2 (Or.inr (slot_ne (Or.inr (wd_196 hw)) (Or.inr (wd_54 hw)) (by decide) (t := (.object "java/util/Map")) (t' := .int) (by decide) (by decide)))).ext E5).other W11 (Or.inr (slot_ne (Or.inr (wd_196 hw)) (Or.inr (wd_64 hw)) (by decide) (t := (.object "java/util/Map")) (t' := (.object "java/lang/String")) (by decide) (by decide)))).other W16 (Or.inr (slot_ne (Or.inr (wd_196 hw)) (Or.inr (wd_66 hw)) (by decide) (t := (.object "java/util/Map")) (t' := .int) (by decide) (by decide)))).other W21 (Or.inr (slot_ne (Or.inr (wd_196 hw)) (Or.inr (wd_68 hw)) (by decide) (t := (.object "java/util/Map")) (t' := .int) (by decide) (by decide)))).other W26 (Or.inr (slot_ne (Or.inr (wd_196 hw)) (Or.inr (wd_70 hw)) (by decide) (t := (.object "java/util/Map")) (t' := .int) (by decide) (by decide)))).other W31 (Or.inr (slot_ne (Or.inr (wd_196 hw)) (Or.inr (wd_72 hw)) (by decide) (t := (.object "java/util/Map")) (t' := (.object "java/lang/String")) (by decide) (by decide)))).keep K41 (ninS (Ne.symm P12) nin0))
  have f46 := ((f33.wr W31).keep K41)
  obtain ⟨T44, h44, X44, e44, W44, st44⟩ := putF X41 hx hZ41 hown41 (host := "") (Or.inl (wd_195 hw)) Via.refl rfl f45 f46 (Or.inr ⟨(wd_196 hw), rfl, hnm⟩) (wd_31 hw) (ty := (.object "java/util/Map")) (by decide) (own_nref vp41) (own_fref vp41) (g := (mkF m 51 #[rv x1, iv y2, rv x3, iv y4, iv y5, iv y6, .val .null, rv x7, rv x8] [vw41, (.ref x1)])) rfl rfl (hb hby d9_51)
  refine Rch.go st44 ?_
  have z47 : n0 ≤ h44.size := (Nat.le_trans z42 (Nat.le_of_eq W44.size.symm))
  have o48 := o43.wr W44 P3
  have F44 := f45.same W44
  have N44 := Fr.snoc X44 N41 P3
  show Rch p e below _ (T44.setTop (mkF m 54 #[rv x1, iv y2, rv x3, iv y4, iv y5, iv y6, .val .null, rv x7, rv x8] []))
  refine Rch.go (fun t k => XS.aloadN X44.here hx rfl (hb hby d9_54) rfl rfl k) ?_
  show Rch p e below _ (T44.setTop (mkF m 55 #[rv x1, iv y2, rv x3, iv y4, iv y5, iv y6, .val .null, rv x7, rv x8] [(.ref x1)]))
  refine Rch.go (fun t k => XS.aload X44.here hx rfl (hb hby d9_55) rfl rfl k) ?_
  show Rch p e below _ (T44.setTop (mkF m 57 #[rv x1, iv y2, rv x3, iv y4, iv y5, iv y6, .val .null, rv x7, rv x8] [(.ref x8), (.ref x1)]))
  obtain ⟨b49, T49, h49, k49, X49, e49, E49, Y49, yk49, hZ49, hown49, st49⟩ := ldcS X44 hx hZ41 hown41 (wd_197 hw) (strW hw) e44 Y41 (Nat.le_trans (Nat.le_refl _) (Nat.le_of_eq W44.size.symm)) (g := (mkF m 57 #[rv x1, iv y2, rv x3, iv y4, iv y5, iv y6, .val .null, rv x7, rv x8] [(.ref x8), (.ref x1)])) rfl (hb hby d9_57) (n := 16) (by decide) (by decide) (by decide) (by decide)
  refine Rch.go st49 ?_
  have z50 : n0 ≤ h49.size := (Nat.le_trans z47 E49.1)
  have o51 := o48.ext E49
  show Rch p e below _ (T49.setTop (mkF m 59 #[rv x1, iv y2, rv x3, iv y4, iv y5, iv y6, .val .null, rv x7, rv x8] [(.ref b49), (.ref x8), (.ref x1)]))
  obtain ⟨v52, T52, L52, X52, Q52, st52⟩ := callSt X49 hx hZ49 (m10_requireNonNull l Z a0 hw x8 b49 h49 n0 z50 o51 ) e49 hown49 (wd_58 hw) (wd_59 hw) (wd_61 hw) (wd_60 hw) (by decide) (hb hby d9_59) 1 (by decide) (by decide) (by decide) (by decide) (by rw [hml]; rfl) [(.ref x8), (.ref b49)] [(.ref x1)] rfl (lenOf pd_6 rfl) rfl (Nat.le_of_eq rfl) (Ls := #[rv x1, iv y2, rv x3, iv y4, iv y5, iv y6, .val .null, rv x7, rv x8])
  obtain ⟨rfl, M52, e52⟩ := Q52
  have N52 := Fr.app N44 M52
  refine Rch.go st52 ?_
  show Rch p e below _ (T52.setTop (mkF m 62 #[rv x1, iv y2, rv x3, iv y4, iv y5, iv y6, .val .null, rv x7, rv x8] [(.ref x8), (.ref x1)]))
  have f54 := ((((((((((P20.wr W2).ext E5).wr W11).wr W16).wr W21).wr W26).wr W31).keep K41).wr W44).ext E49)
  obtain ⟨T53, X53, e53, st53⟩ := castY X52 hx hZ49 hown49 (wd_198 hw) e52 (Ins.self f54) (g := (mkF m 62 #[rv x1, iv y2, rv x3, iv y4, iv y5, iv y6, .val .null, rv x7, rv x8] [(.ref x8), (.ref x1)])) rfl rfl (hb hby d9_62)
  refine Rch.go st53 ?_
  show Rch p e below _ (T53.setTop (mkF m 65 #[rv x1, iv y2, rv x3, iv y4, iv y5, iv y6, .val .null, rv x7, rv x8] [(.ref x8), (.ref x1)]))
  have f56 := ((((((((((P21.other W2 (Or.inr (slot_ne (Or.inr (wd_201 hw)) (Or.inr (wd_54 hw)) (by decide) (t := (.array .byte)) (t' := .int) (by decide) (by decide)))).ext E5).other W11 (Or.inr (slot_ne (Or.inr (wd_201 hw)) (Or.inr (wd_64 hw)) (by decide) (t := (.array .byte)) (t' := (.object "java/lang/String")) (by decide) (by decide)))).other W16 (Or.inr (slot_ne (Or.inr (wd_201 hw)) (Or.inr (wd_66 hw)) (by decide) (t := (.array .byte)) (t' := .int) (by decide) (by decide)))).other W21 (Or.inr (slot_ne (Or.inr (wd_201 hw)) (Or.inr (wd_68 hw)) (by decide) (t := (.array .byte)) (t' := .int) (by decide) (by decide)))).other W26 (Or.inr (slot_ne (Or.inr (wd_201 hw)) (Or.inr (wd_70 hw)) (by decide) (t := (.array .byte)) (t' := .int) (by decide) (by decide)))).other W31 (Or.inr (slot_ne (Or.inr (wd_201 hw)) (Or.inr (wd_72 hw)) (by decide) (t := (.array .byte)) (t' := (.object "java/lang/String")) (by decide) (by decide)))).keep K41 (ninS (Ne.symm P12) nin0)).other W44 (Or.inr (slot_ne (Or.inr (wd_201 hw)) (Or.inr (wd_196 hw)) (by decide) (t := (.array .byte)) (t' := (.object "java/util/Map")) (by decide) (by decide)))).ext E49)
  have f57 := ((f46.wr W44).ext E49)
  obtain ⟨T55, h55, X55, e55, W55, st55⟩ := putF X53 hx hZ49 hown49 (host := "") (Or.inl (wd_200 hw)) Via.refl e53 f56 f57 (Or.inr ⟨(wd_201 hw), rfl, hnm⟩) (wd_31 hw) (ty := (.array .byte)) (by decide) rfl rfl (g := (mkF m 65 #[rv x1, iv y2, rv x3, iv y4, iv y5, iv y6, .val .null, rv x7, rv x8] [(.ref x8), (.ref x1)])) rfl rfl (hb hby d9_65)
  refine Rch.go st55 ?_
  have z58 : n0 ≤ h55.size := (Nat.le_trans z50 (Nat.le_of_eq W55.size.symm))
  have o59 := o51.wr W55 P3
  have F55 := f56.same W55
  have N55 := Fr.snoc X55 N52 P3
  show Rch p e below _ (T55.setTop (mkF m 68 #[rv x1, iv y2, rv x3, iv y4, iv y5, iv y6, .val .null, rv x7, rv x8] []))
  have f60 := ((((((((((F2.ext E5).other W11 (Or.inr (slot_ne (Or.inr (wd_54 hw)) (Or.inr (wd_64 hw)) (by decide) (t := .int) (t' := (.object "java/lang/String")) (by decide) (by decide)))).other W16 (Or.inr (slot_ne (Or.inr (wd_54 hw)) (Or.inr (wd_66 hw)) (by decide) (t := .int) (t' := .int) (by decide) (by decide)))).other W21 (Or.inr (slot_ne (Or.inr (wd_54 hw)) (Or.inr (wd_68 hw)) (by decide) (t := .int) (t' := .int) (by decide) (by decide)))).other W26 (Or.inr (slot_ne (Or.inr (wd_54 hw)) (Or.inr (wd_70 hw)) (by decide) (t := .int) (t' := .int) (by decide) (by decide)))).other W31 (Or.inr (slot_ne (Or.inr (wd_54 hw)) (Or.inr (wd_72 hw)) (by decide) (t := .int) (t' := (.object "java/lang/String")) (by decide) (by decide)))).keep K41 (ninS (Ne.symm P12) nin0)).other W44 (Or.inr (slot_ne (Or.inr (wd_54 hw)) (Or.inr (wd_196 hw)) (by decide) (t := .int) (t' := (.object "java/util/Map")) (by decide) (by decide)))).ext E49).other W55 (Or.inr (slot_ne (Or.inr (wd_54 hw)) (Or.inr (wd_201 hw)) (by decide) (t := .int) (t' := (.array .byte)) (by decide) (by decide))))
  have f61 := ((((((((F11.other W16 (Or.inr (slot_ne (Or.inr (wd_64 hw)) (Or.inr (wd_66 hw)) (by decide) (t := (.object "java/lang/String")) (t' := .int) (by decide) (by decide)))).other W21 (Or.inr (slot_ne (Or.inr (wd_64 hw)) (Or.inr (wd_68 hw)) (by decide) (t := (.object "java/lang/String")) (t' := .int) (by decide) (by decide)))).other W26 (Or.inr (slot_ne (Or.inr (wd_64 hw)) (Or.inr (wd_70 hw)) (by decide) (t := (.object "java/lang/String")) (t' := .int) (by decide) (by decide)))).other W31 (Or.inr (slot_ne (Or.inr (wd_64 hw)) (Or.inr (wd_72 hw)) (by decide) (t := (.object "java/lang/String")) (t' := (.object "java/lang/String")) (by decide) (by decide)))).keep K41 (ninS (Ne.symm P12) nin0)).other W44 (Or.inr (slot_ne (Or.inr (wd_64 hw)) (Or.inr (wd_196 hw)) (by decide) (t := (.object "java/lang/String")) (t' := (.object "java/util/Map")) (by decide) (by decide)))).ext E49).other W55 (Or.inr (slot_ne (Or.inr (wd_64 hw)) (Or.inr (wd_201 hw)) (by decide) (t := (.object "java/lang/String")) (t' := (.array .byte)) (by decide) (by decide))))
  have f62 := (((((((F16.other W21 (Or.inr (slot_ne (Or.inr (wd_66 hw)) (Or.inr (wd_68 hw)) (by decide) (t := .int) (t' := .int) (by decide) (by decide)))).other W26 (Or.inr (slot_ne (Or.inr (wd_66 hw)) (Or.inr (wd_70 hw)) (by decide) (t := .int) (t' := .int) (by decide) (by decide)))).other W31 (Or.inr (slot_ne (Or.inr (wd_66 hw)) (Or.inr (wd_72 hw)) (by decide) (t := .int) (t' := (.object "java/lang/String")) (by decide) (by decide)))).keep K41 (ninS (Ne.symm P12) nin0)).other W44 (Or.inr (slot_ne (Or.inr (wd_66 hw)) (Or.inr (wd_196 hw)) (by decide) (t := .int) (t' := (.object "java/util/Map")) (by decide) (by decide)))).ext E49).other W55 (Or.inr (slot_ne (Or.inr (wd_66 hw)) (Or.inr (wd_201 hw)) (by decide) (t := .int) (t' := (.array .byte)) (by decide) (by decide))))
  have f63 := ((((((F21.other W26 (Or.inr (slot_ne (Or.inr (wd_68 hw)) (Or.inr (wd_70 hw)) (by decide) (t := .int) (t' := .int) (by decide) (by decide)))).other W31 (Or.inr (slot_ne (Or.inr (wd_68 hw)) (Or.inr (wd_72 hw)) (by decide) (t := .int) (t' := (.object "java/lang/String")) (by decide) (by decide)))).keep K41 (ninS (Ne.symm P12) nin0)).other W44 (Or.inr (slot_ne (Or.inr (wd_68 hw)) (Or.inr (wd_196 hw)) (by decide) (t := .int) (t' := (.object "java/util/Map")) (by decide) (by decide)))).ext E49).other W55 (Or.inr (slot_ne (Or.inr (wd_68 hw)) (Or.inr (wd_201 hw)) (by decide) (t := .int) (t' := (.array .byte)) (by decide) (by decide))))
  have f64 := (((((F26.other W31 (Or.inr (slot_ne (Or.inr (wd_70 hw)) (Or.inr (wd_72 hw)) (by decide) (t := .int) (t' := (.object "java/lang/String")) (by decide) (by decide)))).keep K41 (ninS (Ne.symm P12) nin0)).other W44 (Or.inr (slot_ne (Or.inr (wd_70 hw)) (Or.inr (wd_196 hw)) (by decide) (t := .int) (t' := (.object "java/util/Map")) (by decide) (by decide)))).ext E49).other W55 (Or.inr (slot_ne (Or.inr (wd_70 hw)) (Or.inr (wd_201 hw)) (by decide) (t := .int) (t' := (.array .byte)) (by decide) (by decide))))
  have f65 := ((((F31.keep K41 (ninS (Ne.symm P12) nin0)).other W44 (Or.inr (slot_ne (Or.inr (wd_72 hw)) (Or.inr (wd_196 hw)) (by decide) (t := (.object "java/lang/String")) (t' := (.object "java/util/Map")) (by decide) (by decide)))).ext E49).other W55 (Or.inr (slot_ne (Or.inr (wd_72 hw)) (Or.inr (wd_201 hw)) (by decide) (t := (.object "java/lang/String")) (t' := (.array .byte)) (by decide) (by decide))))
  have f66 := (((F41_0.other W44 (Or.inl P12)).ext E49).other W55 (Or.inl P12))
  have f67 := (((F41_1.wr W44).ext E49).wr W55)
  have lt68 := (Nat.lt_of_lt_of_le (Nat.lt_of_lt_of_le (Nat.lt_of_lt_of_le (Nat.lt_of_lt_of_le (Nat.lt_of_lt_of_le (Nat.lt_of_lt_of_le (Nat.lt_of_lt_of_le P1.lt (Nat.le_of_eq W2.size.symm)) E5.1) (Nat.le_of_eq W11.size.symm)) (Nat.le_of_eq W16.size.symm)) (Nat.le_of_eq W21.size.symm)) (Nat.le_of_eq W26.size.symm)) (Nat.le_of_eq W31.size.symm))
  have ne69 : x1 ≠ b41_0 := Nat.ne_of_lt (Nat.lt_of_lt_of_le lt68 zz41_0)
  have f70 := (((F41_2.other W44 (Or.inl (Ne.symm ne69))).ext E49).other W55 (Or.inl (Ne.symm ne69)))
  have f71 := (((F41_3.other W44 (Or.inl P12)).ext E49).other W55 (Or.inl P12))
  have f72 := (((F41_4.other W44 (Or.inl P12)).ext E49).other W55 (Or.inl P12))
  have f73 := (((F41_5.other W44 (Or.inl P12)).ext E49).other W55 (Or.inl P12))
  refine Rch.voidW X55 hx Y49 e55 (Nat.le_trans yk49 (Nat.le_of_eq W55.size.symm)) hret hlk (hb hby d9_68) (by decide) (by decide) ?_
  exact ⟨b41_0, rfl, N55, ((((((((((((Keep.refl _ _).wr W2 (Or.inl (List.mem_of_getElem? (i := 0) rfl))).ext E5).wr W11 (Or.inl (List.mem_of_getElem? (i := 0) rfl))).wr W16 (Or.inl (List.mem_of_getElem? (i := 0) rfl))).wr W21 (Or.inl (List.mem_of_getElem? (i := 0) rfl))).wr W26 (Or.inl (List.mem_of_getElem? (i := 0) rfl))).wr W31 (Or.inl (List.mem_of_getElem? (i := 0) rfl))).trans K41 (allS (Or.inl (List.mem_of_getElem? (i := 1) rfl)) all0)).wr W44 (Or.inl (List.mem_of_getElem? (i := 0) rfl))).ext E49).wr W55 (Or.inl (List.mem_of_getElem? (i := 0) rfl))), (Nat.le_trans (Nat.le_trans (Nat.le_trans (Nat.le_trans (Nat.le_trans (Nat.le_trans (Nat.le_trans (Nat.le_trans (Nat.le_refl _) (Nat.le_of_eq W2.size.symm)) E5.1) (Nat.le_of_eq W11.size.symm)) (Nat.le_of_eq W16.size.symm)) (Nat.le_of_eq W21.size.symm)) (Nat.le_of_eq W26.size.symm)) (Nat.le_of_eq W31.size.symm)) zz41_0), f60, f61, f62, f63, f64, f65, f66, f67, f70, f71, f72, f73, F55⟩
theorem wd_51 {Z : State} {a0 : Array Value} (hw : ∀ d ∈ tables_1, d.before a0 Z = true) : (Jvm.Cond.code ({ cls := s1', name := "<init>", desc := "(ILjava/lang/String;IIILjava/lang/String;Ljava/util/Map;[B)V" } : Jvm.MethodName) prog_20_method_1_code (9 : Nat) (Option.none : Option Jvm.ClassFile.FieldType)).before a0 Z = true := hw _ (List.mem_of_getElem? (i := 51) rfl)
theorem pd_12 : parseMethodDescriptor "(ILjava/lang/String;IIILjava/lang/String;Ljava/util/Map;[B)V" = some ⟨[.int, (.object "java/lang/String"), .int, .int, .int, (.object "java/lang/String"), (.object "java/util/Map"), (.array .byte)], none⟩ := by decide +kernel
theorem wd_50 {Z : State} {a0 : Array Value} (hw : ∀ d ∈ tables_1, d.before a0 Z = true) : (Jvm.Cond.instanceMethod ({ cls := s1', name := "<init>", desc := "(ILjava/lang/String;IIILjava/lang/String;Ljava/util/Map;[B)V" } : Jvm.MethodName)).before a0 Z = true := hw _ (List.mem_of_getElem? (i := 50) rfl)
theorem d6_24 : decode method_2_code 24 = .ok (.areturn, 1) := by decide +kernel
theorem pn_com_example_fuchun_fuchun_remoting_RemotingCommandIsOnewayPinLaw : plainName s8' = true := by first | (simp [plainName, overriddenIn]; done) | decide +kernel
set_option maxRecDepth 65536 in
set_option maxHeartbeats 4000000 in
theorem ef_m6_make (m : MethodId) (y1 : Int32) (x2 : Addr) (y3 : Int32) (y4 : Int32) (y5 : Int32) (x6 : Addr) (x7 : Addr) : entryFrame m #[(.int y1), (.ref x2), (.int y3), (.int y4), (.int y5)] 5 = mkF m 0 #[iv y1, rv x2, iv y3, iv y4, iv y5] [] := by first | rfl | (simp [entryFrame, mkF, argsToLocals, Value.category]; done)
set_option maxRecDepth 65536 in
set_option maxHeartbeats 40000000 in
theorem m6_make (l : Launch) (Z : State) (a0 : Array Value) (hw : ∀ d ∈ tables_1, d.before a0 Z = true) (y1 : Int32) (x2 : Addr) (y3 : Int32) (y4 : Int32) (y5 : Int32) (x6 : Addr) (x7 : Addr) (h0 : Heap) (n0 : Nat) (Z0 : n0 ≤ h0.size) (O0 : Old Z n0 h0) (P1 : Exa Z h0 x2 "java/lang/String") (P2 : MirA Z s3' x6) (P3 : MirA Z s6' x7) :
    CtrW l Z [] (⟨s8', "make", "(ILjava/lang/String;III)Lcom/example/fuchun/fuchun/remoting/RemotingCommand;"⟩ : MethodName) method_2_code 5 (some (.object s1')) #[(.int y1), (.ref x2), (.int y3), (.int y4), (.int y5)] h0 ({ frames := 7, cells := 13, slots := 122, locals := 103 } : Room) (fun v h L => ∃ (b1 : Addr) (b10 : Addr) (k10 : ClassId), v = some (.ref b1) ∧ Fr n0 L ∧ Keep h0 h [] ∧ h0.size ≤ b1 ∧ h0.size ≤ b10 ∧ Exa Z h b1 s1' ∧ Exa Z h b10 "[B" ∧ Arv Z h b10 k10 .byte (0 : Int32) [] (.int (0 : Int32)) ∧ Fld Z h b1 s1' "code" "I" (.int y1) ∧ Fld Z h b1 s1' "language" "Ljava/lang/String;" (.ref x2) ∧ Fld Z h b1 s1' "version" "I" (.int y3) ∧ Fld Z h b1 s1' "opaque" "I" (.int y4) ∧ Fld Z h b1 s1' "flag" "I" (.int y5) ∧ Fld Z h b1 s1' "remark" "Ljava/lang/String;" .null ∧ Fld Z h b1 s1' "body" "[B" (.ref b10)) := by
  refine CtrW.of (plainFor_of_name pn_com_example_fuchun_fuchun_remoting_RemotingCommandIsOnewayPinLaw) (fun m => ef_m6_make m y1 x2 y3 y4 y5 x6 x7) ?_
  intro p e s vm0 m below meth c T0 hx hZ hby hml hown hnm hret hlk Y0 X0 e0
  have N0 := Fr.nil n0
  show Rch p e below _ (T0.setTop (mkF m 0 #[iv y1, rv x2, iv y3, iv y4, iv y5] []))
  obtain ⟨T1, h1, X1, e1, E1, A1, D1, -, st1⟩ := newO X0 hx hZ hown (wd_30 hw) (wd_31 hw) (wd_32 hw) e0 (g := (mkF m 0 #[iv y1, rv x2, iv y3, iv y4, iv y5] [])) rfl (hb hby d6_0) (by decide) (by decide)
  obtain ⟨b1, g1⟩ : ∃ z, z = h0.size := ⟨_, rfl⟩
  rw [← g1] at A1 D1 st1
  refine Rch.go st1 ?_
  have z2 : n0 ≤ h1.size := (Nat.le_trans Z0 E1.1)
  have o3 := O0.ext E1
  have g_b1 : n0 ≤ b1 := Nat.le_trans Z0 (Nat.le_of_eq g1.symm)
  have F1_code : Fld Z h1 b1 s1' "code" "I" (.int (0 : Int32)) := (D1 (Or.inr (wd_54 hw)) (ty := .int) (by decide))
  have F1_language : Fld Z h1 b1 s1' "language" "Ljava/lang/String;" .null := (D1 (Or.inr (wd_64 hw)) (ty := (.object "java/lang/String")) (by decide))
  have F1_version : Fld Z h1 b1 s1' "version" "I" (.int (0 : Int32)) := (D1 (Or.inr (wd_66 hw)) (ty := .int) (by decide))
  have F1_opaque : Fld Z h1 b1 s1' "opaque" "I" (.int (0 : Int32)) := (D1 (Or.inr (wd_68 hw)) (ty := .int) (by decide))
  have F1_flag : Fld Z h1 b1 s1' "flag" "I" (.int (0 : Int32)) := (D1 (Or.inr (wd_70 hw)) (ty := .int) (by decide))
  have F1_remark : Fld Z h1 b1 s1' "remark" "Ljava/lang/String;" .null := (D1 (Or.inr (wd_72 hw)) (ty := (.object "java/lang/String")) (by decide))
  have F1_fields : Fld Z h1 b1 s1' "fields" "Ljava/util/Map;" .null := (D1 (Or.inr (wd_196 hw)) (ty := (.object "java/util/Map")) (by decide))
  have F1_body : Fld Z h1 b1 s1' "body" "[B" .null := (D1 (Or.inr (wd_201 hw)) (ty := (.array .byte)) (by decide))
  show Rch p e below _ (T1.setTop (mkF m 3 #[iv y1, rv x2, iv y3, iv y4, iv y5] [(.ref b1)]))
  refine Rch.go (fun t k => XS.dup X1.here hx rfl (hb hby d6_3) rfl rfl k) ?_
  show Rch p e below _ (T1.setTop (mkF m 4 #[iv y1, rv x2, iv y3, iv y4, iv y5] [(.ref b1), (.ref b1)]))
  refine Rch.go (fun t k => XS.iloadN X1.here hx rfl (hb hby d6_4) rfl  k) ?_
  show Rch p e below _ (T1.setTop (mkF m 5 #[iv y1, rv x2, iv y3, iv y4, iv y5] [(.int y1), (.ref b1), (.ref b1)]))
  refine Rch.go (fun t k => XS.aloadN X1.here hx rfl (hb hby d6_5) rfl rfl k) ?_
  show Rch p e below _ (T1.setTop (mkF m 6 #[iv y1, rv x2, iv y3, iv y4, iv y5] [(.ref x2), (.int y1), (.ref b1), (.ref b1)]))
  refine Rch.go (fun t k => XS.iloadN X1.here hx rfl (hb hby d6_6) rfl  k) ?_
  show Rch p e below _ (T1.setTop (mkF m 7 #[iv y1, rv x2, iv y3, iv y4, iv y5] [(.int y3), (.ref x2), (.int y1), (.ref b1), (.ref b1)]))
  refine Rch.go (fun t k => XS.iloadN X1.here hx rfl (hb hby d6_7) rfl  k) ?_
  show Rch p e below _ (T1.setTop (mkF m 8 #[iv y1, rv x2, iv y3, iv y4, iv y5] [(.int y4), (.int y3), (.ref x2), (.int y1), (.ref b1), (.ref b1)]))
  refine Rch.go (fun t k => XS.iload X1.here hx rfl (hb hby d6_8) rfl  k) ?_
  show Rch p e below _ (T1.setTop (mkF m 10 #[iv y1, rv x2, iv y3, iv y4, iv y5] [(.int y5), (.int y4), (.int y3), (.ref x2), (.int y1), (.ref b1), (.ref b1)]))
  refine Rch.go (fun t k => XS.aconstNull X1.here hx rfl (hb hby d6_10) k) ?_
  show Rch p e below _ (T1.setTop (mkF m 11 #[iv y1, rv x2, iv y3, iv y4, iv y5] [.null, (.int y5), (.int y4), (.int y3), (.ref x2), (.int y1), (.ref b1), (.ref b1)]))
  obtain ⟨T4, h4, X4, e4, E4, A4, D4, -, st4⟩ := newO X1 hx hZ hown (wd_33 hw) (wd_34 hw) (wd_35 hw) e1 (g := (mkF m 11 #[iv y1, rv x2, iv y3, iv y4, iv y5] [.null, (.int y5), (.int y4), (.int y3), (.ref x2), (.int y1), (.ref b1), (.ref b1)])) rfl (hb hby d6_11) (by decide) (by decide)
  obtain ⟨b4, g4⟩ : ∃ z, z = h1.size := ⟨_, rfl⟩
  rw [← g4] at A4 D4 st4
  refine Rch.go st4 ?_
  have z5 : n0 ≤ h4.size := (Nat.le_trans z2 E4.1)
  have o6 := o3.ext E4
  have g_b4 : n0 ≤ b4 := Nat.le_trans z2 (Nat.le_of_eq g4.symm)
  have F4_loadFactor : Fld Z h4 b4 "java/util/HashMap" "loadFactor" "F" (.float (0 : UInt32)) := (D4 (Or.inr (wd_48 hw)) (ty := .float) (by decide))
  have F4_entrySet : Fld Z h4 b4 "java/util/HashMap" "entrySet" "Ljava/util/Set;" .null := (D4 (Or.inl (wd_102 hw)) (ty := (.object "java/util/Set")) (by decide))
  have F4_modCount : Fld Z h4 b4 "java/util/HashMap" "modCount" "I" (.int (0 : Int32)) := (D4 (Or.inl (wd_151 hw)) (ty := .int) (by decide))
  have F4_table : Fld Z h4 b4 "java/util/HashMap" "table" "[Ljava/util/HashMap$Node;" .null := (D4 (Or.inl (wd_155 hw)) (ty := (.array (.object s5'))) (by decide))
  show Rch p e below _ (T4.setTop (mkF m 14 #[iv y1, rv x2, iv y3, iv y4, iv y5] [(.ref b4), .null, (.int y5), (.int y4), (.int y3), (.ref x2), (.int y1), (.ref b1), (.ref b1)]))
  refine Rch.go (fun t k => XS.dup X4.here hx rfl (hb hby d6_14) rfl rfl k) ?_
  show Rch p e below _ (T4.setTop (mkF m 15 #[iv y1, rv x2, iv y3, iv y4, iv y5] [(.ref b4), (.ref b4), .null, (.int y5), (.int y4), (.int y3), (.ref x2), (.int y1), (.ref b1), (.ref b1)]))
  obtain ⟨v7, T7, L7, X7, Q7, st7⟩ := callSp X4 hx hZ (m7_init l Z a0 hw b4 h4 n0 z5 o6 A4 F4_loadFactor g_b4 F4_entrySet F4_modCount F4_table) e4 hown rfl (wd_36 hw) (wd_37 hw) (wd_38 hw) (wd_35 hw) (by decide) (hb hby d6_15) 9 (by decide) (by decide) (by decide) (by decide) (by rw [hml]; rfl) b4 [] [(.ref b4), .null, (.int y5), (.int y4), (.int y3), (.ref x2), (.int y1), (.ref b1), (.ref b1)] rfl (lenOf pd_5 rfl) rfl (Nat.le_of_eq rfl) (Ls := #[iv y1, rv x2, iv y3, iv y4, iv y5])
  obtain ⟨rfl, M7, K7, F7_0, F7_1, F7_2, F7_3⟩ := Q7
  have N7 := Fr.app N0 M7
  refine Rch.go st7 ?_
  have z8 : n0 ≤ T7.heap.size := (Nat.le_trans z5 K7.1)
  have o9 := o6.keep K7 (allS g_b4 all0)
  show Rch p e below _ (T7.setTop (mkF m 18 #[iv y1, rv x2, iv y3, iv y4, iv y5] [(.ref b4), .null, (.int y5), (.int y4), (.int y3), (.ref x2), (.int y1), (.ref b1), (.ref b1)]))
  refine Rch.go (fun t k => XS.iconst X7.here hx rfl (hb hby d6_18) k) ?_
  show Rch p e below _ (T7.setTop (mkF m 19 #[iv y1, rv x2, iv y3, iv y4, iv y5] [(.int (0 : Int32)), (.ref b4), .null, (.int y5), (.int y4), (.int y3), (.ref x2), (.int y1), (.ref b1), (.ref b1)]))
  obtain ⟨T10, h10, k10, X10, e10, E10, A10, B10, st10⟩ := newPE (aty := .byte) X7 hx hZ (wd_14 hw) rfl (g := (mkF m 19 #[iv y1, rv x2, iv y3, iv y4, iv y5] [(.int (0 : Int32)), (.ref b4), .null, (.int y5), (.int y4), (.int y3), (.ref x2), (.int y1), (.ref b1), (.ref b1)])) rfl (hb hby d6_19) rfl (by decide) (cap := 0) (by decide) (by decide) (by decide) (by decide) (ad := "[B") (by decide +kernel)
  obtain ⟨b10, g10⟩ : ∃ z, z = T7.heap.size := ⟨_, rfl⟩
  rw [← g10] at A10 B10 st10
  refine Rch.go st10 ?_
  have z11 : n0 ≤ h10.size := (Nat.le_trans z8 E10.1)
  have o12 := o9.ext E10
  have g_b10 : n0 ≤ b10 := Nat.le_trans z8 (Nat.le_of_eq g10.symm)
  have V10 : Arv Z h10 b10 k10 .byte (0 : Int32) [] (.int (0 : Int32)) := (Arv.new A10 (by decide)).pad (pad_rep [] (.int (0 : Int32)) 0)
  show Rch p e below _ (T10.setTop (mkF m 21 #[iv y1, rv x2, iv y3, iv y4, iv y5] [(.ref b10), (.ref b4), .null, (.int y5), (.int y4), (.int y3), (.ref x2), (.int y1), (.ref b1), (.ref b1)]))
  have f13 := (((A1.ext E4).keep K7).ext E10)
  have lt14 := A1.lt
  have ne15 : b1 ≠ b4 := Nat.ne_of_lt (Nat.lt_of_lt_of_le lt14 (Nat.le_of_eq g4.symm))
  have f16 := (((F1_code.ext E4).keep K7 (ninS ne15 nin0)).ext E10)
  have f17 := ((((P1.ext E1).ext E4).keep K7).ext E10)
  have f18 := (((F1_language.ext E4).keep K7 (ninS ne15 nin0)).ext E10)
  have f19 := (((F1_version.ext E4).keep K7 (ninS ne15 nin0)).ext E10)
  have f20 := (((F1_opaque.ext E4).keep K7 (ninS ne15 nin0)).ext E10)
  have f21 := (((F1_flag.ext E4).keep K7 (ninS ne15 nin0)).ext E10)
  have f22 := (((F1_remark.ext E4).keep K7 (ninS ne15 nin0)).ext E10)
  have f23 := ((A4.keep K7).ext E10)
  have f24 := (F7_1.ext E10)
  have f25 := (F7_0.ext E10)
  have f26 := (F7_2.ext E10)
  have f27 := (F7_3.ext E10)
  have f28 := (((F1_fields.ext E4).keep K7 (ninS ne15 nin0)).ext E10)
  have f29 := (((F1_body.ext E4).keep K7 (ninS ne15 nin0)).ext E10)
  obtain ⟨v30, T30, L30, X30, Q30, Y30, hZ30, hown30, st30⟩ := callSpW X10 hx hZ Y0 (Nat.le_trans (Nat.le_trans (Nat.le_trans (Nat.le_trans (Nat.le_refl _) E1.1) E4.1) K7.1) E10.1) (m9_init l Z a0 hw b1 y1 x2 y3 y4 y5 b4 b10 x6 x7 h10 n0 z11 o12 f13 f16 g_b1 f17 f18 f19 f20 f21 f22 f23 f24 (Ne.symm ne15) g_b4 f25 f26 f27 P2 P3 f28 B10 f29) e10 hown rfl (wd_49 hw) (wd_50 hw) (wd_51 hw) (wd_32 hw) (by decide) (hb hby d6_21) 1 (by decide) (by decide) (by decide) (by decide) (by rw [hml]; rfl) b1 [(.int y1), (.ref x2), (.int y3), (.int y4), (.int y5), .null, (.ref b4), (.ref b10)] [(.ref b1)] rfl (lenOf pd_12 rfl) rfl (Nat.le_of_eq rfl) (Ls := #[iv y1, rv x2, iv y3, iv y4, iv y5])
  obtain ⟨b30_0, rfl, M30, K30, zz30_0, F30_0, F30_1, F30_2, F30_3, F30_4, F30_5, F30_6, F30_7, F30_8, F30_9, F30_10, F30_11, F30_12⟩ := Q30
  have N30 := Fr.app N7 M30
  refine Rch.go st30 ?_
  have z31 : n0 ≤ T30.heap.size := (Nat.le_trans z11 K30.1)
  have o32 := o12.keep K30 (allS g_b1 (allS g_b4 all0))
  have g_b30_0 : n0 ≤ b30_0 := Nat.le_trans z11 zz30_0
  show Rch p e below _ (T30.setTop (mkF m 24 #[iv y1, rv x2, iv y3, iv y4, iv y5] [(.ref b1)]))
  have f33 := (f13.keep K30)
  have f34 := (B10.keep K30)
  have lt35 := (Nat.lt_of_lt_of_le A4.lt K7.1)
  have ne36 : b4 ≠ b10 := Nat.ne_of_lt (Nat.lt_of_lt_of_le lt35 (Nat.le_of_eq g10.symm))
  have lt37 := (Nat.lt_of_lt_of_le (Nat.lt_of_lt_of_le lt14 E4.1) K7.1)
  have ne38 : b1 ≠ b10 := Nat.ne_of_lt (Nat.lt_of_lt_of_le lt37 (Nat.le_of_eq g10.symm))
  have f39 := (V10.keep K30 (ninS (Ne.symm ne38) (ninS (Ne.symm ne36) nin0)))
  refine Rch.valW X30 hx Y30 rfl (Nat.le_refl _) (t := (.object s1')) hret hlk rfl (Or.inr (Or.inr (Or.inr (Or.inr ⟨rfl, rfl, rfl⟩)))) (hb hby d6_24) (by decide) (by decide) ?_
  exact ⟨b1, b10, k10, rfl, N30, ((((((Keep.refl _ _).ext E1).ext E4).trans K7 (allS (Or.inr (Nat.le_trans (Nat.le_trans (Nat.le_refl _) E1.1) (Nat.le_of_eq g4.symm))) all0)).ext E10).trans K30 (allS (Or.inr (Nat.le_trans (Nat.le_refl _) (Nat.le_of_eq g1.symm))) (allS (Or.inr (Nat.le_trans (Nat.le_trans (Nat.le_refl _) E1.1) (Nat.le_of_eq g4.symm))) all0))), (Nat.le_trans (Nat.le_refl _) (Nat.le_of_eq g1.symm)), (Nat.le_trans (Nat.le_trans (Nat.le_trans (Nat.le_trans (Nat.le_refl _) E1.1) E4.1) K7.1) (Nat.le_of_eq g10.symm)), f33, f34, f39, F30_0, F30_1, F30_2, F30_3, F30_4, F30_5, F30_12⟩
theorem wd_29 {Z : State} {a0 : Array Value} (hw : ∀ d ∈ tables_1, d.before a0 Z = true) : (Jvm.Cond.code ({ cls := s8', name := "make", desc := "(ILjava/lang/String;III)Lcom/example/fuchun/fuchun/remoting/RemotingCommand;" } : Jvm.MethodName) method_2_code (5 : Nat) (Option.some (Jvm.ClassFile.FieldType.object s1'))).before a0 Z = true := hw _ (List.mem_of_getElem? (i := 29) rfl)
theorem wd_28 {Z : State} {a0 : Array Value} (hw : ∀ d ∈ tables_1, d.before a0 Z = true) : (Jvm.Cond.initialized s8').before a0 Z = true := hw _ (List.mem_of_getElem? (i := 28) rfl)
theorem pd_13 : parseMethodDescriptor "(ILjava/lang/String;III)Lcom/example/fuchun/fuchun/remoting/RemotingCommand;" = some ⟨[.int, (.object "java/lang/String"), .int, .int, .int], some (.object s1')⟩ := by decide +kernel
theorem wd_27 {Z : State} {a0 : Array Value} (hw : ∀ d ∈ tables_1, d.before a0 Z = true) : (Jvm.Cond.static ({ cls := s8', name := "make", desc := "(ILjava/lang/String;III)Lcom/example/fuchun/fuchun/remoting/RemotingCommand;" } : Jvm.MethodName)).before a0 Z = true := hw _ (List.mem_of_getElem? (i := 27) rfl)
theorem wd_202 {Z : State} {a0 : Array Value} (hw : ∀ d ∈ tables_1, d.before a0 Z = true) : (Jvm.Cond.methodLink s8' (27 : Nat) ({ cls := s1', name := "isOneway", desc := "()Z" } : Jvm.MethodName)).before a0 Z = true := hw _ (List.mem_of_getElem? (i := 202) rfl)
theorem d21_0 : decode prog_20_method_13_code 0 = .ok (.aload_n 0, 1) := by decide +kernel
theorem d21_1 : decode prog_20_method_13_code 1 = .ok (.getfield 32, 3) := by decide +kernel
theorem d21_4 : decode prog_20_method_13_code 4 = .ok (.iconst 2, 1) := by decide +kernel
theorem d21_5 : decode prog_20_method_13_code 5 = .ok (.iand, 1) := by decide +kernel
theorem d21_6 : decode prog_20_method_13_code 6 = .ok (.ifCond .eq 7, 3) := by decide +kernel
theorem d21_13 : decode prog_20_method_13_code 13 = .ok (.iconst 0, 1) := by decide +kernel
theorem d21_14 : decode prog_20_method_13_code 14 = .ok (.ireturn, 1) := by decide +kernel
set_option maxRecDepth 65536 in
set_option maxHeartbeats 4000000 in
theorem ef_m22_isOneway (m : MethodId) (x1 : Addr) (y2 : Int32) : entryFrame m #[(.ref x1)] 1 = mkF m 0 #[rv x1] [] := by first | rfl | (simp [entryFrame, mkF, argsToLocals, Value.category]; done)
set_option maxRecDepth 65536 in
set_option maxHeartbeats 40000000 in
theorem m22_isOneway (l : Launch) (Z : State) (a0 : Array Value) (hw : ∀ d ∈ tables_1, d.before a0 Z = true) (x1 : Addr) (y2 : Int32) (h0 : Heap) (n0 : Nat) (Z0 : n0 ≤ h0.size) (O0 : Old Z n0 h0) (P1 : Fld Z h0 x1 s1' "flag" "I" (.int y2)) (P2 : (y2 &&& (2 : Int32)) = (0 : Int32)) :
    Ctr l Z [] (⟨s1', "isOneway", "()Z"⟩ : MethodName) prog_20_method_13_code 1 (some .boolean) #[(.ref x1)] h0 ({ frames := 0, cells := 0, slots := 0, locals := 0 } : Room) (fun v h L => v = some (.int (0 : Int32)) ∧ Fr n0 L ∧ h = h0) := by
  refine Ctr.of (plainFor_of_name pn_com_example_fuchun_fuchun_remoting_RemotingCommand) (fun m => ef_m22_isOneway m x1 y2) ?_
  intro p e s m below meth c T0 hx hZ hby hml hown hnm hret hlk X0 e0
  have N0 := Fr.nil n0
  show Rch p e below _ (T0.setTop (mkF m 0 #[rv x1] []))
  refine Rch.go (fun t k => XS.aloadN X0.here hx rfl (hb hby d21_0) rfl rfl k) ?_
  show Rch p e below _ (T0.setTop (mkF m 1 #[rv x1] [(.ref x1)]))
  obtain ⟨T1, X1, e1, st1⟩ := getF X0 hx hZ hown (host := "") (Or.inl (wd_69 hw)) Via.refl e0 P1 (g := (mkF m 1 #[rv x1] [(.ref x1)])) rfl rfl (hb hby d21_1)
  refine Rch.go st1 ?_
  show Rch p e below _ (T1.setTop (mkF m 4 #[rv x1] [(.int y2)]))
  refine Rch.go (fun t k => XS.iconst X1.here hx rfl (hb hby d21_4) k) ?_
  show Rch p e below _ (T1.setTop (mkF m 5 #[rv x1] [(.int (2 : Int32)), (.int y2)]))
  refine Rch.go (fun t k => XS.iand X1.here hx rfl (hb hby d21_5) rfl k) ?_
  show Rch p e below _ (T1.setTop (mkF m 6 #[rv x1] [(.int (y2 &&& (2 : Int32)))]))
  refine Rch.go (fun t k => XS.ifYes X1.here hx rfl (pc0 := 6) (pc' := 13) rfl (hb hby d21_6) rfl (XT.i0_eq_t P2) (by decide) (by decide) k) ?_
  show Rch p e below _ (T1.setTop (mkF m 13 #[rv x1] []))
  refine Rch.go (fun t k => XS.iconst X1.here hx rfl (hb hby d21_13) k) ?_
  show Rch p e below _ (T1.setTop (mkF m 14 #[rv x1] [(.int (0 : Int32))]))
  refine Rch.val X1 hx (t := .boolean) hret hlk rfl (mayI (by simp)) (hb hby d21_14) (by decide) (by decide) ?_
  try rw [e1]
  exact ⟨rfl, N0, rfl⟩
theorem wd_206 {Z : State} {a0 : Array Value} (hw : ∀ d ∈ tables_1, d.before a0 Z = true) : (Jvm.Cond.code ({ cls := s1', name := "isOneway", desc := "()Z" } : Jvm.MethodName) prog_20_method_13_code (1 : Nat) (Option.some Jvm.ClassFile.FieldType.boolean)).before a0 Z = true := hw _ (List.mem_of_getElem? (i := 206) rfl)
theorem wd_205 {Z : State} {a0 : Array Value} (hw : ∀ d ∈ tables_1, d.before a0 Z = true) : (Jvm.Cond.selects s1' ({ cls := s1', name := "isOneway", desc := "()Z" } : Jvm.MethodName) ({ cls := s1', name := "isOneway", desc := "()Z" } : Jvm.MethodName)).before a0 Z = true := hw _ (List.mem_of_getElem? (i := 205) rfl)
theorem wd_203 {Z : State} {a0 : Array Value} (hw : ∀ d ∈ tables_1, d.before a0 Z = true) : (Jvm.Cond.declares ({ cls := s1', name := "isOneway", desc := "()Z" } : Jvm.MethodName)).before a0 Z = true := hw _ (List.mem_of_getElem? (i := 203) rfl)
theorem wd_204 {Z : State} {a0 : Array Value} (hw : ∀ d ∈ tables_1, d.before a0 Z = true) : (Jvm.Cond.instanceMethod ({ cls := s1', name := "isOneway", desc := "()Z" } : Jvm.MethodName)).before a0 Z = true := hw _ (List.mem_of_getElem? (i := 204) rfl)
theorem d21_9 : decode prog_20_method_13_code 9 = .ok (.iconst 1, 1) := by decide +kernel
theorem d21_10 : decode prog_20_method_13_code 10 = .ok (.goto 4, 3) := by decide +kernel
set_option maxRecDepth 65536 in
set_option maxHeartbeats 4000000 in
theorem ef_m23_isOneway (m : MethodId) (x1 : Addr) (y2 : Int32) : entryFrame m #[(.ref x1)] 1 = mkF m 0 #[rv x1] [] := by first | rfl | (simp [entryFrame, mkF, argsToLocals, Value.category]; done)
set_option maxRecDepth 65536 in
set_option maxHeartbeats 40000000 in
theorem m23_isOneway (l : Launch) (Z : State) (a0 : Array Value) (hw : ∀ d ∈ tables_1, d.before a0 Z = true) (x1 : Addr) (y2 : Int32) (h0 : Heap) (n0 : Nat) (Z0 : n0 ≤ h0.size) (O0 : Old Z n0 h0) (P1 : Fld Z h0 x1 s1' "flag" "I" (.int y2)) (P2 : ¬ ((y2 &&& (2 : Int32)) = (0 : Int32))) :
    Ctr l Z [] (⟨s1', "isOneway", "()Z"⟩ : MethodName) prog_20_method_13_code 1 (some .boolean) #[(.ref x1)] h0 ({ frames := 0, cells := 0, slots := 0, locals := 0 } : Room) (fun v h L => v = some (.int (1 : Int32)) ∧ Fr n0 L ∧ h = h0) := by
  refine Ctr.of (plainFor_of_name pn_com_example_fuchun_fuchun_remoting_RemotingCommand) (fun m => ef_m23_isOneway m x1 y2) ?_
  intro p e s m below meth c T0 hx hZ hby hml hown hnm hret hlk X0 e0
  have N0 := Fr.nil n0
  show Rch p e below _ (T0.setTop (mkF m 0 #[rv x1] []))
  refine Rch.go (fun t k => XS.aloadN X0.here hx rfl (hb hby d21_0) rfl rfl k) ?_
  show Rch p e below _ (T0.setTop (mkF m 1 #[rv x1] [(.ref x1)]))
  obtain ⟨T1, X1, e1, st1⟩ := getF X0 hx hZ hown (host := "") (Or.inl (wd_69 hw)) Via.refl e0 P1 (g := (mkF m 1 #[rv x1] [(.ref x1)])) rfl rfl (hb hby d21_1)
  refine Rch.go st1 ?_
  show Rch p e below _ (T1.setTop (mkF m 4 #[rv x1] [(.int y2)]))
  refine Rch.go (fun t k => XS.iconst X1.here hx rfl (hb hby d21_4) k) ?_
  show Rch p e below _ (T1.setTop (mkF m 5 #[rv x1] [(.int (2 : Int32)), (.int y2)]))
  refine Rch.go (fun t k => XS.iand X1.here hx rfl (hb hby d21_5) rfl k) ?_
  show Rch p e below _ (T1.setTop (mkF m 6 #[rv x1] [(.int (y2 &&& (2 : Int32)))]))
  refine Rch.go (fun t k => XS.ifNo X1.here hx rfl (hb hby d21_6) rfl (XT.i0_eq_f P2) k) ?_
  show Rch p e below _ (T1.setTop (mkF m 9 #[rv x1] []))
  refine Rch.go (fun t k => XS.iconst X1.here hx rfl (hb hby d21_9) k) ?_
  show Rch p e below _ (T1.setTop (mkF m 10 #[rv x1] [(.int (1 : Int32))]))
  refine Rch.go (fun t k => XS.goto X1.here hx rfl (pc0 := 10) (pc' := 14) rfl (hb hby d21_10) (by decide) (by decide) k) ?_
  show Rch p e below _ (T1.setTop (mkF m 14 #[rv x1] [(.int (1 : Int32))]))
  refine Rch.val X1 hx (t := .boolean) hret hlk rfl (mayI (by simp)) (hb hby d21_14) (by decide) (by decide) ?_
  try rw [e1]
  exact ⟨rfl, N0, rfl⟩
set_option maxRecDepth 65536 in
set_option maxHeartbeats 4000000 in
theorem ef_law_1 (m : MethodId) (p0 p1 p2 p3 p4 : Int32) (ww0 : Int32) (ww1 : Value) (mr2 : Addr) (mr3 : Addr) : entryFrame m #[(.int p0), (.int p1), (.int p2), (.int p3), (.int p4)] maxLocals = mkF m 0 #[iv p0, iv p1, iv p2, iv p3, iv p4, .unset, .unset, .unset, .unset, .unset] [] := by first | rfl | (simp [entryFrame, mkF, argsToLocals, Value.category, maxLocals]; done)
set_option maxRecDepth 65536 in
set_option maxHeartbeats 40000000 in
theorem law_1 (l : Launch) (Z : State) (a0 : Array Value) (hw : ∀ d ∈ tables_1, d.before a0 Z = true) (p0 p1 p2 p3 p4 : Int32) (ww0 : Int32) (ww1 : Value) (mr2 : Addr) (mr3 : Addr) (h0 : Heap) (n0 : Nat) (Z0 : n0 ≤ h0.size) (O0 : Old Z n0 h0) (G : Olds Z ww0 ww1 mr2 mr3) :
    CtrW l Z tables_1 x code maxLocals ret #[(.int p0), (.int p1), (.int p2), (.int p3), (.int p4)] h0 room_1 (fun v h L => v = some (.int (1 : Int32)) ∧ Fr n0 L) := by
  refine CtrW.of (plainFor_of_name pn_com_example_fuchun_fuchun_remoting_RemotingCommandIsOnewayPinLaw) (fun m => ef_law_1 m p0 p1 p2 p3 p4 ww0 ww1 mr2 mr3) ?_
  intro p e s vm0 m below meth c T0 hx hZ hby hml hown hnm hret hlk Y0 X0 e0
  have N0 := Fr.nil n0
  have hret : meth.sig.returnType = some .boolean := hret
  show Rch p e below _ (T0.setTop (mkF m 0 #[iv p0, iv p1, iv p2, iv p3, iv p4, .unset, .unset, .unset, .unset, .unset] []))
  refine Rch.go (fun t k => XS.iload X0.here hx rfl (hb hby at_0) rfl  k) ?_
  show Rch p e below _ (T0.setTop (mkF m 2 #[iv p0, iv p1, iv p2, iv p3, iv p4, .unset, .unset, .unset, .unset, .unset] [(.int p4)]))
  refine Rch.go (fun t k => XS.sipush X0.here hx rfl (hb hby at_2) k) ?_
  show Rch p e below _ (T0.setTop (mkF m 5 #[iv p0, iv p1, iv p2, iv p3, iv p4, .unset, .unset, .unset, .unset, .unset] [(.int (255 : Int32)), (.int p4)]))
  refine Rch.go (fun t k => XS.iand X0.here hx rfl (hb hby at_5) rfl k) ?_
  show Rch p e below _ (T0.setTop (mkF m 6 #[iv p0, iv p1, iv p2, iv p3, iv p4, .unset, .unset, .unset, .unset, .unset] [(.int (p4 &&& (255 : Int32)))]))
  refine Rch.go (fun t k => XS.i2c X0.here hx rfl (hb hby at_6) rfl k) ?_
  show Rch p e below _ (T0.setTop (mkF m 7 #[iv p0, iv p1, iv p2, iv p3, iv p4, .unset, .unset, .unset, .unset, .unset] [(.int ((p4 &&& (255 : Int32)).toUInt32.toUInt16.toUInt32.toInt32))]))
  obtain ⟨ch1, he1, hn1, hl1, hg1⟩ := own_chr p4
  rw [he1]
  show Rch p e below _ (T0.setTop (mkF m 7 #[iv p0, iv p1, iv p2, iv p3, iv p4, .unset, .unset, .unset, .unset, .unset] [(.int ch1)]))
  obtain ⟨v2, T2, L2, X2, Q2, st2⟩ := callSt X0 hx hZ (m2_valueOf l Z a0 hw ch1 ww0 h0 n0 Z0 O0 G.1 G.2.2.2.2.1 hl1) e0 hown (wd_0 hw) (wd_1 hw) (wd_3 hw) (wd_2 hw) (by decide) (hb hby at_7) 0 (by decide) (by decide) (by decide) (by decide) (by rw [hml]; rfl) [(.int ch1)] [] rfl (lenOf pd_4 rfl) rfl (Nat.le_of_eq rfl) (Ls := #[iv p0, iv p1, iv p2, iv p3, iv p4, .unset, .unset, .unset, .unset, .unset])
  obtain ⟨b2_0, b2_1, k2_0, rfl, M2, K2, zz2_0, zz2_1, F2_0, F2_1, F2_2, F2_3, F2_4⟩ := Q2
  have N2 := Fr.app N0 M2
  refine Rch.go st2 ?_
  have z3 : n0 ≤ T2.heap.size := (Nat.le_trans Z0 K2.1)
  have o4 := O0.keep K2 all0
  have g_b2_0 : n0 ≤ b2_0 := Nat.le_trans Z0 zz2_0
  have g_b2_1 : n0 ≤ b2_1 := Nat.le_trans Z0 zz2_1
  show Rch p e below _ (T2.setTop (mkF m 10 #[iv p0, iv p1, iv p2, iv p3, iv p4, .unset, .unset, .unset, .unset, .unset] [(.ref b2_0)]))
  refine Rch.go (fun t k => XS.astore X2.here hx rfl (hb hby at_10) rfl rfl (l' := #[iv p0, iv p1, iv p2, iv p3, iv p4, rv b2_0, .unset, .unset, .unset, .unset]) rfl k) ?_
  show Rch p e below _ (T2.setTop (mkF m 12 #[iv p0, iv p1, iv p2, iv p3, iv p4, rv b2_0, .unset, .unset, .unset, .unset] []))
  refine Rch.go (fun t k => XS.iloadN X2.here hx rfl (hb hby at_12) rfl  k) ?_
  show Rch p e below _ (T2.setTop (mkF m 13 #[iv p0, iv p1, iv p2, iv p3, iv p4, rv b2_0, .unset, .unset, .unset, .unset] [(.int p0)]))
  refine Rch.go (fun t k => XS.aload X2.here hx rfl (hb hby at_13) rfl rfl k) ?_
  show Rch p e below _ (T2.setTop (mkF m 15 #[iv p0, iv p1, iv p2, iv p3, iv p4, rv b2_0, .unset, .unset, .unset, .unset] [(.ref b2_0), (.int p0)]))
  refine Rch.go (fun t k => XS.iloadN X2.here hx rfl (hb hby at_15) rfl  k) ?_
  show Rch p e below _ (T2.setTop (mkF m 16 #[iv p0, iv p1, iv p2, iv p3, iv p4, rv b2_0, .unset, .unset, .unset, .unset] [(.int p1), (.ref b2_0), (.int p0)]))
  refine Rch.go (fun t k => XS.iloadN X2.here hx rfl (hb hby at_16) rfl  k) ?_
  show Rch p e below _ (T2.setTop (mkF m 17 #[iv p0, iv p1, iv p2, iv p3, iv p4, rv b2_0, .unset, .unset, .unset, .unset] [(.int p2), (.int p1), (.ref b2_0), (.int p0)]))
  refine Rch.go (fun t k => XS.iloadN X2.here hx rfl (hb hby at_17) rfl  k) ?_
  show Rch p e below _ (T2.setTop (mkF m 18 #[iv p0, iv p1, iv p2, iv p3, iv p4, rv b2_0, .unset, .unset, .unset, .unset] [(.int p3), (.int p2), (.int p1), (.ref b2_0), (.int p0)]))
  obtain ⟨v5, T5, L5, X5, Q5, Y5, hZ5, hown5, st5⟩ := callStW X2 hx hZ Y0 (Nat.le_trans (Nat.le_refl _) K2.1) (m6_make l Z a0 hw p0 b2_0 p1 p2 p3 mr2 mr3 T2.heap n0 z3 o4 F2_0 G.2.2.1 G.2.2.2.1) rfl hown (wd_26 hw) (wd_27 hw) (wd_29 hw) (wd_28 hw) (by decide) (hb hby at_18) 0 (by decide) (by decide) (by decide) (by decide) (by rw [hml]; rfl) [(.int p0), (.ref b2_0), (.int p1), (.int p2), (.int p3)] [] rfl (lenOf pd_13 rfl) rfl (Nat.le_of_eq rfl) (Ls := #[iv p0, iv p1, iv p2, iv p3, iv p4, rv b2_0, .unset, .unset, .unset, .unset])
  obtain ⟨b5_0, b5_1, k5_0, rfl, M5, K5, zz5_0, zz5_1, F5_0, F5_1, F5_2, F5_3, F5_4, F5_5, F5_6, F5_7, F5_8, F5_9⟩ := Q5
  have N5 := Fr.app N2 M5
  refine Rch.go st5 ?_
  have z6 : n0 ≤ T5.heap.size := (Nat.le_trans z3 K5.1)
  have o7 := o4.keep K5 all0
  have g_b5_0 : n0 ≤ b5_0 := Nat.le_trans z3 zz5_0
  have g_b5_1 : n0 ≤ b5_1 := Nat.le_trans z3 zz5_1
  show Rch p e below _ (T5.setTop (mkF m 21 #[iv p0, iv p1, iv p2, iv p3, iv p4, rv b2_0, .unset, .unset, .unset, .unset] [(.ref b5_0)]))
  refine Rch.go (fun t k => XS.astore X5.here hx rfl (hb hby at_21) rfl rfl (l' := #[iv p0, iv p1, iv p2, iv p3, iv p4, rv b2_0, rv b5_0, .unset, .unset, .unset]) rfl k) ?_
  show Rch p e below _ (T5.setTop (mkF m 23 #[iv p0, iv p1, iv p2, iv p3, iv p4, rv b2_0, rv b5_0, .unset, .unset, .unset] []))
  refine Rch.go (fun t k => XS.iloadN X5.here hx rfl (hb hby at_23) rfl  k) ?_
  show Rch p e below _ (T5.setTop (mkF m 24 #[iv p0, iv p1, iv p2, iv p3, iv p4, rv b2_0, rv b5_0, .unset, .unset, .unset] [(.int p0)]))
  refine Rch.go (fun t k => XS.aload X5.here hx rfl (hb hby at_24) rfl rfl k) ?_
  show Rch p e below _ (T5.setTop (mkF m 26 #[iv p0, iv p1, iv p2, iv p3, iv p4, rv b2_0, rv b5_0, .unset, .unset, .unset] [(.ref b2_0), (.int p0)]))
  refine Rch.go (fun t k => XS.iloadN X5.here hx rfl (hb hby at_26) rfl  k) ?_
  show Rch p e below _ (T5.setTop (mkF m 27 #[iv p0, iv p1, iv p2, iv p3, iv p4, rv b2_0, rv b5_0, .unset, .unset, .unset] [(.int p1), (.ref b2_0), (.int p0)]))
  refine Rch.go (fun t k => XS.iloadN X5.here hx rfl (hb hby at_27) rfl  k) ?_
  show Rch p e below _ (T5.setTop (mkF m 28 #[iv p0, iv p1, iv p2, iv p3, iv p4, rv b2_0, rv b5_0, .unset, .unset, .unset] [(.int p2), (.int p1), (.ref b2_0), (.int p0)]))
  refine Rch.go (fun t k => XS.iloadN X5.here hx rfl (hb hby at_28) rfl  k) ?_
  show Rch p e below _ (T5.setTop (mkF m 29 #[iv p0, iv p1, iv p2, iv p3, iv p4, rv b2_0, rv b5_0, .unset, .unset, .unset] [(.int p3), (.int p2), (.int p1), (.ref b2_0), (.int p0)]))
  refine Rch.go (fun t k => XS.iconst X5.here hx rfl (hb hby at_29) k) ?_
  show Rch p e below _ (T5.setTop (mkF m 30 #[iv p0, iv p1, iv p2, iv p3, iv p4, rv b2_0, rv b5_0, .unset, .unset, .unset] [(.int (2 : Int32)), (.int p3), (.int p2), (.int p1), (.ref b2_0), (.int p0)]))
  refine Rch.go (fun t k => XS.ior X5.here hx rfl (hb hby at_30) rfl k) ?_
  show Rch p e below _ (T5.setTop (mkF m 31 #[iv p0, iv p1, iv p2, iv p3, iv p4, rv b2_0, rv b5_0, .unset, .unset, .unset] [(.int (p3 ||| (2 : Int32))), (.int p2), (.int p1), (.ref b2_0), (.int p0)]))
  have f8 := (F2_0.keep K5)
  obtain ⟨v9, T9, L9, X9, Q9, Y9, hZ9, hown9, st9⟩ := callStW X5 hx hZ5 Y5 (Nat.le_refl _) (m6_make l Z a0 hw p0 b2_0 p1 p2 (p3 ||| (2 : Int32)) mr2 mr3 T5.heap n0 z6 o7 f8 G.2.2.1 G.2.2.2.1) rfl hown5 (wd_26 hw) (wd_27 hw) (wd_29 hw) (wd_28 hw) (by decide) (hb hby at_31) 0 (by decide) (by decide) (by decide) (by decide) (by rw [hml]; rfl) [(.int p0), (.ref b2_0), (.int p1), (.int p2), (.int (p3 ||| (2 : Int32)))] [] rfl (lenOf pd_13 rfl) rfl (Nat.le_of_eq rfl) (Ls := #[iv p0, iv p1, iv p2, iv p3, iv p4, rv b2_0, rv b5_0, .unset, .unset, .unset])
  obtain ⟨b9_0, b9_1, k9_0, rfl, M9, K9, zz9_0, zz9_1, F9_0, F9_1, F9_2, F9_3, F9_4, F9_5, F9_6, F9_7, F9_8, F9_9⟩ := Q9
  have N9 := Fr.app N5 M9
  refine Rch.go st9 ?_
  have z10 : n0 ≤ T9.heap.size := (Nat.le_trans z6 K9.1)
  have o11 := o7.keep K9 all0
  have g_b9_0 : n0 ≤ b9_0 := Nat.le_trans z6 zz9_0
  have g_b9_1 : n0 ≤ b9_1 := Nat.le_trans z6 zz9_1
  show Rch p e below _ (T9.setTop (mkF m 34 #[iv p0, iv p1, iv p2, iv p3, iv p4, rv b2_0, rv b5_0, .unset, .unset, .unset] [(.ref b9_0)]))
  refine Rch.go (fun t k => XS.astore X9.here hx rfl (hb hby at_34) rfl rfl (l' := #[iv p0, iv p1, iv p2, iv p3, iv p4, rv b2_0, rv b5_0, rv b9_0, .unset, .unset]) rfl k) ?_
  show Rch p e below _ (T9.setTop (mkF m 36 #[iv p0, iv p1, iv p2, iv p3, iv p4, rv b2_0, rv b5_0, rv b9_0, .unset, .unset] []))
  refine Rch.go (fun t k => XS.iloadN X9.here hx rfl (hb hby at_36) rfl  k) ?_
  show Rch p e below _ (T9.setTop (mkF m 37 #[iv p0, iv p1, iv p2, iv p3, iv p4, rv b2_0, rv b5_0, rv b9_0, .unset, .unset] [(.int p0)]))
  refine Rch.go (fun t k => XS.aload X9.here hx rfl (hb hby at_37) rfl rfl k) ?_
  show Rch p e below _ (T9.setTop (mkF m 39 #[iv p0, iv p1, iv p2, iv p3, iv p4, rv b2_0, rv b5_0, rv b9_0, .unset, .unset] [(.ref b2_0), (.int p0)]))
  refine Rch.go (fun t k => XS.iloadN X9.here hx rfl (hb hby at_39) rfl  k) ?_
  show Rch p e below _ (T9.setTop (mkF m 40 #[iv p0, iv p1, iv p2, iv p3, iv p4, rv b2_0, rv b5_0, rv b9_0, .unset, .unset] [(.int p1), (.ref b2_0), (.int p0)]))
  refine Rch.go (fun t k => XS.iloadN X9.here hx rfl (hb hby at_40) rfl  k) ?_
  show Rch p e below _ (T9.setTop (mkF m 41 #[iv p0, iv p1, iv p2, iv p3, iv p4, rv b2_0, rv b5_0, rv b9_0, .unset, .unset] [(.int p2), (.int p1), (.ref b2_0), (.int p0)]))
  refine Rch.go (fun t k => XS.iloadN X9.here hx rfl (hb hby at_41) rfl  k) ?_
  show Rch p e below _ (T9.setTop (mkF m 42 #[iv p0, iv p1, iv p2, iv p3, iv p4, rv b2_0, rv b5_0, rv b9_0, .unset, .unset] [(.int p3), (.int p2), (.int p1), (.ref b2_0), (.int p0)]))
  refine Rch.go (fun t k => XS.bipush X9.here hx rfl (hb hby at_42) k) ?_
  show Rch p e below _ (T9.setTop (mkF m 44 #[iv p0, iv p1, iv p2, iv p3, iv p4, rv b2_0, rv b5_0, rv b9_0, .unset, .unset] [(.int (-3 : Int32)), (.int p3), (.int p2), (.int p1), (.ref b2_0), (.int p0)]))
  refine Rch.go (fun t k => XS.iand X9.here hx rfl (hb hby at_44) rfl k) ?_
  show Rch p e below _ (T9.setTop (mkF m 45 #[iv p0, iv p1, iv p2, iv p3, iv p4, rv b2_0, rv b5_0, rv b9_0, .unset, .unset] [(.int (p3 &&& (-3 : Int32))), (.int p2), (.int p1), (.ref b2_0), (.int p0)]))
  have f12 := (f8.keep K9)
  obtain ⟨v13, T13, L13, X13, Q13, Y13, hZ13, hown13, st13⟩ := callStW X9 hx hZ9 Y9 (Nat.le_refl _) (m6_make l Z a0 hw p0 b2_0 p1 p2 (p3 &&& (-3 : Int32)) mr2 mr3 T9.heap n0 z10 o11 f12 G.2.2.1 G.2.2.2.1) rfl hown9 (wd_26 hw) (wd_27 hw) (wd_29 hw) (wd_28 hw) (by decide) (hb hby at_45) 0 (by decide) (by decide) (by decide) (by decide) (by rw [hml]; rfl) [(.int p0), (.ref b2_0), (.int p1), (.int p2), (.int (p3 &&& (-3 : Int32)))] [] rfl (lenOf pd_13 rfl) rfl (Nat.le_of_eq rfl) (Ls := #[iv p0, iv p1, iv p2, iv p3, iv p4, rv b2_0, rv b5_0, rv b9_0, .unset, .unset])
  obtain ⟨b13_0, b13_1, k13_0, rfl, M13, K13, zz13_0, zz13_1, F13_0, F13_1, F13_2, F13_3, F13_4, F13_5, F13_6, F13_7, F13_8, F13_9⟩ := Q13
  have N13 := Fr.app N9 M13
  refine Rch.go st13 ?_
  have z14 : n0 ≤ T13.heap.size := (Nat.le_trans z10 K13.1)
  have o15 := o11.keep K13 all0
  have g_b13_0 : n0 ≤ b13_0 := Nat.le_trans z10 zz13_0
  have g_b13_1 : n0 ≤ b13_1 := Nat.le_trans z10 zz13_1
  show Rch p e below _ (T13.setTop (mkF m 48 #[iv p0, iv p1, iv p2, iv p3, iv p4, rv b2_0, rv b5_0, rv b9_0, .unset, .unset] [(.ref b13_0)]))
  refine Rch.go (fun t k => XS.astore X13.here hx rfl (hb hby at_48) rfl rfl (l' := #[iv p0, iv p1, iv p2, iv p3, iv p4, rv b2_0, rv b5_0, rv b9_0, rv b13_0, .unset]) rfl k) ?_
  show Rch p e below _ (T13.setTop (mkF m 50 #[iv p0, iv p1, iv p2, iv p3, iv p4, rv b2_0, rv b5_0, rv b9_0, rv b13_0, .unset] []))
  refine Rch.go (fun t k => XS.iloadN X13.here hx rfl (hb hby at_50) rfl  k) ?_
  show Rch p e below _ (T13.setTop (mkF m 51 #[iv p0, iv p1, iv p2, iv p3, iv p4, rv b2_0, rv b5_0, rv b9_0, rv b13_0, .unset] [(.int p3)]))
  refine Rch.go (fun t k => XS.iconst X13.here hx rfl (hb hby at_51) k) ?_
  show Rch p e below _ (T13.setTop (mkF m 52 #[iv p0, iv p1, iv p2, iv p3, iv p4, rv b2_0, rv b5_0, rv b9_0, rv b13_0, .unset] [(.int (1 : Int32)), (.int p3)]))
  refine Rch.go (fun t k => XS.iushr X13.here hx rfl (hb hby at_52) rfl k) ?_
  show Rch p e below _ (T13.setTop (mkF m 53 #[iv p0, iv p1, iv p2, iv p3, iv p4, rv b2_0, rv b5_0, rv b9_0, rv b13_0, .unset] [(.int ((p3.toUInt32 >>> ((1 : Int32) &&& 31).toUInt32).toInt32))]))
  refine Rch.go (fun t k => XS.iconst X13.here hx rfl (hb hby at_53) k) ?_
  show Rch p e below _ (T13.setTop (mkF m 54 #[iv p0, iv p1, iv p2, iv p3, iv p4, rv b2_0, rv b5_0, rv b9_0, rv b13_0, .unset] [(.int (1 : Int32)), (.int ((p3.toUInt32 >>> ((1 : Int32) &&& 31).toUInt32).toInt32))]))
  refine Rch.go (fun t k => XS.iand X13.here hx rfl (hb hby at_54) rfl k) ?_
  show Rch p e below _ (T13.setTop (mkF m 55 #[iv p0, iv p1, iv p2, iv p3, iv p4, rv b2_0, rv b5_0, rv b9_0, rv b13_0, .unset] [(.int (((p3.toUInt32 >>> ((1 : Int32) &&& 31).toUInt32).toInt32) &&& (1 : Int32)))]))
  refine Rch.go (fun t k => XS.iconst X13.here hx rfl (hb hby at_55) k) ?_
  show Rch p e below _ (T13.setTop (mkF m 56 #[iv p0, iv p1, iv p2, iv p3, iv p4, rv b2_0, rv b5_0, rv b9_0, rv b13_0, .unset] [(.int (1 : Int32)), (.int (((p3.toUInt32 >>> ((1 : Int32) &&& 31).toUInt32).toInt32) &&& (1 : Int32)))]))
  by_cases hf : (p3 &&& (2 : Int32)) = (0 : Int32)
  · show Rch p e below _ (T13.setTop (mkF m 56 #[iv p0, iv p1, iv p2, iv p3, iv p4, rv b2_0, rv b5_0, rv b9_0, rv b13_0, .unset] [(.int (1 : Int32)), (.int (((p3.toUInt32 >>> ((1 : Int32) &&& 31).toUInt32).toInt32) &&& (1 : Int32)))]))
    refine Rch.go (fun t k => XS.icmpYes X13.here hx rfl (pc0 := 56) (pc' := 63) rfl (hb hby at_56) rfl (XT.ii_ne_t (fun q => (own_b1 p3).mp q hf)) (by decide) (by decide) k) ?_
    show Rch p e below _ (T13.setTop (mkF m 63 #[iv p0, iv p1, iv p2, iv p3, iv p4, rv b2_0, rv b5_0, rv b9_0, rv b13_0, .unset] []))
    refine Rch.go (fun t k => XS.iconst X13.here hx rfl (hb hby at_63) k) ?_
    show Rch p e below _ (T13.setTop (mkF m 64 #[iv p0, iv p1, iv p2, iv p3, iv p4, rv b2_0, rv b5_0, rv b9_0, rv b13_0, .unset] [(.int (0 : Int32))]))
    refine Rch.go (fun t k => XS.istore X13.here hx rfl (hb hby at_64) rfl  (l' := #[iv p0, iv p1, iv p2, iv p3, iv p4, rv b2_0, rv b5_0, rv b9_0, rv b13_0, .val (.int (0 : Int32))]) rfl k) ?_
    show Rch p e below _ (T13.setTop (mkF m 66 #[iv p0, iv p1, iv p2, iv p3, iv p4, rv b2_0, rv b5_0, rv b9_0, rv b13_0, .val (.int (0 : Int32))] []))
    refine Rch.go (fun t k => XS.aload X13.here hx rfl (hb hby at_66) rfl rfl k) ?_
    show Rch p e below _ (T13.setTop (mkF m 68 #[iv p0, iv p1, iv p2, iv p3, iv p4, rv b2_0, rv b5_0, rv b9_0, rv b13_0, .val (.int (0 : Int32))] [(.ref b5_0)]))
    have f16 := ((F5_7.keep K9 nin0).keep K13 nin0)
    have f18 := ((F5_0.keep K9).keep K13)
    obtain ⟨v17, T17, L17, X17, Q17, st17⟩ := callVi X13 hx hZ13 (m22_isOneway l Z a0 hw b5_0 p3 T13.heap n0 z14 o15 f16 hf) rfl hown13 (wd_202 hw) (wd_203 hw) (wd_205 hw) (notFace_of_selects (args := #[]) (mvT hZ13 (wd_205 hw))) (wd_204 hw) (wd_206 hw) (wd_32 hw) (by decide) (hb hby at_68) 0 (by decide) (by decide) (by decide) (by decide) (by rw [hml]; rfl) b5_0 f18 [] [] rfl (lenOf pd_10 rfl) rfl (Nat.le_of_eq rfl) (Ls := #[iv p0, iv p1, iv p2, iv p3, iv p4, rv b2_0, rv b5_0, rv b9_0, rv b13_0, .val (.int (0 : Int32))])
    obtain ⟨rfl, M17, e17⟩ := Q17
    have N17 := Fr.app N13 M17
    refine Rch.go st17 ?_
    show Rch p e below _ (T17.setTop (mkF m 71 #[iv p0, iv p1, iv p2, iv p3, iv p4, rv b2_0, rv b5_0, rv b9_0, rv b13_0, .val (.int (0 : Int32))] [(.int (0 : Int32))]))
    refine Rch.go (fun t k => XS.iload X17.here hx rfl (hb hby at_71) rfl  k) ?_
    show Rch p e below _ (T17.setTop (mkF m 73 #[iv p0, iv p1, iv p2, iv p3, iv p4, rv b2_0, rv b5_0, rv b9_0, rv b13_0, .val (.int (0 : Int32))] [(.int (0 : Int32)), (.int (0 : Int32))]))
    refine Rch.go (fun t k => XS.icmpNo X17.here hx rfl (hb hby at_73) rfl (by decide) k) ?_
    show Rch p e below _ (T17.setTop (mkF m 76 #[iv p0, iv p1, iv p2, iv p3, iv p4, rv b2_0, rv b5_0, rv b9_0, rv b13_0, .val (.int (0 : Int32))] []))
    refine Rch.go (fun t k => XS.aload X17.here hx rfl (hb hby at_76) rfl rfl k) ?_
    show Rch p e below _ (T17.setTop (mkF m 78 #[iv p0, iv p1, iv p2, iv p3, iv p4, rv b2_0, rv b5_0, rv b9_0, rv b13_0, .val (.int (0 : Int32))] [(.ref b9_0)]))
    have f19 := (F9_7.keep K13 nin0)
    have f21 := (F9_0.keep K13)
    obtain ⟨v20, T20, L20, X20, Q20, st20⟩ := callVi X17 hx hZ13 (m23_isOneway l Z a0 hw b9_0 (p3 ||| (2 : Int32)) T13.heap n0 z14 o15 f19 (by rw [own_b2]; decide)) e17 hown13 (wd_202 hw) (wd_203 hw) (wd_205 hw) (notFace_of_selects (args := #[]) (mvT hZ13 (wd_205 hw))) (wd_204 hw) (wd_206 hw) (wd_32 hw) (by decide) (hb hby at_78) 0 (by decide) (by decide) (by decide) (by decide) (by rw [hml]; rfl) b9_0 f21 [] [] rfl (lenOf pd_10 rfl) rfl (Nat.le_of_eq rfl) (Ls := #[iv p0, iv p1, iv p2, iv p3, iv p4, rv b2_0, rv b5_0, rv b9_0, rv b13_0, .val (.int (0 : Int32))])
    obtain ⟨rfl, M20, e20⟩ := Q20
    have N20 := Fr.app N17 M20
    refine Rch.go st20 ?_
    show Rch p e below _ (T20.setTop (mkF m 81 #[iv p0, iv p1, iv p2, iv p3, iv p4, rv b2_0, rv b5_0, rv b9_0, rv b13_0, .val (.int (0 : Int32))] [(.int (1 : Int32))]))
    refine Rch.go (fun t k => XS.ifNo X20.here hx rfl (hb hby at_81) rfl (by decide) k) ?_
    show Rch p e below _ (T20.setTop (mkF m 84 #[iv p0, iv p1, iv p2, iv p3, iv p4, rv b2_0, rv b5_0, rv b9_0, rv b13_0, .val (.int (0 : Int32))] []))
    refine Rch.go (fun t k => XS.aload X20.here hx rfl (hb hby at_84) rfl rfl k) ?_
    show Rch p e below _ (T20.setTop (mkF m 86 #[iv p0, iv p1, iv p2, iv p3, iv p4, rv b2_0, rv b5_0, rv b9_0, rv b13_0, .val (.int (0 : Int32))] [(.ref b13_0)]))
    obtain ⟨v22, T22, L22, X22, Q22, st22⟩ := callVi X20 hx hZ13 (m22_isOneway l Z a0 hw b13_0 (p3 &&& (-3 : Int32)) T13.heap n0 z14 o15 F13_7 (own_b3 p3)) e20 hown13 (wd_202 hw) (wd_203 hw) (wd_205 hw) (notFace_of_selects (args := #[]) (mvT hZ13 (wd_205 hw))) (wd_204 hw) (wd_206 hw) (wd_32 hw) (by decide) (hb hby at_86) 0 (by decide) (by decide) (by decide) (by decide) (by rw [hml]; rfl) b13_0 F13_0 [] [] rfl (lenOf pd_10 rfl) rfl (Nat.le_of_eq rfl) (Ls := #[iv p0, iv p1, iv p2, iv p3, iv p4, rv b2_0, rv b5_0, rv b9_0, rv b13_0, .val (.int (0 : Int32))])
    obtain ⟨rfl, M22, e22⟩ := Q22
    have N22 := Fr.app N20 M22
    refine Rch.go st22 ?_
    show Rch p e below _ (T22.setTop (mkF m 89 #[iv p0, iv p1, iv p2, iv p3, iv p4, rv b2_0, rv b5_0, rv b9_0, rv b13_0, .val (.int (0 : Int32))] [(.int (0 : Int32))]))
    refine Rch.go (fun t k => XS.ifNo X22.here hx rfl (hb hby at_89) rfl (by decide) k) ?_
    show Rch p e below _ (T22.setTop (mkF m 92 #[iv p0, iv p1, iv p2, iv p3, iv p4, rv b2_0, rv b5_0, rv b9_0, rv b13_0, .val (.int (0 : Int32))] []))
    refine Rch.go (fun t k => XS.iconst X22.here hx rfl (hb hby at_92) k) ?_
    show Rch p e below _ (T22.setTop (mkF m 93 #[iv p0, iv p1, iv p2, iv p3, iv p4, rv b2_0, rv b5_0, rv b9_0, rv b13_0, .val (.int (0 : Int32))] [(.int (1 : Int32))]))
    refine Rch.go (fun t k => XS.goto X22.here hx rfl (pc0 := 93) (pc' := 97) rfl (hb hby at_93) (by decide) (by decide) k) ?_
    show Rch p e below _ (T22.setTop (mkF m 97 #[iv p0, iv p1, iv p2, iv p3, iv p4, rv b2_0, rv b5_0, rv b9_0, rv b13_0, .val (.int (0 : Int32))] [(.int (1 : Int32))]))
    refine Rch.valW X22 hx Y13 e22 (Nat.le_refl _) (t := .boolean) hret hlk rfl (mayI (by simp)) (hb hby at_97) (by decide) (by decide) ?_
    exact ⟨rfl, N22⟩
  · show Rch p e below _ (T13.setTop (mkF m 56 #[iv p0, iv p1, iv p2, iv p3, iv p4, rv b2_0, rv b5_0, rv b9_0, rv b13_0, .unset] [(.int (1 : Int32)), (.int (((p3.toUInt32 >>> ((1 : Int32) &&& 31).toUInt32).toInt32) &&& (1 : Int32)))]))
    refine Rch.go (fun t k => XS.icmpNo X13.here hx rfl (hb hby at_56) rfl (XT.ii_ne_f ((own_b1 p3).mpr hf)) k) ?_
    show Rch p e below _ (T13.setTop (mkF m 59 #[iv p0, iv p1, iv p2, iv p3, iv p4, rv b2_0, rv b5_0, rv b9_0, rv b13_0, .unset] []))
    refine Rch.go (fun t k => XS.iconst X13.here hx rfl (hb hby at_59) k) ?_
    show Rch p e below _ (T13.setTop (mkF m 60 #[iv p0, iv p1, iv p2, iv p3, iv p4, rv b2_0, rv b5_0, rv b9_0, rv b13_0, .unset] [(.int (1 : Int32))]))
    refine Rch.go (fun t k => XS.goto X13.here hx rfl (pc0 := 60) (pc' := 64) rfl (hb hby at_60) (by decide) (by decide) k) ?_
    show Rch p e below _ (T13.setTop (mkF m 64 #[iv p0, iv p1, iv p2, iv p3, iv p4, rv b2_0, rv b5_0, rv b9_0, rv b13_0, .unset] [(.int (1 : Int32))]))
    refine Rch.go (fun t k => XS.istore X13.here hx rfl (hb hby at_64) rfl  (l' := #[iv p0, iv p1, iv p2, iv p3, iv p4, rv b2_0, rv b5_0, rv b9_0, rv b13_0, .val (.int (1 : Int32))]) rfl k) ?_
    show Rch p e below _ (T13.setTop (mkF m 66 #[iv p0, iv p1, iv p2, iv p3, iv p4, rv b2_0, rv b5_0, rv b9_0, rv b13_0, .val (.int (1 : Int32))] []))
    refine Rch.go (fun t k => XS.aload X13.here hx rfl (hb hby at_66) rfl rfl k) ?_
    show Rch p e below _ (T13.setTop (mkF m 68 #[iv p0, iv p1, iv p2, iv p3, iv p4, rv b2_0, rv b5_0, rv b9_0, rv b13_0, .val (.int (1 : Int32))] [(.ref b5_0)]))
    have f23 := ((F5_7.keep K9 nin0).keep K13 nin0)
    have f25 := ((F5_0.keep K9).keep K13)
    obtain ⟨v24, T24, L24, X24, Q24, st24⟩ := callVi X13 hx hZ13 (m23_isOneway l Z a0 hw b5_0 p3 T13.heap n0 z14 o15 f23 hf) rfl hown13 (wd_202 hw) (wd_203 hw) (wd_205 hw) (notFace_of_selects (args := #[]) (mvT hZ13 (wd_205 hw))) (wd_204 hw) (wd_206 hw) (wd_32 hw) (by decide) (hb hby at_68) 0 (by decide) (by decide) (by decide) (by decide) (by rw [hml]; rfl) b5_0 f25 [] [] rfl (lenOf pd_10 rfl) rfl (Nat.le_of_eq rfl) (Ls := #[iv p0, iv p1, iv p2, iv p3, iv p4, rv b2_0, rv b5_0, rv b9_0, rv b13_0, .val (.int (1 : Int32))])
    obtain ⟨rfl, M24, e24⟩ := Q24
    have N24 := Fr.app N13 M24
    refine Rch.go st24 ?_
    show Rch p e below _ (T24.setTop (mkF m 71 #[iv p0, iv p1, iv p2, iv p3, iv p4, rv b2_0, rv b5_0, rv b9_0, rv b13_0, .val (.int (1 : Int32))] [(.int (1 : Int32))]))
    refine Rch.go (fun t k => XS.iload X24.here hx rfl (hb hby at_71) rfl  k) ?_
    show Rch p e below _ (T24.setTop (mkF m 73 #[iv p0, iv p1, iv p2, iv p3, iv p4, rv b2_0, rv b5_0, rv b9_0, rv b13_0, .val (.int (1 : Int32))] [(.int (1 : Int32)), (.int (1 : Int32))]))
    refine Rch.go (fun t k => XS.icmpNo X24.here hx rfl (hb hby at_73) rfl (by decide) k) ?_
    show Rch p e below _ (T24.setTop (mkF m 76 #[iv p0, iv p1, iv p2, iv p3, iv p4, rv b2_0, rv b5_0, rv b9_0, rv b13_0, .val (.int (1 : Int32))] []))
    refine Rch.go (fun t k => XS.aload X24.here hx rfl (hb hby at_76) rfl rfl k) ?_
    show Rch p e below _ (T24.setTop (mkF m 78 #[iv p0, iv p1, iv p2, iv p3, iv p4, rv b2_0, rv b5_0, rv b9_0, rv b13_0, .val (.int (1 : Int32))] [(.ref b9_0)]))
    have f26 := (F9_7.keep K13 nin0)
    have f28 := (F9_0.keep K13)
    obtain ⟨v27, T27, L27, X27, Q27, st27⟩ := callVi X24 hx hZ13 (m23_isOneway l Z a0 hw b9_0 (p3 ||| (2 : Int32)) T13.heap n0 z14 o15 f26 (by rw [own_b2]; decide)) e24 hown13 (wd_202 hw) (wd_203 hw) (wd_205 hw) (notFace_of_selects (args := #[]) (mvT hZ13 (wd_205 hw))) (wd_204 hw) (wd_206 hw) (wd_32 hw) (by decide) (hb hby at_78) 0 (by decide) (by decide) (by decide) (by decide) (by rw [hml]; rfl) b9_0 f28 [] [] rfl (lenOf pd_10 rfl) rfl (Nat.le_of_eq rfl) (Ls := #[iv p0, iv p1, iv p2, iv p3, iv p4, rv b2_0, rv b5_0, rv b9_0, rv b13_0, .val (.int (1 : Int32))])
    obtain ⟨rfl, M27, e27⟩ := Q27
    have N27 := Fr.app N24 M27
    refine Rch.go st27 ?_
    show Rch p e below _ (T27.setTop (mkF m 81 #[iv p0, iv p1, iv p2, iv p3, iv p4, rv b2_0, rv b5_0, rv b9_0, rv b13_0, .val (.int (1 : Int32))] [(.int (1 : Int32))]))
    refine Rch.go (fun t k => XS.ifNo X27.here hx rfl (hb hby at_81) rfl (by decide) k) ?_
    show Rch p e below _ (T27.setTop (mkF m 84 #[iv p0, iv p1, iv p2, iv p3, iv p4, rv b2_0, rv b5_0, rv b9_0, rv b13_0, .val (.int (1 : Int32))] []))
    refine Rch.go (fun t k => XS.aload X27.here hx rfl (hb hby at_84) rfl rfl k) ?_
    show Rch p e below _ (T27.setTop (mkF m 86 #[iv p0, iv p1, iv p2, iv p3, iv p4, rv b2_0, rv b5_0, rv b9_0, rv b13_0, .val (.int (1 : Int32))] [(.ref b13_0)]))
    obtain ⟨v29, T29, L29, X29, Q29, st29⟩ := callVi X27 hx hZ13 (m22_isOneway l Z a0 hw b13_0 (p3 &&& (-3 : Int32)) T13.heap n0 z14 o15 F13_7 (own_b3 p3)) e27 hown13 (wd_202 hw) (wd_203 hw) (wd_205 hw) (notFace_of_selects (args := #[]) (mvT hZ13 (wd_205 hw))) (wd_204 hw) (wd_206 hw) (wd_32 hw) (by decide) (hb hby at_86) 0 (by decide) (by decide) (by decide) (by decide) (by rw [hml]; rfl) b13_0 F13_0 [] [] rfl (lenOf pd_10 rfl) rfl (Nat.le_of_eq rfl) (Ls := #[iv p0, iv p1, iv p2, iv p3, iv p4, rv b2_0, rv b5_0, rv b9_0, rv b13_0, .val (.int (1 : Int32))])
    obtain ⟨rfl, M29, e29⟩ := Q29
    have N29 := Fr.app N27 M29
    refine Rch.go st29 ?_
    show Rch p e below _ (T29.setTop (mkF m 89 #[iv p0, iv p1, iv p2, iv p3, iv p4, rv b2_0, rv b5_0, rv b9_0, rv b13_0, .val (.int (1 : Int32))] [(.int (0 : Int32))]))
    refine Rch.go (fun t k => XS.ifNo X29.here hx rfl (hb hby at_89) rfl (by decide) k) ?_
    show Rch p e below _ (T29.setTop (mkF m 92 #[iv p0, iv p1, iv p2, iv p3, iv p4, rv b2_0, rv b5_0, rv b9_0, rv b13_0, .val (.int (1 : Int32))] []))
    refine Rch.go (fun t k => XS.iconst X29.here hx rfl (hb hby at_92) k) ?_
    show Rch p e below _ (T29.setTop (mkF m 93 #[iv p0, iv p1, iv p2, iv p3, iv p4, rv b2_0, rv b5_0, rv b9_0, rv b13_0, .val (.int (1 : Int32))] [(.int (1 : Int32))]))
    refine Rch.go (fun t k => XS.goto X29.here hx rfl (pc0 := 93) (pc' := 97) rfl (hb hby at_93) (by decide) (by decide) k) ?_
    show Rch p e below _ (T29.setTop (mkF m 97 #[iv p0, iv p1, iv p2, iv p3, iv p4, rv b2_0, rv b5_0, rv b9_0, rv b13_0, .val (.int (1 : Int32))] [(.int (1 : Int32))]))
    refine Rch.valW X29 hx Y13 e29 (Nat.le_refl _) (t := .boolean) hret hlk rfl (mayI (by simp)) (hb hby at_97) (by decide) (by decide) ?_
    exact ⟨rfl, N29⟩
set_option maxRecDepth 65536 in
set_option maxHeartbeats 40000000 in
theorem comes_1 {Post : Tables → Env → Array Value → State → Outcome → State → Prop} (hpost : ∀ tb e args s v u, (limb_1_1.after args s (.returned v) u = true ∧ limb_1_2.after args s (.returned v) u = true ∧ True) → ReturnedEndW s (.returned v) u (Jvm.fieldLocs frame_1_writes args s ++ Jvm.arrayLocs frame_1_arrays args s ++ Jvm.staticLocs frame_1_statics s) 64 3392 → Post tb e args s (.returned v) u) :
    ArmFor flags0 classFile x code maxLocals ret World_1 tables_1 room_1 Calls_1 rest_1 Pre_1 Post := by
  intro l hfl _ _ p e ha hc hk s m args below hf hA hF happ hP
  obtain ⟨hcalls, hrest, hpre⟩ := hP
  obtain ⟨-, -, -, hnamed, -, -, -, hat⟩ := (Spec.applies_iff hf).mp happ
  obtain ⟨hg, hn⟩ := and_e (Cond.before_iff.mp (show (Jvm.Cond.and given_1 narrow_1).before args s = true from hpre))
  obtain ⟨gv0, hg⟩ := and_e hg
  obtain ⟨gv1, hg⟩ := and_e hg
  obtain ⟨gv2, hg⟩ := and_e hg
  obtain ⟨gv3, hg⟩ := and_e hg
  obtain ⟨gv4, hg⟩ := and_e hg
  have gv5 := hg
  obtain ⟨w0, w1, w2, w3, w4, rfl⟩ : ∃ w0 w1 w2 w3 w4 : Value, args = #[w0, w1, w2, w3, w4] := by
    have hs : args.size = 5 := by simpa [Cond.value, given_1] using gv0
    obtain ⟨L⟩ := args
    match L, hs with
    | [w0, w1, w2, w3, w4], _ => exact ⟨w0, w1, w2, w3, w4, rfl⟩
  have hw := fun d (hd : d ∈ tables_1) => atoms_spec (ws := Jvm.Cond.code x code maxLocals ret :: tables_1) hat d (List.mem_cons_of_mem _ hd)
  have hfit : Fit s := fun {y c} hc i hi => by
    obtain ⟨ha, rfl⟩ := Array.getElem?_eq_some_iff.mp hc
    have q := List.all_eq_true.mp ((Array.all_eq_true_iff_forall_mem.mp hF) _ (Array.getElem_mem ha)) i (List.mem_range.mpr hi)
    simpa [Array.getElem?_eq_getElem hi] using q
  obtain ⟨i0, ei0⟩ := is_v gv1
  obtain rfl : w0 = (.int i0) := Option.some.inj ei0
  obtain ⟨i1, ei1⟩ := is_v gv2
  obtain rfl : w1 = (.int i1) := Option.some.inj ei1
  obtain ⟨i2, ei2⟩ := is_v gv3
  obtain rfl : w2 = (.int i2) := Option.some.inj ei2
  obtain ⟨i3, ei3⟩ := is_v gv4
  obtain rfl : w3 = (.int i3) := Option.some.inj ei3
  obtain ⟨i4, ei4⟩ := is_v gv5
  obtain rfl : w4 = (.int i4) := Option.some.inj ei4
  obtain ⟨hsets, hown0⟩ := atoms_of _ (rest_1_c_eq ▸ (show rest_1_c.before _ s = true from hrest))
  obtain ⟨ww0, ev_ww0⟩ := is_v (Cond.before_iff.mp (hsets _ (List.mem_of_getElem? (i := 1) rfl)))
  obtain ⟨ww1, ev_ww1, rf_ww1⟩ := isR_v (Cond.before_iff.mp (hsets _ (List.mem_of_getElem? (i := 8) rfl)))
  obtain ⟨mr2, mi_mr2⟩ := own_mir (hcalls.1)
  obtain ⟨mr3, mi_mr3⟩ := own_mir (hcalls.2.1)
  have G : Olds s ww0 ww1 mr2 mr3 := ⟨(Sta.start ev_ww0 (Or.inl (((hsets _ (List.mem_of_getElem? (i := 0) rfl)))))), (Sta.start ev_ww1 (Or.inl (((hsets _ (List.mem_of_getElem? (i := 7) rfl)))))), mi_mr2, mi_mr3, (own_neI ev_ww0 (Cond.before_iff.mp (hsets _ (List.mem_of_getElem? (i := 2) rfl)))), (rf_ww1)⟩
  obtain ⟨n, o, h1, h2, h3, _, L, rfl, ⟨rfl, N⟩, hq⟩ := law_1 l s _ hw i0 i1 i2 i3 i4 ww0 ww1 mr2 mr3 s.heap s.heap.size (Nat.le_refl _) (Old.start s) G p e ha hc hk s m _ below hf ((Spec.applies_iff_loose hf).mp happ).1 ⟨rfl, State.Warmed39.refl s, rfl⟩ trivial
  refine ⟨n, _, h1, h2, h3, hpost _ _ _ _ _ _ ⟨Cond.after_iff.mpr rfl, Cond.after_iff.mpr (eq_i res_at (Term.int_eval (1)) rfl), trivial⟩ ⟨hq.1, hq.2.1, hq.2.2.1, (hq.2.2.2.sift fun y hy => Or.inr (N y hy)).mono (by decide) (by decide)⟩⟩
theorem main_1_1 : Claimed_1_1 := comes_1 fun _ _ _ _ _ _ h hF => ⟨h.1, hF⟩
theorem main_1_2 : Claimed_1_2 := comes_1 fun _ _ _ _ _ _ h hF => ⟨h.2.1, hF⟩
end Jvm.Pilot.@@N@@
namespace Jvm.Pilot.@@N@@
open Jvm Jvm.ClassFile Sem Op Lib Jvm.Free Jvm.Stand Jvm.Pilot.@@N@@.Jvm.D
/-! MADE BY PROGRAM (witnessworld.py) out of the Statement's table words and the real class files: 35 classes; the members and pool entries that the words name. The judged class is class 1, her method 2. -/
namespace start1
open Jvm.ClassFile
def u (s : String) : CpInfo := .utf8 (stringToUtf16 s)
/-- a pool by its gaps: so many unusable entries, then the entry; so many at the end -/
def gap : Nat → List CpInfo → List CpInfo
  | 0, r => r
  | n + 1, r => .unusable :: gap n r
def poolList (es : List (Nat × CpInfo)) (last : Nat) : List CpInfo := es.foldr (fun e r => gap e.1 (e.2 :: r)) (gap last [])
def pool (es : List (Nat × CpInfo)) (last : Nat) : Array CpInfo := ⟨poolList es last⟩
def fileOf (pool : Array CpInfo) (this : Nat) (attrs : Array Attribute := #[]) (ms : Array MethodInfo := #[]) (fl : Nat := 33) (sup : Nat := 0) (ifs : Array Nat := #[]) (fds : Array FieldInfo := #[]) : ClassFile where
  minorVersion := 0
  majorVersion := 65
  constantPool := pool
  accessFlags := fl
  thisClass := this
  superClass := sup
  interfaces := ifs
  fields := fds
  methods := ms
  attributes := attrs
def plain (name : String) (sup : Option ClassId) : Class where
  name := name
  kind := .ordinary
  loader := none
  accessFlags := 33
  super := sup
  interfaces := #[]
  cf := none
  fields := #[]
  methods := #[]
  instanceTypes := #[]
  staticTypes := #[]
  resolved := #[]
  callSites := []
  init := .initialized
  statics := none
  mirror := none

def pool0 : Array CpInfo := pool [(5, u "<init>"), (0, u "()V"), (1, .class_ 10), (1, u "java/lang/Object"), (0, u "getClass"), (0, u "()Ljava/lang/Class;")] 111

def k0c0 : Code := { maxStack := 0, maxLocals := 1, code := object_method_1_code, exceptionTable := #[], attributes := #[] }
def k0m0 : Method := { name := "<init>", desc := "()V", sig := { parameters := [], returnType := none }, accessFlags := 1, code := some k0c0 }
def k0m1 : Method := { name := "getClass", desc := "()Ljava/lang/Class;", sig := { parameters := [], returnType := some (.object "java/lang/Class") }, accessFlags := 273, code := none }
/-- java/lang/Object -/
def k0 : Class := { plain "java/lang/Object" none with
  accessFlags := 33
  interfaces := #[]
  cf := some (fileOf pool0 8 #[] #[{ accessFlags := 1, nameIndex := 5, descriptorIndex := 6, attributes := #[] }, { accessFlags := 273, nameIndex := 11, descriptorIndex := 12, attributes := #[] }] 33 0 #[] #[])
  fields := #[]
  methods := #[k0m0, k0m1]
  instanceTypes := #[]
  staticTypes := #[]
  resolved := Array.replicate 124 none
  statics := none }

def pool1 : Array CpInfo := pool [(2, .class_ 4), (0, .nameAndType 5 6), (0, u "java/lang/Object"), (0, u "<init>"), (0, u "()V"), (0, .class_ 8), (0, u "com/example/fuchun/fuchun/remoting/RemotingCommand"), (0, .class_ 10), (0, u "java/util/HashMap"), (0, .methodref 9 3), (0, .methodref 7 13), (0, .nameAndType 5 14), (0, u "(ILjava/lang/String;IIILjava/lang/String;Ljava/util/Map;[B)V"), (0, .methodref 16 17), (0, .class_ 18), (0, .nameAndType 19 20), (0, u "java/lang/String"), (0, u "valueOf"), (0, u "(C)Ljava/lang/String;"), (0, .methodref 22 23), (0, .class_ 24), (0, .nameAndType 25 26), (0, u "com/example/fuchun/fuchun/remoting/RemotingCommandIsOnewayPinLaw"), (0, u "make"), (0, u "(ILjava/lang/String;III)Lcom/example/fuchun/fuchun/remoting/RemotingCommand;"), (0, .methodref 7 28), (0, .nameAndType 29 30), (0, u "isOneway"), (0, u "()Z"), (2, u "law"), (0, u "(IIIII)Z")] 3

def k1m0 : Method := { name := "<init>", desc := "()V", sig := { parameters := [], returnType := none }, accessFlags := 1, code := none }
def k1c1 : Code := { maxStack := 10, maxLocals := 5, code := method_2_code, exceptionTable := #[], attributes := #[] }
def k1m1 : Method := { name := "make", desc := "(ILjava/lang/String;III)Lcom/example/fuchun/fuchun/remoting/RemotingCommand;", sig := { parameters := [.int, (.object "java/lang/String"), .int, .int, .int], returnType := some (.object "com/example/fuchun/fuchun/remoting/RemotingCommand") }, accessFlags := 10, code := some k1c1 }
def k1c2 : Code := { maxStack := 6, maxLocals := 10, code := code, exceptionTable := #[], attributes := #[] }
def k1m2 : Method := { name := "law", desc := "(IIIII)Z", sig := { parameters := [.int, .int, .int, .int, .int], returnType := some .boolean }, accessFlags := 9, code := some k1c2 }
/-- com/example/fuchun/fuchun/remoting/RemotingCommandIsOnewayPinLaw -/
def k1 : Class := { plain "com/example/fuchun/fuchun/remoting/RemotingCommandIsOnewayPinLaw" (some 0) with
  accessFlags := 49
  interfaces := #[]
  cf := some (fileOf pool1 22 #[] #[{ accessFlags := 1, nameIndex := 5, descriptorIndex := 6, attributes := #[] }, { accessFlags := 10, nameIndex := 25, descriptorIndex := 26, attributes := #[] }, { accessFlags := 9, nameIndex := 33, descriptorIndex := 34, attributes := #[] }] 49 2 #[] #[])
  fields := #[]
  methods := #[k1m0, k1m1, k1m2]
  instanceTypes := #[]
  staticTypes := #[]
  resolved := Array.replicate 38 none
  statics := none }

def pool2 : Array CpInfo := pool [(1, .class_ 2), (0, u "java/io/Serializable"), (0, .class_ 4), (0, u "java/lang/Object")] 2

/-- java/io/Serializable -/
def k2 : Class := { plain "java/io/Serializable" (some 0) with
  accessFlags := 1537
  interfaces := #[]
  cf := some (fileOf pool2 1 #[] #[] 1537 3 #[] #[])
  fields := #[]
  methods := #[]
  instanceTypes := #[]
  staticTypes := #[]
  resolved := Array.replicate 7 none
  statics := none }

def pool3 : Array CpInfo := pool [(1, .class_ 2), (0, u "java/lang/Comparable"), (0, .class_ 4), (0, u "java/lang/Object")] 7

/-- java/lang/Comparable -/
def k3 : Class := { plain "java/lang/Comparable" (some 0) with
  accessFlags := 1537
  interfaces := #[]
  cf := some (fileOf pool3 1 #[] #[] 1537 3 #[] #[])
  fields := #[]
  methods := #[]
  instanceTypes := #[]
  staticTypes := #[]
  resolved := Array.replicate 12 none
  statics := none }

def pool4 : Array CpInfo := pool [(2, .class_ 4), (1, u "java/lang/CharSequence"), (42, .class_ 48), (0, u "java/lang/CharSequence$1CodePointIterator"), (10, .class_ 60), (0, u "java/lang/CharSequence$1CharIterator"), (5, .class_ 67), (0, u "java/lang/Object")] 63

/-- java/lang/CharSequence -/
def k4 : Class := { plain "java/lang/CharSequence" (some 0) with
  accessFlags := 1537
  interfaces := #[]
  cf := some (fileOf pool4 2 #[.nestMembers #[47, 59]] #[] 1537 66 #[] #[])
  fields := #[]
  methods := #[]
  instanceTypes := #[]
  staticTypes := #[]
  resolved := Array.replicate 131 none
  statics := none }

def pool5 : Array CpInfo := pool [(1, .class_ 2), (0, u "java/lang/constant/Constable"), (0, .class_ 4), (0, u "java/lang/Object")] 6

/-- java/lang/constant/Constable -/
def k5 : Class := { plain "java/lang/constant/Constable" (some 0) with
  accessFlags := 1537
  interfaces := #[]
  cf := some (fileOf pool5 1 #[] #[] 1537 3 #[] #[])
  fields := #[]
  methods := #[]
  instanceTypes := #[]
  staticTypes := #[]
  resolved := Array.replicate 11 none
  statics := none }

def pool6 : Array CpInfo := pool [(1, .class_ 2), (0, u "java/lang/constant/ConstantDesc"), (0, .class_ 4), (0, u "java/lang/Object")] 32

/-- java/lang/constant/ConstantDesc -/
def k6 : Class := { plain "java/lang/constant/ConstantDesc" (some 0) with
  accessFlags := 1537
  interfaces := #[]
  cf := some (fileOf pool6 1 #[] #[] 1537 3 #[] #[])
  fields := #[]
  methods := #[]
  instanceTypes := #[]
  staticTypes := #[]
  resolved := Array.replicate 37 none
  statics := none }

def pool7 : Array CpInfo := pool [(1, .methodref 2 3), (0, .class_ 4), (0, .nameAndType 5 6), (0, u "java/lang/Object"), (0, u "<init>"), (0, u "()V"), (2, .fieldref 10 11), (0, .class_ 12), (0, .nameAndType 13 14), (0, u "java/lang/String"), (0, u "value"), (0, u "[B"), (0, .fieldref 10 16), (0, .nameAndType 17 18), (0, u "coder"), (0, u "B"), (2, u "hash"), (0, u "I"), (2, u "hashIsZero"), (0, u "Z"), (11, .fieldref 10 39), (0, .nameAndType 40 26), (0, u "COMPACT_STRINGS"), (12, u "toBytes"), (53, .class_ 109), (1, u "java/lang/StringLatin1"), (99, .methodref 10 210), (0, .nameAndType 5 211), (0, u "([BB)V"), (157, u "(C)Z"), (205, .class_ 576), (0, u "java/lang/CharSequence"), (22, u "CASE_INSENSITIVE_ORDER"), (0, u "Ljava/util/Comparator;"), (181, u "valueOf"), (0, u "(C)Ljava/lang/String;"), (231, .methodref 107 1016), (0, .nameAndType 1017 369), (0, u "canEncode"), (0, .methodref 107 1019), (0, .nameAndType 53 1020), (0, u "(C)[B"), (80, u "serialPersistentFields"), (0, u "[Ljava/io/ObjectStreamField;"), (0, .class_ 1104), (0, u "java/lang/String$CaseInsensitiveComparator"), (1, .class_ 1107), (0, u "java/io/Serializable"), (0, .class_ 1109), (0, u "java/lang/Comparable"), (0, .class_ 1111), (0, u "java/lang/constant/Constable"), (0, .class_ 1113), (0, u "java/lang/constant/ConstantDesc"), (2, u "serialVersionUID"), (0, u "J"), (3, u "REPL"), (0, u "C"), (2, u "LATIN1"), (1, u "UTF16")] 323

def k7m0 : Method := { name := "<init>", desc := "()V", sig := { parameters := [], returnType := none }, accessFlags := 1, code := none }
def k7c1 : Code := { maxStack := 4, maxLocals := 1, code := jdk_42_method_139_code, exceptionTable := #[], attributes := #[] }
def k7m1 : Method := { name := "valueOf", desc := "(C)Ljava/lang/String;", sig := { parameters := [.char], returnType := some (.object "java/lang/String") }, accessFlags := 9, code := some k7c1 }
def k7c2 : Code := { maxStack := 2, maxLocals := 3, code := jdk_42_method_151_code, exceptionTable := #[], attributes := #[] }
def k7m2 : Method := { name := "<init>", desc := "([BB)V", sig := { parameters := [(.array .byte), .byte], returnType := none }, accessFlags := 0, code := some k7c2 }
/-- java/lang/String -/
def k7 : Class := { plain "java/lang/String" (some 0) with
  accessFlags := 49
  interfaces := #[2, 3, 4, 5, 6]
  cf := some (fileOf pool7 10 #[.nestMembers #[1103]] #[{ accessFlags := 1, nameIndex := 5, descriptorIndex := 6, attributes := #[] }, { accessFlags := 9, nameIndex := 782, descriptorIndex := 783, attributes := #[] }, { accessFlags := 0, nameIndex := 5, descriptorIndex := 211, attributes := #[] }] 49 2 #[1106, 1108, 575, 1110, 1112] #[{ accessFlags := 18, nameIndex := 13, descriptorIndex := 14, attributes := #[] }, { accessFlags := 18, nameIndex := 17, descriptorIndex := 18, attributes := #[] }, { accessFlags := 2, nameIndex := 21, descriptorIndex := 22, attributes := #[] }, { accessFlags := 2, nameIndex := 25, descriptorIndex := 26, attributes := #[] }, { accessFlags := 26, nameIndex := 1116, descriptorIndex := 1117, attributes := #[] }, { accessFlags := 24, nameIndex := 40, descriptorIndex := 26, attributes := #[] }, { accessFlags := 26, nameIndex := 1101, descriptorIndex := 1102, attributes := #[] }, { accessFlags := 26, nameIndex := 1121, descriptorIndex := 1122, attributes := #[] }, { accessFlags := 25, nameIndex := 599, descriptorIndex := 600, attributes := #[] }, { accessFlags := 24, nameIndex := 1125, descriptorIndex := 18, attributes := #[] }, { accessFlags := 24, nameIndex := 1127, descriptorIndex := 18, attributes := #[] }])
  fields := #[{ name := "value", type := (.array .byte), accessFlags := 18, slot := 0, constantValue := 0 }, { name := "coder", type := .byte, accessFlags := 18, slot := 1, constantValue := 0 }, { name := "hash", type := .int, accessFlags := 2, slot := 2, constantValue := 0 }, { name := "hashIsZero", type := .boolean, accessFlags := 2, slot := 3, constantValue := 0 }, { name := "serialVersionUID", type := .long, accessFlags := 26, slot := 0, constantValue := 0 }, { name := "COMPACT_STRINGS", type := .boolean, accessFlags := 24, slot := 1, constantValue := 0 }, { name := "serialPersistentFields", type := (.array (.object "java/io/ObjectStreamField")), accessFlags := 26, slot := 2, constantValue := 0 }, { name := "REPL", type := .char, accessFlags := 26, slot := 3, constantValue := 0 }, { name := "CASE_INSENSITIVE_ORDER", type := (.object "java/util/Comparator"), accessFlags := 25, slot := 4, constantValue := 0 }, { name := "LATIN1", type := .byte, accessFlags := 24, slot := 5, constantValue := 0 }, { name := "UTF16", type := .byte, accessFlags := 24, slot := 6, constantValue := 0 }]
  methods := #[k7m0, k7m1, k7m2]
  instanceTypes := #[(.array .byte), .byte, .int, .boolean]
  staticTypes := #[.long, .boolean, (.array (.object "java/io/ObjectStreamField")), .char, (.object "java/util/Comparator"), .byte, .byte]
  resolved := Array.replicate 1451 none
  statics := some 0 }

def pool8 : Array CpInfo := pool [(4, .class_ 6), (1, u "java/lang/Object"), (0, u "<init>"), (0, u "()V"), (5, .class_ 16), (1, u "java/lang/StringLatin1"), (73, u "canEncode"), (14, u "(C)Z"), (15, u "$assertionsDisabled"), (0, u "Z"), (98, .class_ 223), (1, u "java/lang/StringLatin1$LinesSpliterator"), (156, u "toBytes"), (1, u "(C)[B"), (7, .class_ 391), (0, u "java/lang/StringLatin1$CharsSpliterator")] 3

def k8m0 : Method := { name := "<init>", desc := "()V", sig := { parameters := [], returnType := none }, accessFlags := 0, code := none }
def k8c1 : Code := { maxStack := 2, maxLocals := 1, code := jdk_43_method_3_code, exceptionTable := #[], attributes := #[] }
def k8m1 : Method := { name := "canEncode", desc := "(C)Z", sig := { parameters := [.char], returnType := some .boolean }, accessFlags := 9, code := some k8c1 }
def k8c2 : Code := { maxStack := 4, maxLocals := 1, code := jdk_43_method_46_code, exceptionTable := #[], attributes := #[] }
def k8m2 : Method := { name := "toBytes", desc := "(C)[B", sig := { parameters := [.char], returnType := some (.array .byte) }, accessFlags := 9, code := some k8c2 }
/-- java/lang/StringLatin1 -/
def k8 : Class := { plain "java/lang/StringLatin1" (some 0) with
  accessFlags := 48
  interfaces := #[]
  cf := some (fileOf pool8 14 #[.nestMembers #[390, 221]] #[{ accessFlags := 0, nameIndex := 7, descriptorIndex := 8, attributes := #[] }, { accessFlags := 9, nameIndex := 90, descriptorIndex := 105, attributes := #[] }, { accessFlags := 9, nameIndex := 380, descriptorIndex := 382, attributes := #[] }] 48 4 #[] #[{ accessFlags := 4120, nameIndex := 121, descriptorIndex := 122, attributes := #[] }])
  fields := #[{ name := "$assertionsDisabled", type := .boolean, accessFlags := 4120, slot := 0, constantValue := 0 }]
  methods := #[k8m0, k8m1, k8m2]
  instanceTypes := #[]
  staticTypes := #[.boolean]
  resolved := Array.replicate 395 none
  statics := none }

def pool9 : Array CpInfo := pool [(1, .methodref 2 3), (0, .class_ 4), (0, .nameAndType 5 6), (0, u "java/lang/Object"), (0, u "<init>"), (0, u "()V"), (0, .fieldref 8 9), (0, .class_ 10), (0, .nameAndType 11 12), (0, u "com/example/fuchun/fuchun/remoting/RemotingCommand"), (0, u "code"), (0, u "I"), (0, .string 14), (0, u "language"), (0, .methodref 16 17), (0, .class_ 18), (0, .nameAndType 19 20), (0, u "java/util/Objects"), (0, u "requireNonNull"), (0, u "(Ljava/lang/Object;Ljava/lang/String;)Ljava/lang/Object;"), (0, .class_ 22), (0, u "java/lang/String"), (0, .fieldref 8 24), (0, .nameAndType 14 25), (0, u "Ljava/lang/String;"), (0, .fieldref 8 27), (0, .nameAndType 28 12), (0, u "version"), (0, .fieldref 8 30), (0, .nameAndType 31 12), (0, u "opaque"), (0, .fieldref 8 33), (0, .nameAndType 34 12), (0, u "flag"), (0, .fieldref 8 36), (0, .nameAndType 37 25), (0, u "remark"), (0, .methodref 8 39), (0, .nameAndType 40 41), (0, u "copyFields"), (0, u "(Ljava/util/Map;)Ljava/util/Map;"), (0, .fieldref 8 43), (0, .nameAndType 44 45), (0, u "fields"), (0, u "Ljava/util/Map;"), (0, .string 47), (0, u "body"), (0, .class_ 49), (0, u "[B"), (0, .fieldref 8 51), (0, .nameAndType 47 49), (11, u "(ILjava/lang/String;IIILjava/lang/String;Ljava/util/Map;[B)V"), (2, u "NO_BODY"), (18, .class_ 86), (0, u "java/util/Map"), (26, .string 44), (0, .class_ 115), (0, u "java/util/LinkedHashMap"), (0, .methodref 114 3), (0, .interfaceMethodref 85 118), (0, .nameAndType 119 120), (0, u "entrySet"), (0, u "()Ljava/util/Set;"), (0, .interfaceMethodref 122 123), (0, .class_ 124), (0, .nameAndType 125 126), (0, u "java/util/Set"), (0, u "iterator"), (0, u "()Ljava/util/Iterator;"), (0, .interfaceMethodref 128 129), (0, .class_ 130), (0, .nameAndType 131 132), (0, u "java/util/Iterator"), (0, u "hasNext"), (0, u "()Z"), (25, .methodref 159 160), (0, .class_ 161), (0, .nameAndType 162 41), (0, u "java/util/Collections"), (0, u "unmodifiableMap"), (3, u "FLAG_RESPONSE"), (2, u "FLAG_ONEWAY"), (1, u "LANGUAGE_JAVA"), (0, u "VERSION"), (23, u "isOneway")] 36

def k9c0 : Code := { maxStack := 3, maxLocals := 9, code := prog_20_method_1_code, exceptionTable := #[], attributes := #[] }
def k9m0 : Method := { name := "<init>", desc := "(ILjava/lang/String;IIILjava/lang/String;Ljava/util/Map;[B)V", sig := { parameters := [.int, (.object "java/lang/String"), .int, .int, .int, (.object "java/lang/String"), (.object "java/util/Map"), (.array .byte)], returnType := none }, accessFlags := 1, code := some k9c0 }
def k9c1 : Code := { maxStack := 2, maxLocals := 1, code := prog_20_method_13_code, exceptionTable := #[], attributes := #[] }
def k9m1 : Method := { name := "isOneway", desc := "()Z", sig := { parameters := [], returnType := some .boolean }, accessFlags := 1, code := some k9c1 }
def k9c2 : Code := { maxStack := 3, maxLocals := 6, code := prog_20_method_17_code, exceptionTable := #[], attributes := #[] }
def k9m2 : Method := { name := "copyFields", desc := "(Ljava/util/Map;)Ljava/util/Map;", sig := { parameters := [(.object "java/util/Map")], returnType := some (.object "java/util/Map") }, accessFlags := 10, code := some k9c2 }
/-- com/example/fuchun/fuchun/remoting/RemotingCommand -/
def k9 : Class := { plain "com/example/fuchun/fuchun/remoting/RemotingCommand" (some 0) with
  accessFlags := 33
  interfaces := #[]
  cf := some (fileOf pool9 8 #[] #[{ accessFlags := 1, nameIndex := 5, descriptorIndex := 63, attributes := #[] }, { accessFlags := 1, nameIndex := 196, descriptorIndex := 132, attributes := #[] }, { accessFlags := 10, nameIndex := 40, descriptorIndex := 41, attributes := #[] }] 33 2 #[] #[{ accessFlags := 25, nameIndex := 166, descriptorIndex := 12, attributes := #[] }, { accessFlags := 25, nameIndex := 169, descriptorIndex := 12, attributes := #[] }, { accessFlags := 25, nameIndex := 171, descriptorIndex := 25, attributes := #[] }, { accessFlags := 25, nameIndex := 172, descriptorIndex := 12, attributes := #[] }, { accessFlags := 26, nameIndex := 66, descriptorIndex := 49, attributes := #[] }, { accessFlags := 18, nameIndex := 11, descriptorIndex := 12, attributes := #[] }, { accessFlags := 18, nameIndex := 14, descriptorIndex := 25, attributes := #[] }, { accessFlags := 18, nameIndex := 28, descriptorIndex := 12, attributes := #[] }, { accessFlags := 18, nameIndex := 31, descriptorIndex := 12, attributes := #[] }, { accessFlags := 18, nameIndex := 34, descriptorIndex := 12, attributes := #[] }, { accessFlags := 18, nameIndex := 37, descriptorIndex := 25, attributes := #[] }, { accessFlags := 18, nameIndex := 44, descriptorIndex := 45, attributes := #[] }, { accessFlags := 18, nameIndex := 47, descriptorIndex := 49, attributes := #[] }])
  fields := #[{ name := "FLAG_RESPONSE", type := .int, accessFlags := 25, slot := 0, constantValue := 0 }, { name := "FLAG_ONEWAY", type := .int, accessFlags := 25, slot := 1, constantValue := 0 }, { name := "LANGUAGE_JAVA", type := (.object "java/lang/String"), accessFlags := 25, slot := 2, constantValue := 0 }, { name := "VERSION", type := .int, accessFlags := 25, slot := 3, constantValue := 0 }, { name := "NO_BODY", type := (.array .byte), accessFlags := 26, slot := 4, constantValue := 0 }, { name := "code", type := .int, accessFlags := 18, slot := 0, constantValue := 0 }, { name := "language", type := (.object "java/lang/String"), accessFlags := 18, slot := 1, constantValue := 0 }, { name := "version", type := .int, accessFlags := 18, slot := 2, constantValue := 0 }, { name := "opaque", type := .int, accessFlags := 18, slot := 3, constantValue := 0 }, { name := "flag", type := .int, accessFlags := 18, slot := 4, constantValue := 0 }, { name := "remark", type := (.object "java/lang/String"), accessFlags := 18, slot := 5, constantValue := 0 }, { name := "fields", type := (.object "java/util/Map"), accessFlags := 18, slot := 6, constantValue := 0 }, { name := "body", type := (.array .byte), accessFlags := 18, slot := 7, constantValue := 0 }]
  methods := #[k9m0, k9m1, k9m2]
  instanceTypes := #[.int, (.object "java/lang/String"), .int, .int, .int, (.object "java/lang/String"), (.object "java/util/Map"), (.array .byte)]
  staticTypes := #[.int, .int, (.object "java/lang/String"), .int, (.array .byte)]
  resolved := Array.replicate 233 none
  statics := none }

def pool10 : Array CpInfo := pool [(2, .class_ 4), (1, u "java/util/Map"), (13, u "entrySet"), (0, u "()Ljava/util/Set;"), (16, .class_ 37), (0, u "java/util/Map$Entry"), (55, .class_ 94), (0, u "java/lang/Object")] 168

def k10m0 : Method := { name := "entrySet", desc := "()Ljava/util/Set;", sig := { parameters := [], returnType := some (.object "java/util/Set") }, accessFlags := 1025, code := none }
/-- java/util/Map -/
def k10 : Class := { plain "java/util/Map" (some 0) with
  accessFlags := 1537
  interfaces := #[]
  cf := some (fileOf pool10 2 #[.nestMembers #[36]] #[{ accessFlags := 1025, nameIndex := 18, descriptorIndex := 19, attributes := #[] }] 1537 93 #[] #[])
  fields := #[]
  methods := #[k10m0]
  instanceTypes := #[]
  staticTypes := #[]
  resolved := Array.replicate 263 none
  statics := none }

def pool11 : Array CpInfo := pool [(1, .methodref 2 3), (0, .class_ 4), (0, .nameAndType 5 6), (0, u "java/lang/Object"), (0, u "<init>"), (0, u "()V"), (1, .class_ 10), (1, u "java/util/AbstractMap"), (42, .class_ 54), (0, u "java/util/Map"), (9, u "keySet"), (0, u "Ljava/util/Set;"), (0, .class_ 67), (0, u "java/util/AbstractMap$1"), (5, u "values"), (0, u "Ljava/util/Collection;"), (0, .class_ 76), (0, u "java/util/AbstractMap$2"), (104, .class_ 182), (0, u "java/util/AbstractMap$ViewCollection"), (0, .class_ 184), (0, u "java/util/AbstractMap$SimpleImmutableEntry"), (0, .class_ 186), (0, u "java/util/AbstractMap$SimpleEntry"), (0, .class_ 188), (0, u "java/util/AbstractMap$2$1"), (0, .class_ 190), (0, u "java/util/AbstractMap$1$1")] 5

def k11c0 : Code := { maxStack := 1, maxLocals := 1, code := jdk_71_method_1_code, exceptionTable := #[], attributes := #[] }
def k11m0 : Method := { name := "<init>", desc := "()V", sig := { parameters := [], returnType := none }, accessFlags := 4, code := some k11c0 }
/-- java/util/AbstractMap -/
def k11 : Class := { plain "java/util/AbstractMap" (some 0) with
  accessFlags := 1057
  interfaces := #[10]
  cf := some (fileOf pool11 8 #[.nestMembers #[181, 183, 185, 75, 187, 66, 189]] #[{ accessFlags := 4, nameIndex := 5, descriptorIndex := 6, attributes := #[] }] 1057 2 #[53] #[{ accessFlags := 128, nameIndex := 64, descriptorIndex := 65, attributes := #[] }, { accessFlags := 128, nameIndex := 73, descriptorIndex := 74, attributes := #[] }])
  fields := #[{ name := "keySet", type := (.object "java/util/Set"), accessFlags := 128, slot := 0, constantValue := 0 }, { name := "values", type := (.object "java/util/Collection"), accessFlags := 128, slot := 1, constantValue := 0 }]
  methods := #[k11m0]
  instanceTypes := #[(.object "java/util/Set"), (.object "java/util/Collection")]
  staticTypes := #[]
  resolved := Array.replicate 196 none
  statics := none }

def pool12 : Array CpInfo := pool [(1, .class_ 2), (0, u "java/lang/Cloneable"), (0, .class_ 4), (0, u "java/lang/Object")] 2

/-- java/lang/Cloneable -/
def k12 : Class := { plain "java/lang/Cloneable" (some 0) with
  accessFlags := 1537
  interfaces := #[]
  cf := some (fileOf pool12 1 #[] #[] 1537 3 #[] #[])
  fields := #[]
  methods := #[]
  instanceTypes := #[]
  staticTypes := #[]
  resolved := Array.replicate 7 none
  statics := none }

def pool13 : Array CpInfo := pool [(40, .class_ 41), (0, u "java/util/HashMap"), (1, .methodref 44 45), (0, .class_ 46), (0, .nameAndType 47 48), (0, u "java/util/AbstractMap"), (0, u "<init>"), (0, u "()V"), (32, .fieldref 40 82), (0, .nameAndType 83 84), (0, u "loadFactor"), (0, u "F"), (5, u "threshold"), (0, u "I"), (0, .float 1061158912), (8, .class_ 103), (1, u "java/util/Map"), (0, u "size"), (2, u "table"), (0, u "[Ljava/util/HashMap$Node;"), (14, u "entrySet"), (0, u "()Ljava/util/Set;"), (38, .class_ 165), (1, u "java/util/HashMap$Node"), (14, .class_ 181), (0, u "java/util/HashMap$TreeNode"), (22, u "modCount"), (37, u "Ljava/util/Set;"), (0, .class_ 244), (0, u "java/util/HashMap$KeySet"), (1, .nameAndType 47 247), (0, u "(Ljava/util/HashMap;)V"), (15, .class_ 264), (0, u "java/util/HashMap$Values"), (1, .fieldref 40 267), (0, .nameAndType 123 242), (0, .class_ 269), (0, u "java/util/HashMap$EntrySet"), (0, .methodref 268 246), (75, .class_ 348), (1, u "java/util/HashMap$UnsafeHolder"), (43, .class_ 393), (0, u "java/lang/Cloneable"), (0, .class_ 395), (0, u "java/io/Serializable"), (0, u "serialVersionUID"), (0, u "J"), (3, u "DEFAULT_INITIAL_CAPACITY"), (1, u "MAXIMUM_CAPACITY"), (0, u "DEFAULT_LOAD_FACTOR"), (0, u "TREEIFY_THRESHOLD"), (1, u "UNTREEIFY_THRESHOLD"), (1, u "MIN_TREEIFY_CAPACITY"), (186, .class_ 597), (0, u "java/util/HashMap$EntrySpliterator"), (0, .class_ 599), (0, u "java/util/HashMap$ValueSpliterator"), (0, .class_ 601), (0, u "java/util/HashMap$KeySpliterator"), (0, .class_ 603), (0, u "java/util/HashMap$HashMapSpliterator"), (0, .class_ 605), (0, u "java/util/HashMap$EntryIterator"), (0, .class_ 607), (0, u "java/util/HashMap$ValueIterator"), (0, .class_ 609), (0, u "java/util/HashMap$KeyIterator"), (0, .class_ 611), (0, u "java/util/HashMap$HashIterator")] 17

def k13c0 : Code := { maxStack := 2, maxLocals := 1, code := jdk_69_method_7_code, exceptionTable := #[], attributes := #[] }
def k13m0 : Method := { name := "<init>", desc := "()V", sig := { parameters := [], returnType := none }, accessFlags := 1, code := some k13c0 }
def k13c1 : Code := { maxStack := 4, maxLocals := 2, code := jdk_69_method_29_code, exceptionTable := #[], attributes := #[] }
def k13m1 : Method := { name := "entrySet", desc := "()Ljava/util/Set;", sig := { parameters := [], returnType := some (.object "java/util/Set") }, accessFlags := 1, code := some k13c1 }
/-- java/util/HashMap -/
def k13 : Class := { plain "java/util/HashMap" (some 11) with
  accessFlags := 33
  interfaces := #[10, 12, 2]
  cf := some (fileOf pool13 40 #[.nestMembers #[180, 596, 598, 600, 602, 604, 606, 608, 610, 346, 268, 263, 243, 163]] #[{ accessFlags := 1, nameIndex := 47, descriptorIndex := 48, attributes := #[] }, { accessFlags := 1, nameIndex := 123, descriptorIndex := 124, attributes := #[] }] 33 44 #[101, 392, 394] #[{ accessFlags := 26, nameIndex := 396, descriptorIndex := 397, attributes := #[] }, { accessFlags := 24, nameIndex := 401, descriptorIndex := 91, attributes := #[] }, { accessFlags := 24, nameIndex := 403, descriptorIndex := 91, attributes := #[] }, { accessFlags := 24, nameIndex := 404, descriptorIndex := 84, attributes := #[] }, { accessFlags := 24, nameIndex := 405, descriptorIndex := 91, attributes := #[] }, { accessFlags := 24, nameIndex := 407, descriptorIndex := 91, attributes := #[] }, { accessFlags := 24, nameIndex := 409, descriptorIndex := 91, attributes := #[] }, { accessFlags := 128, nameIndex := 107, descriptorIndex := 108, attributes := #[] }, { accessFlags := 128, nameIndex := 123, descriptorIndex := 242, attributes := #[] }, { accessFlags := 128, nameIndex := 104, descriptorIndex := 91, attributes := #[] }, { accessFlags := 128, nameIndex := 204, descriptorIndex := 91, attributes := #[] }, { accessFlags := 0, nameIndex := 90, descriptorIndex := 91, attributes := #[] }, { accessFlags := 16, nameIndex := 83, descriptorIndex := 84, attributes := #[] }])
  fields := #[{ name := "serialVersionUID", type := .long, accessFlags := 26, slot := 0, constantValue := 0 }, { name := "DEFAULT_INITIAL_CAPACITY", type := .int, accessFlags := 24, slot := 1, constantValue := 0 }, { name := "MAXIMUM_CAPACITY", type := .int, accessFlags := 24, slot := 2, constantValue := 0 }, { name := "DEFAULT_LOAD_FACTOR", type := .float, accessFlags := 24, slot := 3, constantValue := 0 }, { name := "TREEIFY_THRESHOLD", type := .int, accessFlags := 24, slot := 4, constantValue := 0 }, { name := "UNTREEIFY_THRESHOLD", type := .int, accessFlags := 24, slot := 5, constantValue := 0 }, { name := "MIN_TREEIFY_CAPACITY", type := .int, accessFlags := 24, slot := 6, constantValue := 0 }, { name := "table", type := (.array (.object "java/util/HashMap$Node")), accessFlags := 128, slot := 2, constantValue := 0 }, { name := "entrySet", type := (.object "java/util/Set"), accessFlags := 128, slot := 3, constantValue := 0 }, { name := "size", type := .int, accessFlags := 128, slot := 4, constantValue := 0 }, { name := "modCount", type := .int, accessFlags := 128, slot := 5, constantValue := 0 }, { name := "threshold", type := .int, accessFlags := 0, slot := 6, constantValue := 0 }, { name := "loadFactor", type := .float, accessFlags := 16, slot := 7, constantValue := 0 }]
  methods := #[k13m0, k13m1]
  instanceTypes := #[(.object "java/util/Set"), (.object "java/util/Collection"), (.array (.object "java/util/HashMap$Node")), (.object "java/util/Set"), .int, .int, .int, .float]
  staticTypes := #[.long, .int, .int, .float, .int, .int, .int]
  resolved := Array.replicate 629 none
  statics := none }

def pool14 : Array CpInfo := pool [(2, .class_ 4), (1, u "java/lang/Object"), (0, u "<init>"), (0, u "()V"), (35, .class_ 44), (1, u "java/util/Objects"), (0, u "requireNonNull"), (48, u "(Ljava/lang/Object;Ljava/lang/String;)Ljava/lang/Object;")] 89

def k14m0 : Method := { name := "<init>", desc := "()V", sig := { parameters := [], returnType := none }, accessFlags := 2, code := none }
def k14c1 : Code := { maxStack := 3, maxLocals := 2, code := jdk_31_method_11_code, exceptionTable := #[], attributes := #[] }
def k14m1 : Method := { name := "requireNonNull", desc := "(Ljava/lang/Object;Ljava/lang/String;)Ljava/lang/Object;", sig := { parameters := [(.object "java/lang/Object"), (.object "java/lang/String")], returnType := some (.object "java/lang/Object") }, accessFlags := 9, code := some k14c1 }
/-- java/util/Objects -/
def k14 : Class := { plain "java/util/Objects" (some 0) with
  accessFlags := 49
  interfaces := #[]
  cf := some (fileOf pool14 42 #[] #[{ accessFlags := 2, nameIndex := 5, descriptorIndex := 6, attributes := #[] }, { accessFlags := 9, nameIndex := 45, descriptorIndex := 94, attributes := #[] }] 49 2 #[] #[])
  fields := #[]
  methods := #[k14m0, k14m1]
  instanceTypes := #[]
  staticTypes := #[]
  resolved := Array.replicate 184 none
  statics := none }

def pool15 : Array CpInfo := pool [(2, .class_ 4), (1, u "java/util/SequencedMap"), (38, .class_ 44), (0, u "java/util/SequencedMap$1SeqKeySet"), (3, .class_ 49), (0, u "java/util/SequencedMap$1SeqValues"), (1, .class_ 52), (0, u "java/util/SequencedMap$1SeqEntrySet"), (1, .class_ 55), (0, u "java/lang/Object"), (0, .class_ 57), (0, u "java/util/Map")] 48

/-- java/util/SequencedMap -/
def k15 : Class := { plain "java/util/SequencedMap" (some 0) with
  accessFlags := 1537
  interfaces := #[10]
  cf := some (fileOf pool15 2 #[.nestMembers #[51, 48, 43]] #[] 1537 54 #[56] #[])
  fields := #[]
  methods := #[]
  instanceTypes := #[]
  staticTypes := #[]
  resolved := Array.replicate 106 none
  statics := none }

def pool16 : Array CpInfo := pool [(1, .fieldref 2 3), (0, .class_ 4), (0, .nameAndType 5 6), (0, u "java/util/LinkedHashMap"), (0, u "putMode"), (0, u "I"), (2, u "head"), (0, u "Ljava/util/LinkedHashMap$Entry;"), (2, u "tail"), (1, .class_ 17), (1, u "java/util/LinkedHashMap$Entry"), (5, .class_ 25), (1, u "java/util/HashMap"), (1, u "()V"), (2, u "<init>"), (33, .fieldref 2 65), (0, .nameAndType 66 67), (0, u "accessOrder"), (0, u "Z"), (19, .methodref 23 88), (0, .nameAndType 30 27), (32, .class_ 122), (0, u "java/util/LinkedHashMap$LinkedKeySet"), (20, .class_ 144), (0, u "java/util/LinkedHashMap$LinkedValues"), (9, .class_ 155), (0, u "java/util/LinkedHashMap$LinkedEntrySet"), (44, .class_ 201), (0, u "java/util/LinkedHashMap$ReversedLinkedHashMapView"), (3, .class_ 206), (0, u "java/util/SequencedMap"), (0, u "serialVersionUID"), (0, u "J"), (5, u "PUT_NORM"), (1, u "PUT_FIRST"), (1, u "PUT_LAST"), (143, .class_ 363), (0, u "java/util/LinkedHashMap$LinkedEntryIterator"), (0, .class_ 365), (0, u "java/util/LinkedHashMap$LinkedValueIterator"), (0, .class_ 367), (0, u "java/util/LinkedHashMap$LinkedKeyIterator"), (0, .class_ 369), (0, u "java/util/LinkedHashMap$LinkedHashIterator")] 16

def k16c0 : Code := { maxStack := 2, maxLocals := 1, code := jdk_94_method_16_code, exceptionTable := #[], attributes := #[] }
def k16m0 : Method := { name := "<init>", desc := "()V", sig := { parameters := [], returnType := none }, accessFlags := 1, code := some k16c0 }
/-- java/util/LinkedHashMap -/
def k16 : Class := { plain "java/util/LinkedHashMap" (some 13) with
  accessFlags := 33
  interfaces := #[15]
  cf := some (fileOf pool16 2 #[.nestMembers #[200, 362, 364, 366, 368, 154, 143, 121, 15]] #[{ accessFlags := 1, nameIndex := 30, descriptorIndex := 27, attributes := #[] }] 33 23 #[205] #[{ accessFlags := 26, nameIndex := 207, descriptorIndex := 208, attributes := #[] }, { accessFlags := 128, nameIndex := 9, descriptorIndex := 10, attributes := #[] }, { accessFlags := 128, nameIndex := 13, descriptorIndex := 10, attributes := #[] }, { accessFlags := 16, nameIndex := 66, descriptorIndex := 67, attributes := #[] }, { accessFlags := 24, nameIndex := 214, descriptorIndex := 6, attributes := #[] }, { accessFlags := 24, nameIndex := 216, descriptorIndex := 6, attributes := #[] }, { accessFlags := 24, nameIndex := 218, descriptorIndex := 6, attributes := #[] }, { accessFlags := 128, nameIndex := 5, descriptorIndex := 6, attributes := #[] }])
  fields := #[{ name := "serialVersionUID", type := .long, accessFlags := 26, slot := 0, constantValue := 0 }, { name := "head", type := (.object "java/util/LinkedHashMap$Entry"), accessFlags := 128, slot := 8, constantValue := 0 }, { name := "tail", type := (.object "java/util/LinkedHashMap$Entry"), accessFlags := 128, slot := 9, constantValue := 0 }, { name := "accessOrder", type := .boolean, accessFlags := 16, slot := 10, constantValue := 0 }, { name := "PUT_NORM", type := .int, accessFlags := 24, slot := 1, constantValue := 0 }, { name := "PUT_FIRST", type := .int, accessFlags := 24, slot := 2, constantValue := 0 }, { name := "PUT_LAST", type := .int, accessFlags := 24, slot := 3, constantValue := 0 }, { name := "putMode", type := .int, accessFlags := 128, slot := 11, constantValue := 0 }]
  methods := #[k16m0]
  instanceTypes := #[(.object "java/util/Set"), (.object "java/util/Collection"), (.array (.object "java/util/HashMap$Node")), (.object "java/util/Set"), .int, .int, .int, .float, (.object "java/util/LinkedHashMap$Entry"), (.object "java/util/LinkedHashMap$Entry"), .boolean, .int]
  staticTypes := #[.long, .int, .int, .int]
  resolved := Array.replicate 386 none
  mirror := some 2
  statics := none }

def pool17 : Array CpInfo := pool [(8, .class_ 10), (1, u "java/lang/Iterable"), (24, .class_ 36), (0, u "java/lang/Object")] 25

/-- java/lang/Iterable -/
def k17 : Class := { plain "java/lang/Iterable" (some 0) with
  accessFlags := 1537
  interfaces := #[]
  cf := some (fileOf pool17 8 #[] #[] 1537 35 #[] #[])
  fields := #[]
  methods := #[]
  instanceTypes := #[]
  staticTypes := #[]
  resolved := Array.replicate 62 none
  statics := none }

def pool18 : Array CpInfo := pool [(10, .class_ 12), (1, u "java/util/Collection"), (47, .class_ 61), (0, u "java/lang/Object"), (0, .class_ 63), (0, u "java/lang/Iterable")] 51

/-- java/util/Collection -/
def k18 : Class := { plain "java/util/Collection" (some 0) with
  accessFlags := 1537
  interfaces := #[17]
  cf := some (fileOf pool18 10 #[] #[] 1537 60 #[62] #[])
  fields := #[]
  methods := #[]
  instanceTypes := #[]
  staticTypes := #[]
  resolved := Array.replicate 115 none
  statics := none }

def pool19 : Array CpInfo := pool [(1, .methodref 2 3), (0, .class_ 4), (0, .nameAndType 5 6), (0, u "java/lang/Object"), (0, u "<init>"), (0, u "()V"), (1, .class_ 10), (1, u "java/util/AbstractCollection"), (66, .class_ 78), (0, u "java/util/Collection")] 81

def k19c0 : Code := { maxStack := 1, maxLocals := 1, code := jdk_22_method_1_code, exceptionTable := #[], attributes := #[] }
def k19m0 : Method := { name := "<init>", desc := "()V", sig := { parameters := [], returnType := none }, accessFlags := 4, code := some k19c0 }
/-- java/util/AbstractCollection -/
def k19 : Class := { plain "java/util/AbstractCollection" (some 0) with
  accessFlags := 1057
  interfaces := #[18]
  cf := some (fileOf pool19 8 #[] #[{ accessFlags := 4, nameIndex := 5, descriptorIndex := 6, attributes := #[] }] 1057 2 #[77] #[])
  fields := #[]
  methods := #[k19m0]
  instanceTypes := #[]
  staticTypes := #[]
  resolved := Array.replicate 160 none
  statics := none }

def pool20 : Array CpInfo := pool [(26, .class_ 27), (0, u "java/lang/Object"), (5, .class_ 34), (0, u "java/util/Set"), (1, .class_ 38), (1, u "java/util/Collection"), (22, u "iterator"), (0, u "()Ljava/util/Iterator;")] 81

def k20m0 : Method := { name := "iterator", desc := "()Ljava/util/Iterator;", sig := { parameters := [], returnType := some (.object "java/util/Iterator") }, accessFlags := 1025, code := none }
/-- java/util/Set -/
def k20 : Class := { plain "java/util/Set" (some 0) with
  accessFlags := 1537
  interfaces := #[18]
  cf := some (fileOf pool20 33 #[] #[{ accessFlags := 1025, nameIndex := 61, descriptorIndex := 62, attributes := #[] }] 1537 26 #[36] #[])
  fields := #[]
  methods := #[k20m0]
  instanceTypes := #[]
  staticTypes := #[]
  resolved := Array.replicate 144 none
  statics := none }

def pool21 : Array CpInfo := pool [(1, .methodref 2 3), (0, .class_ 4), (0, .nameAndType 5 6), (0, u "java/util/AbstractCollection"), (0, u "<init>"), (0, u "()V"), (0, .class_ 8), (0, u "java/util/Set"), (7, .class_ 17), (0, u "java/util/AbstractSet")] 78

def k21c0 : Code := { maxStack := 1, maxLocals := 1, code := jdk_91_method_1_code, exceptionTable := #[], attributes := #[] }
def k21m0 : Method := { name := "<init>", desc := "()V", sig := { parameters := [], returnType := none }, accessFlags := 4, code := some k21c0 }
/-- java/util/AbstractSet -/
def k21 : Class := { plain "java/util/AbstractSet" (some 19) with
  accessFlags := 1057
  interfaces := #[20]
  cf := some (fileOf pool21 16 #[] #[{ accessFlags := 4, nameIndex := 5, descriptorIndex := 6, attributes := #[] }] 1057 2 #[7] #[])
  fields := #[]
  methods := #[k21m0]
  instanceTypes := #[]
  staticTypes := #[]
  resolved := Array.replicate 96 none
  statics := none }

def pool22 : Array CpInfo := pool [(1, .fieldref 2 3), (0, .class_ 4), (0, .nameAndType 5 6), (0, u "java/util/HashMap$EntrySet"), (0, u "this$0"), (0, u "Ljava/util/HashMap;"), (0, .methodref 8 9), (0, .class_ 10), (0, .nameAndType 11 12), (0, u "java/util/AbstractSet"), (0, u "<init>"), (0, u "()V"), (1, .class_ 16), (1, u "java/util/HashMap"), (5, .class_ 23), (0, u "java/util/HashMap$EntryIterator"), (0, .methodref 22 25), (0, .nameAndType 11 26), (0, u "(Ljava/util/HashMap;)V"), (64, u "iterator"), (0, u "()Ljava/util/Iterator;")] 41

def k22c0 : Code := { maxStack := 2, maxLocals := 2, code := jdk_111_method_1_code, exceptionTable := #[], attributes := #[] }
def k22m0 : Method := { name := "<init>", desc := "(Ljava/util/HashMap;)V", sig := { parameters := [(.object "java/util/HashMap")], returnType := none }, accessFlags := 0, code := some k22c0 }
def k22c1 : Code := { maxStack := 3, maxLocals := 1, code := jdk_111_method_4_code, exceptionTable := #[], attributes := #[] }
def k22m1 : Method := { name := "iterator", desc := "()Ljava/util/Iterator;", sig := { parameters := [], returnType := some (.object "java/util/Iterator") }, accessFlags := 17, code := some k22c1 }
/-- java/util/HashMap$EntrySet -/
def k22 : Class := { plain "java/util/HashMap$EntrySet" (some 21) with
  accessFlags := 48
  interfaces := #[]
  cf := some (fileOf pool22 2 #[.nestHost 14] #[{ accessFlags := 0, nameIndex := 11, descriptorIndex := 26, attributes := #[] }, { accessFlags := 17, nameIndex := 91, descriptorIndex := 92, attributes := #[] }] 48 8 #[] #[{ accessFlags := 4112, nameIndex := 5, descriptorIndex := 6, attributes := #[] }])
  fields := #[{ name := "this$0", type := (.object "java/util/HashMap"), accessFlags := 4112, slot := 0, constantValue := 0 }]
  methods := #[k22m0, k22m1]
  instanceTypes := #[(.object "java/util/HashMap")]
  staticTypes := #[]
  resolved := Array.replicate 134 none
  statics := none }

def pool23 : Array CpInfo := pool [(1, .fieldref 2 3), (0, .class_ 4), (0, .nameAndType 5 6), (0, u "java/util/HashMap$HashIterator"), (0, u "this$0"), (0, u "Ljava/util/HashMap;"), (0, .methodref 8 9), (0, .class_ 10), (0, .nameAndType 11 12), (0, u "java/lang/Object"), (0, u "<init>"), (0, u "()V"), (0, .fieldref 14 15), (0, .class_ 16), (0, .nameAndType 17 18), (0, u "java/util/HashMap"), (0, u "modCount"), (0, u "I"), (0, .fieldref 2 20), (0, .nameAndType 21 18), (0, u "expectedModCount"), (0, .fieldref 14 23), (0, .nameAndType 24 25), (0, u "table"), (0, u "[Ljava/util/HashMap$Node;"), (0, .fieldref 2 27), (0, .nameAndType 28 29), (0, u "next"), (0, u "Ljava/util/HashMap$Node;"), (0, .fieldref 2 31), (0, .nameAndType 32 29), (0, u "current"), (0, .fieldref 2 34), (0, .nameAndType 35 18), (0, u "index"), (28, u "(Ljava/util/HashMap;)V"), (12, u "hasNext"), (0, u "()Z")] 12

def k23c0 : Code := { maxStack := 6, maxLocals := 3, code := jdk_99_method_1_code, exceptionTable := #[], attributes := #[] }
def k23m0 : Method := { name := "<init>", desc := "(Ljava/util/HashMap;)V", sig := { parameters := [(.object "java/util/HashMap")], returnType := none }, accessFlags := 0, code := some k23c0 }
def k23c1 : Code := { maxStack := 1, maxLocals := 1, code := jdk_99_method_2_code, exceptionTable := #[], attributes := #[] }
def k23m1 : Method := { name := "hasNext", desc := "()Z", sig := { parameters := [], returnType := some .boolean }, accessFlags := 17, code := some k23c1 }
/-- java/util/HashMap$HashIterator -/
def k23 : Class := { plain "java/util/HashMap$HashIterator" (some 0) with
  accessFlags := 1056
  interfaces := #[]
  cf := some (fileOf pool23 2 #[.nestHost 14] #[{ accessFlags := 0, nameIndex := 11, descriptorIndex := 64, attributes := #[] }, { accessFlags := 17, nameIndex := 77, descriptorIndex := 78, attributes := #[] }] 1056 8 #[] #[{ accessFlags := 0, nameIndex := 28, descriptorIndex := 29, attributes := #[] }, { accessFlags := 0, nameIndex := 32, descriptorIndex := 29, attributes := #[] }, { accessFlags := 0, nameIndex := 21, descriptorIndex := 18, attributes := #[] }, { accessFlags := 0, nameIndex := 35, descriptorIndex := 18, attributes := #[] }, { accessFlags := 4112, nameIndex := 5, descriptorIndex := 6, attributes := #[] }])
  fields := #[{ name := "next", type := (.object "java/util/HashMap$Node"), accessFlags := 0, slot := 0, constantValue := 0 }, { name := "current", type := (.object "java/util/HashMap$Node"), accessFlags := 0, slot := 1, constantValue := 0 }, { name := "expectedModCount", type := .int, accessFlags := 0, slot := 2, constantValue := 0 }, { name := "index", type := .int, accessFlags := 0, slot := 3, constantValue := 0 }, { name := "this$0", type := (.object "java/util/HashMap"), accessFlags := 4112, slot := 4, constantValue := 0 }]
  methods := #[k23m0, k23m1]
  instanceTypes := #[(.object "java/util/HashMap$Node"), (.object "java/util/HashMap$Node"), .int, .int, (.object "java/util/HashMap")]
  staticTypes := #[]
  resolved := Array.replicate 91 none
  statics := none }

def pool24 : Array CpInfo := pool [(16, .class_ 18), (1, u "java/util/Iterator"), (0, u "hasNext"), (0, u "()Z"), (10, .class_ 32), (0, u "java/lang/Object")] 20

def k24m0 : Method := { name := "hasNext", desc := "()Z", sig := { parameters := [], returnType := some .boolean }, accessFlags := 1025, code := none }
/-- java/util/Iterator -/
def k24 : Class := { plain "java/util/Iterator" (some 0) with
  accessFlags := 1537
  interfaces := #[]
  cf := some (fileOf pool24 16 #[] #[{ accessFlags := 1025, nameIndex := 19, descriptorIndex := 20, attributes := #[] }] 1537 31 #[] #[])
  fields := #[]
  methods := #[k24m0]
  instanceTypes := #[]
  staticTypes := #[]
  resolved := Array.replicate 53 none
  statics := none }

def pool25 : Array CpInfo := pool [(1, .methodref 2 3), (0, .class_ 4), (0, .nameAndType 5 6), (0, u "java/util/HashMap$HashIterator"), (0, u "<init>"), (0, u "(Ljava/util/HashMap;)V"), (1, .class_ 10), (1, u "java/util/HashMap$EntryIterator"), (6, .class_ 18), (0, u "java/util/Iterator"), (17, .class_ 37), (0, u "java/util/HashMap")] 11

def k25c0 : Code := { maxStack := 2, maxLocals := 2, code := jdk_142_method_1_code, exceptionTable := #[], attributes := #[] }
def k25m0 : Method := { name := "<init>", desc := "(Ljava/util/HashMap;)V", sig := { parameters := [(.object "java/util/HashMap")], returnType := none }, accessFlags := 0, code := some k25c0 }
/-- java/util/HashMap$EntryIterator -/
def k25 : Class := { plain "java/util/HashMap$EntryIterator" (some 23) with
  accessFlags := 48
  interfaces := #[24]
  cf := some (fileOf pool25 8 #[.nestHost 36] #[{ accessFlags := 0, nameIndex := 5, descriptorIndex := 6, attributes := #[] }] 48 2 #[17] #[])
  fields := #[]
  methods := #[k25m0]
  instanceTypes := #[(.object "java/util/HashMap$Node"), (.object "java/util/HashMap$Node"), .int, .int, (.object "java/util/HashMap")]
  staticTypes := #[]
  resolved := Array.replicate 49 none
  statics := none }

def pool26 : Array CpInfo := pool [(2, .class_ 4), (1, u "java/lang/Object"), (0, u "<init>"), (0, u "()V"), (12, .class_ 20), (0, u "java/util/Collections"), (63, u "r"), (0, u "Ljava/util/Random;"), (77, .nameAndType 164 165), (0, u "getClass"), (0, u "()Ljava/lang/Class;"), (0, .class_ 167), (0, u "java/util/Collections$UnmodifiableCollection"), (6, .class_ 175), (0, u "java/util/Collections$UnmodifiableSequencedCollection"), (6, .class_ 183), (0, u "java/util/Collections$UnmodifiableSet"), (6, .class_ 191), (0, u "java/util/Collections$UnmodifiableSequencedSet"), (6, .class_ 199), (0, u "java/util/Collections$UnmodifiableSortedSet"), (6, .class_ 207), (0, u "java/util/Collections$UnmodifiableNavigableSet"), (4, .class_ 213), (0, u "java/util/Collections$UnmodifiableList"), (1, .class_ 216), (0, u "java/util/Collections$UnmodifiableRandomAccessList"), (3, .interfaceMethodref 221 163), (0, .class_ 222), (0, u "java/util/Map"), (0, .class_ 224), (0, u "java/util/Collections$UnmodifiableMap"), (0, .methodref 223 226), (0, .nameAndType 5 227), (0, u "(Ljava/util/Map;)V"), (3, .class_ 232), (0, u "java/util/Collections$UnmodifiableSequencedMap"), (4, .class_ 238), (0, u "java/util/Collections$UnmodifiableSortedMap"), (6, .class_ 246), (0, u "java/util/Collections$UnmodifiableNavigableMap"), (3, .class_ 251), (0, u "java/util/Collections$SynchronizedCollection"), (4, .class_ 257), (0, u "java/util/Collections$SynchronizedSet"), (4, .class_ 263), (0, u "java/util/Collections$SynchronizedSortedSet"), (1, .class_ 266), (0, u "java/util/Collections$SynchronizedNavigableSet"), (1, .class_ 269), (0, u "java/util/Collections$SynchronizedRandomAccessList"), (1, .class_ 272), (0, u "java/util/Collections$SynchronizedList"), (5, .class_ 279), (0, u "java/util/Collections$SynchronizedMap"), (1, .class_ 282), (0, u "java/util/Collections$SynchronizedSortedMap"), (1, .class_ 285), (0, u "java/util/Collections$SynchronizedNavigableMap"), (1, .class_ 288), (0, u "java/util/Collections$CheckedCollection"), (11, .class_ 301), (0, u "java/util/Collections$CheckedQueue"), (3, .class_ 306), (0, u "java/util/Collections$CheckedSet"), (3, .class_ 311), (0, u "java/util/Collections$CheckedSortedSet"), (3, .class_ 316), (0, u "java/util/Collections$CheckedNavigableSet"), (3, .class_ 321), (0, u "java/util/Collections$CheckedRandomAccessList"), (3, .class_ 326), (0, u "java/util/Collections$CheckedList"), (1, .class_ 329), (0, u "java/util/Collections$CheckedMap"), (3, .class_ 334), (0, u "java/util/Collections$CheckedSortedMap"), (3, .class_ 339), (0, u "java/util/Collections$CheckedNavigableMap"), (4, .class_ 346), (1, u "java/util/Collections$EmptyIterator"), (3, .class_ 352), (1, u "java/util/Collections$EmptyListIterator"), (2, .class_ 357), (1, u "java/util/Collections$EmptyEnumeration"), (4, u "EMPTY_SET"), (0, u "Ljava/util/Set;"), (6, u "EMPTY_LIST"), (0, u "Ljava/util/List;"), (2, u "EMPTY_MAP"), (0, u "Ljava/util/Map;"), (4, .class_ 381), (0, u "java/util/Collections$SingletonSet"), (2, .class_ 385), (0, u "java/util/Collections$1"), (1, .class_ 388), (0, u "java/util/Collections$2"), (1, .class_ 391), (0, u "java/util/Collections$SingletonList"), (1, .class_ 394), (0, u "java/util/Collections$SingletonMap"), (22, .class_ 418), (0, u "java/util/Collections$CopiesList"), (4, .class_ 425), (1, u "java/util/Collections$ReverseComparator"), (8, .class_ 435), (0, u "java/util/Collections$ReverseComparator2"), (6, .class_ 443), (0, u "java/util/Collections$3"), (25, .class_ 470), (0, u "java/util/Collections$SetFromMap"), (2, .class_ 474), (0, u "java/util/Collections$SequencedSetFromMap"), (3, .class_ 479), (0, u "java/util/Collections$AsLIFOQueue"), (11, .class_ 492), (0, u "java/util/Collections$EmptySet"), (1, .class_ 495), (0, u "java/util/Collections$EmptyList"), (1, .class_ 498), (0, u "java/util/Collections$EmptyMap"), (1, u "BINARYSEARCH_THRESHOLD"), (0, u "I"), (2, u "REVERSE_THRESHOLD"), (1, u "SHUFFLE_THRESHOLD"), (1, u "FILL_THRESHOLD"), (1, u "ROTATE_THRESHOLD"), (1, u "COPY_THRESHOLD"), (1, u "REPLACEALL_THRESHOLD"), (1, u "INDEXOFSUBLIST_THRESHOLD"), (132, u "unmodifiableMap"), (0, u "(Ljava/util/Map;)Ljava/util/Map;"), (199, .class_ 851), (0, u "java/util/Collections$CheckedMap$CheckedEntrySet"), (0, .class_ 853), (0, u "java/util/Collections$CheckedMap$CheckedEntrySet$CheckedEntry"), (0, .class_ 855), (0, u "java/util/Collections$CheckedMap$CheckedEntrySet$1"), (0, .class_ 857), (0, u "java/util/Collections$CheckedList$1"), (0, .class_ 859), (0, u "java/util/Collections$CheckedCollection$1"), (0, .class_ 861), (0, u "java/util/Collections$UnmodifiableNavigableMap$EmptyNavigableMap"), (0, .class_ 863), (0, u "java/util/Collections$UnmodifiableMap$UnmodifiableEntrySet"), (0, .class_ 865), (0, u "java/util/Collections$UnmodifiableMap$UnmodifiableEntrySet$UnmodifiableEntry"), (0, .class_ 867), (0, u "java/util/Collections$UnmodifiableMap$UnmodifiableEntrySet$UnmodifiableEntrySetSpliterator"), (0, .class_ 869), (0, u "java/util/Collections$UnmodifiableMap$UnmodifiableEntrySet$1"), (0, .class_ 871), (0, u "java/util/Collections$UnmodifiableList$1"), (0, .class_ 873), (0, u "java/util/Collections$UnmodifiableNavigableSet$EmptyNavigableSet"), (0, .class_ 875), (0, u "java/util/Collections$UnmodifiableCollection$1")] 57

def k26m0 : Method := { name := "<init>", desc := "()V", sig := { parameters := [], returnType := none }, accessFlags := 2, code := none }
def k26c1 : Code := { maxStack := 3, maxLocals := 1, code := jdk_79_method_36_code, exceptionTable := #[], attributes := #[] }
def k26m1 : Method := { name := "unmodifiableMap", desc := "(Ljava/util/Map;)Ljava/util/Map;", sig := { parameters := [(.object "java/util/Map")], returnType := some (.object "java/util/Map") }, accessFlags := 9, code := some k26c1 }
/-- java/util/Collections -/
def k26 : Class := { plain "java/util/Collections" (some 0) with
  accessFlags := 33
  interfaces := #[]
  cf := some (fileOf pool26 19 #[.nestMembers #[478, 473, 469, 434, 423, 417, 393, 390, 380, 497, 494, 491, 355, 350, 344, 338, 333, 328, 850, 852, 854, 320, 325, 856, 315, 310, 305, 300, 287, 858, 284, 281, 278, 268, 271, 265, 262, 256, 250, 245, 860, 237, 231, 223, 862, 864, 866, 868, 215, 212, 870, 206, 872, 198, 190, 182, 174, 166, 874, 442, 387, 384]] #[{ accessFlags := 2, nameIndex := 5, descriptorIndex := 6, attributes := #[] }, { accessFlags := 9, nameIndex := 649, descriptorIndex := 650, attributes := #[] }] 33 2 #[] #[{ accessFlags := 26, nameIndex := 500, descriptorIndex := 501, attributes := #[] }, { accessFlags := 26, nameIndex := 504, descriptorIndex := 501, attributes := #[] }, { accessFlags := 26, nameIndex := 506, descriptorIndex := 501, attributes := #[] }, { accessFlags := 26, nameIndex := 508, descriptorIndex := 501, attributes := #[] }, { accessFlags := 26, nameIndex := 510, descriptorIndex := 501, attributes := #[] }, { accessFlags := 26, nameIndex := 512, descriptorIndex := 501, attributes := #[] }, { accessFlags := 26, nameIndex := 514, descriptorIndex := 501, attributes := #[] }, { accessFlags := 26, nameIndex := 516, descriptorIndex := 501, attributes := #[] }, { accessFlags := 10, nameIndex := 84, descriptorIndex := 85, attributes := #[] }, { accessFlags := 25, nameIndex := 362, descriptorIndex := 363, attributes := #[] }, { accessFlags := 25, nameIndex := 370, descriptorIndex := 371, attributes := #[] }, { accessFlags := 25, nameIndex := 374, descriptorIndex := 375, attributes := #[] }])
  fields := #[{ name := "BINARYSEARCH_THRESHOLD", type := .int, accessFlags := 26, slot := 0, constantValue := 0 }, { name := "REVERSE_THRESHOLD", type := .int, accessFlags := 26, slot := 1, constantValue := 0 }, { name := "SHUFFLE_THRESHOLD", type := .int, accessFlags := 26, slot := 2, constantValue := 0 }, { name := "FILL_THRESHOLD", type := .int, accessFlags := 26, slot := 3, constantValue := 0 }, { name := "ROTATE_THRESHOLD", type := .int, accessFlags := 26, slot := 4, constantValue := 0 }, { name := "COPY_THRESHOLD", type := .int, accessFlags := 26, slot := 5, constantValue := 0 }, { name := "REPLACEALL_THRESHOLD", type := .int, accessFlags := 26, slot := 6, constantValue := 0 }, { name := "INDEXOFSUBLIST_THRESHOLD", type := .int, accessFlags := 26, slot := 7, constantValue := 0 }, { name := "r", type := (.object "java/util/Random"), accessFlags := 10, slot := 8, constantValue := 0 }, { name := "EMPTY_SET", type := (.object "java/util/Set"), accessFlags := 25, slot := 9, constantValue := 0 }, { name := "EMPTY_LIST", type := (.object "java/util/List"), accessFlags := 25, slot := 10, constantValue := 0 }, { name := "EMPTY_MAP", type := (.object "java/util/Map"), accessFlags := 25, slot := 11, constantValue := 0 }]
  methods := #[k26m0, k26m1]
  instanceTypes := #[]
  staticTypes := #[.int, .int, .int, .int, .int, .int, .int, .int, (.object "java/util/Random"), (.object "java/util/Set"), (.object "java/util/List"), (.object "java/util/Map")]
  resolved := Array.replicate 933 none
  statics := none }

def pool27 : Array CpInfo := pool [(1, .methodref 2 3), (0, .class_ 4), (0, .nameAndType 5 6), (0, u "java/lang/Object"), (0, u "<init>"), (0, u "()V"), (3, .fieldref 11 12), (0, .class_ 13), (0, .nameAndType 14 15), (0, u "java/util/Collections$UnmodifiableMap"), (0, u "m"), (0, u "Ljava/util/Map;"), (1, .class_ 19), (1, u "java/util/Map"), (22, u "keySet"), (0, u "Ljava/util/Set;"), (4, .class_ 50), (1, u "java/util/Collections"), (4, u "entrySet"), (9, u "values"), (0, u "Ljava/util/Collection;"), (25, .class_ 93), (0, u "java/io/Serializable"), (0, u "serialVersionUID"), (0, u "J"), (8, u "(Ljava/util/Map;)V")] 70

def k27c0 : Code := { maxStack := 2, maxLocals := 2, code := jdk_2500_method_1_code, exceptionTable := #[], attributes := #[] }
def k27m0 : Method := { name := "<init>", desc := "(Ljava/util/Map;)V", sig := { parameters := [(.object "java/util/Map")], returnType := none }, accessFlags := 0, code := some k27c0 }
/-- java/util/Collections$UnmodifiableMap -/
def k27 : Class := { plain "java/util/Collections$UnmodifiableMap" (some 0) with
  accessFlags := 32
  interfaces := #[10, 2]
  cf := some (fileOf pool27 11 #[.nestHost 48] #[{ accessFlags := 0, nameIndex := 5, descriptorIndex := 104, attributes := #[] }] 32 2 #[17, 92] #[{ accessFlags := 26, nameIndex := 94, descriptorIndex := 95, attributes := #[] }, { accessFlags := 16, nameIndex := 14, descriptorIndex := 15, attributes := #[] }, { accessFlags := 130, nameIndex := 42, descriptorIndex := 43, attributes := #[] }, { accessFlags := 130, nameIndex := 55, descriptorIndex := 43, attributes := #[] }, { accessFlags := 130, nameIndex := 65, descriptorIndex := 66, attributes := #[] }])
  fields := #[{ name := "serialVersionUID", type := .long, accessFlags := 26, slot := 0, constantValue := 0 }, { name := "m", type := (.object "java/util/Map"), accessFlags := 16, slot := 0, constantValue := 0 }, { name := "keySet", type := (.object "java/util/Set"), accessFlags := 130, slot := 1, constantValue := 0 }, { name := "entrySet", type := (.object "java/util/Set"), accessFlags := 130, slot := 2, constantValue := 0 }, { name := "values", type := (.object "java/util/Collection"), accessFlags := 130, slot := 3, constantValue := 0 }]
  methods := #[k27m0]
  instanceTypes := #[(.object "java/util/Map"), (.object "java/util/Set"), (.object "java/util/Set"), (.object "java/util/Collection")]
  staticTypes := #[.long]
  resolved := Array.replicate 175 none
  mirror := some 3
  statics := none }

def pool28 : Array CpInfo := pool [(2, .class_ 4), (1, u "java/lang/Object"), (0, u "<init>"), (0, u "()V"), (17, .class_ 26), (1, u "jdk/internal/util/Preconditions"), (28, .class_ 56), (0, u "jdk/internal/util/Preconditions$4"), (57, .class_ 115), (0, u "jdk/internal/util/Preconditions$1"), (7, u "SIOOBE_FORMATTER"), (0, u "Ljava/util/function/BiFunction;"), (0, .class_ 126), (0, u "jdk/internal/util/Preconditions$2"), (3, u "AIOOBE_FORMATTER"), (0, .class_ 132), (0, u "jdk/internal/util/Preconditions$3"), (3, u "IOOBE_FORMATTER")] 57

def k28m0 : Method := { name := "<init>", desc := "()V", sig := { parameters := [], returnType := none }, accessFlags := 1, code := none }
/-- jdk/internal/util/Preconditions -/
def k28 : Class := { plain "jdk/internal/util/Preconditions" (some 0) with
  accessFlags := 33
  interfaces := #[]
  cf := some (fileOf pool28 24 #[.nestMembers #[55, 131, 125, 114]] #[{ accessFlags := 1, nameIndex := 5, descriptorIndex := 6, attributes := #[] }] 33 2 #[] #[{ accessFlags := 25, nameIndex := 123, descriptorIndex := 124, attributes := #[] }, { accessFlags := 25, nameIndex := 130, descriptorIndex := 124, attributes := #[] }, { accessFlags := 25, nameIndex := 136, descriptorIndex := 124, attributes := #[] }])
  fields := #[{ name := "SIOOBE_FORMATTER", type := (.object "java/util/function/BiFunction"), accessFlags := 25, slot := 0, constantValue := 0 }, { name := "AIOOBE_FORMATTER", type := (.object "java/util/function/BiFunction"), accessFlags := 25, slot := 1, constantValue := 0 }, { name := "IOOBE_FORMATTER", type := (.object "java/util/function/BiFunction"), accessFlags := 25, slot := 2, constantValue := 0 }]
  methods := #[k28m0]
  instanceTypes := #[]
  staticTypes := #[(.object "java/util/function/BiFunction"), (.object "java/util/function/BiFunction"), (.object "java/util/function/BiFunction")]
  resolved := Array.replicate 194 none
  statics := some 1 }

def pool29 : Array CpInfo := pool [(9, u "<init>"), (6, .class_ 18), (1, u "java/lang/Object"), (0, u "()V"), (1, .class_ 23), (1, u "jdk/internal/util/ArraysSupport"), (0, u "LOG2_ARRAY_LONG_INDEX_SCALE"), (0, u "I"), (2, u "U"), (0, u "Ljdk/internal/misc/Unsafe;"), (8, u "BIG_ENDIAN"), (0, u "Z"), (8, u "LOG2_BYTE_BIT_SIZE"), (4, u "LOG2_ARRAY_INT_INDEX_SCALE"), (54, u "JLA"), (0, u "Ljdk/internal/access/JavaLangAccess;"), (11, u "LOG2_ARRAY_BOOLEAN_INDEX_SCALE"), (9, u "LOG2_ARRAY_BYTE_INDEX_SCALE"), (5, u "LOG2_ARRAY_CHAR_INDEX_SCALE"), (5, u "LOG2_ARRAY_SHORT_INDEX_SCALE"), (18, u "LOG2_ARRAY_FLOAT_INDEX_SCALE"), (24, u "LOG2_ARRAY_DOUBLE_INDEX_SCALE"), (89, u "T_BOOLEAN"), (2, u "T_CHAR"), (1, u "T_FLOAT"), (1, u "T_DOUBLE"), (1, u "T_BYTE"), (1, u "T_SHORT"), (1, u "T_INT"), (1, u "T_LONG"), (1, u "SOFT_MAX_ARRAY_LENGTH")] 83

def k29m0 : Method := { name := "<init>", desc := "()V", sig := { parameters := [], returnType := none }, accessFlags := 2, code := none }
/-- jdk/internal/util/ArraysSupport -/
def k29 : Class := { plain "jdk/internal/util/ArraysSupport" (some 0) with
  accessFlags := 33
  interfaces := #[]
  cf := some (fileOf pool29 21 #[] #[{ accessFlags := 2, nameIndex := 9, descriptorIndex := 19, attributes := #[] }] 33 16 #[] #[{ accessFlags := 24, nameIndex := 28, descriptorIndex := 29, attributes := #[] }, { accessFlags := 26, nameIndex := 38, descriptorIndex := 39, attributes := #[] }, { accessFlags := 25, nameIndex := 121, descriptorIndex := 25, attributes := #[] }, { accessFlags := 25, nameIndex := 131, descriptorIndex := 25, attributes := #[] }, { accessFlags := 25, nameIndex := 137, descriptorIndex := 25, attributes := #[] }, { accessFlags := 25, nameIndex := 143, descriptorIndex := 25, attributes := #[] }, { accessFlags := 25, nameIndex := 53, descriptorIndex := 25, attributes := #[] }, { accessFlags := 25, nameIndex := 24, descriptorIndex := 25, attributes := #[] }, { accessFlags := 25, nameIndex := 162, descriptorIndex := 25, attributes := #[] }, { accessFlags := 25, nameIndex := 187, descriptorIndex := 25, attributes := #[] }, { accessFlags := 26, nameIndex := 48, descriptorIndex := 25, attributes := #[] }, { accessFlags := 25, nameIndex := 277, descriptorIndex := 25, attributes := #[] }, { accessFlags := 25, nameIndex := 280, descriptorIndex := 25, attributes := #[] }, { accessFlags := 25, nameIndex := 282, descriptorIndex := 25, attributes := #[] }, { accessFlags := 25, nameIndex := 284, descriptorIndex := 25, attributes := #[] }, { accessFlags := 25, nameIndex := 286, descriptorIndex := 25, attributes := #[] }, { accessFlags := 25, nameIndex := 288, descriptorIndex := 25, attributes := #[] }, { accessFlags := 25, nameIndex := 290, descriptorIndex := 25, attributes := #[] }, { accessFlags := 25, nameIndex := 292, descriptorIndex := 25, attributes := #[] }, { accessFlags := 26, nameIndex := 108, descriptorIndex := 109, attributes := #[] }, { accessFlags := 25, nameIndex := 294, descriptorIndex := 25, attributes := #[] }])
  fields := #[{ name := "U", type := (.object "jdk/internal/misc/Unsafe"), accessFlags := 24, slot := 0, constantValue := 0 }, { name := "BIG_ENDIAN", type := .boolean, accessFlags := 26, slot := 1, constantValue := 0 }, { name := "LOG2_ARRAY_BOOLEAN_INDEX_SCALE", type := .int, accessFlags := 25, slot := 2, constantValue := 0 }, { name := "LOG2_ARRAY_BYTE_INDEX_SCALE", type := .int, accessFlags := 25, slot := 3, constantValue := 0 }, { name := "LOG2_ARRAY_CHAR_INDEX_SCALE", type := .int, accessFlags := 25, slot := 4, constantValue := 0 }, { name := "LOG2_ARRAY_SHORT_INDEX_SCALE", type := .int, accessFlags := 25, slot := 5, constantValue := 0 }, { name := "LOG2_ARRAY_INT_INDEX_SCALE", type := .int, accessFlags := 25, slot := 6, constantValue := 0 }, { name := "LOG2_ARRAY_LONG_INDEX_SCALE", type := .int, accessFlags := 25, slot := 7, constantValue := 0 }, { name := "LOG2_ARRAY_FLOAT_INDEX_SCALE", type := .int, accessFlags := 25, slot := 8, constantValue := 0 }, { name := "LOG2_ARRAY_DOUBLE_INDEX_SCALE", type := .int, accessFlags := 25, slot := 9, constantValue := 0 }, { name := "LOG2_BYTE_BIT_SIZE", type := .int, accessFlags := 26, slot := 10, constantValue := 0 }, { name := "T_BOOLEAN", type := .int, accessFlags := 25, slot := 11, constantValue := 0 }, { name := "T_CHAR", type := .int, accessFlags := 25, slot := 12, constantValue := 0 }, { name := "T_FLOAT", type := .int, accessFlags := 25, slot := 13, constantValue := 0 }, { name := "T_DOUBLE", type := .int, accessFlags := 25, slot := 14, constantValue := 0 }, { name := "T_BYTE", type := .int, accessFlags := 25, slot := 15, constantValue := 0 }, { name := "T_SHORT", type := .int, accessFlags := 25, slot := 16, constantValue := 0 }, { name := "T_INT", type := .int, accessFlags := 25, slot := 17, constantValue := 0 }, { name := "T_LONG", type := .int, accessFlags := 25, slot := 18, constantValue := 0 }, { name := "JLA", type := (.object "jdk/internal/access/JavaLangAccess"), accessFlags := 26, slot := 19, constantValue := 0 }, { name := "SOFT_MAX_ARRAY_LENGTH", type := .int, accessFlags := 25, slot := 20, constantValue := 0 }]
  methods := #[k29m0]
  instanceTypes := #[]
  staticTypes := #[(.object "jdk/internal/misc/Unsafe"), .boolean, .int, .int, .int, .int, .int, .int, .int, .int, .int, .int, .int, .int, .int, .int, .int, .int, .int, (.object "jdk/internal/access/JavaLangAccess"), .int]
  resolved := Array.replicate 378 none
  statics := none }

def pool30 : Array CpInfo := pool [(1, u "java/lang/Class"), (0, .class_ 1), (0, u "java/lang/Object"), (0, .class_ 3)] 0

/-- java/lang/Class -/
def k30 : Class := { plain "java/lang/Class" (some 0) with
  accessFlags := 49
  interfaces := #[]
  cf := some (fileOf pool30 2 #[] #[] 49 4 #[] #[])
  fields := #[]
  methods := #[]
  instanceTypes := #[]
  staticTypes := #[]
  resolved := Array.replicate 5 none
  statics := none }

/-- the primitive byte -/
def k31 : Class := { plain "byte" none with kind := .primitive 'B', accessFlags := 0x411 }
/-- [B -/
def k32 : Class := { plain "[B" (some 0) with kind := .array 31 .byte, interfaces := #[12, 2], accessFlags := 1041 }

/-- the primitive int -/
def k33 : Class := { plain "int" none with kind := .primitive 'I', accessFlags := 0x411 }
/-- [I -/
def k34 : Class := { plain "[I" (some 0) with kind := .array 33 .int, interfaces := #[12, 2], accessFlags := 1041 }

def heap : Heap := #[{ cls := 7, slots := #[.long 0, .int 1, .null, .int 0, .null, .int 0, .int 0], vm := .statics 7 },
  { cls := 28, slots := #[.null, .null, .null], vm := .statics 28 },
  { cls := 30, slots := #[], vm := .mirror 16 },
  { cls := 30, slots := #[], vm := .mirror 27 }]
def classes : Array Class := #[k0, k1, k2, k3, k4, k5, k6, k7, k8, k9, k10, k11, k12, k13, k14, k15, k16, k17, k18, k19, k20, k21, k22, k23, k24, k25, k26, k27, k28, k29, k30, k31, k32, k33, k34]
def interned : List (Array UInt16 × Addr) := []
def slotsUsed : Nat := 10
def theMethod : MethodId := ⟨1, 2⟩
def args0 : Array Value := #[.int 5, .int 1, .int 2, .int 3, .int 65]
def aboutOver (below : List Frame) : State where
  vm := { classes := classes, interned := interned.toArray }
  heap := heap
  slotsUsed := slotsUsed
  threads := #[{ frames := .invoking theMethod args0 :: below }]
def below0 : List Frame := [.native { method := ⟨0, 0⟩, args := #[] }]
def about1 : State := aboutOver below0
def p0 : Program := .bare "" "" ""
def e0 : Env := launch0.env 0 0 0
theorem w_frames : about1.frames = Frame.invoking theMethod args0 :: below0 := rfl
set_option maxRecDepth 65536 in
theorem w_args : argsFit about1.vm theMethod args0 = true := by decide +kernel
set_option maxRecDepth 65536 in
theorem w_heap : heapFits about1 = true := by decide +kernel
set_option maxRecDepth 65536 in
theorem w_runnable : about1.curStatus? = some .runnable := by decide +kernel
set_option maxRecDepth 65536 in
theorem w_alone : about1.alone = true := by decide +kernel
set_option maxRecDepth 65536 in
theorem w_named : about1.methodNamed? x = some theMethod := by decide +kernel
set_option maxRecDepth 65536 in
theorem w_hears : about1.hears theMethod below0 = true := by decide +kernel
set_option maxRecDepth 65536 in
theorem w_ripe : about1.ripe theMethod args0 below0 = true := by decide +kernel
theorem w_running : about1.status = .running := rfl
set_option maxRecDepth 65536 in
theorem w_room : about1.hasRoom e0.platform room_1 = true :=
  launch0.hasRoom_least _ room_1 (by decide +kernel) (by decide +kernel) (by decide +kernel) (by decide +kernel) (by decide +kernel) (by decide +kernel)
theorem allAtoms_all (ts : List Jvm.Cond) (a : Array Jvm.Value) (st : Jvm.State) : (allAtoms ts).before a st = ts.all (fun c => c.before a st) := by
  induction ts with
  | nil => rfl
  | cons c t ih =>
    show (Jvm.Cond.and c (allAtoms t)).before a st = _
    rw [Jvm.Cond.before_and, ih, List.all_cons]
def words1 : List Jvm.Cond := Jvm.Cond.code x code maxLocals ret :: tables_1
/-- a 'code' word, met by the world's own term for the bytes: nothing is compared byte by byte -/
theorem code_word {y : MethodName} {bytes : ByteArray} {mx : Nat} {rt : Option FieldType} {a : Array Value} {s : State} {m : MethodId} {meth : Method} {c : Code} (h1 : s.methodNamed? y = some m) (h2 : s.vm.method? m = some meth) (h3 : meth.code = some c) (h4 : c.code = bytes)
    (h5 : (c.maxLocals == mx && c.exceptionTable.isEmpty && decide (c.maxStack ≤ mostOperands) && decide (meth.sig.returnType = rt) && !meth.locks && decide (parseMethodDescriptor y.desc = some meth.sig)) = true) : (Jvm.Cond.code y bytes mx rt).before a s = true := by
  simp only [Bool.and_eq_true, beq_iff_eq, Bool.not_eq_true', decide_eq_true_eq] at h5
  obtain ⟨⟨⟨⟨⟨g1, g2⟩, g3⟩, g4⟩, g5⟩, g6⟩ := h5
  simp [Cond.before, Cond.holds, Cond.value, h1, h2, h3, h4, g1, g2, g3, g4, g5, g6]
def isCode : Jvm.Cond → Bool
  | .code _ _ _ _ => true
  | _ => false
theorem all_split {L : List Jvm.Cond} {P : Jvm.Cond → Bool} (h1 : L.all (fun c => isCode c || P c) = true) (h2 : ∀ c ∈ L.filter isCode, P c = true) : L.all P = true := by
  refine List.all_eq_true.mpr fun c hc => ?_
  have h := List.all_eq_true.mp h1 c hc
  rcases Bool.eq_false_or_eq_true (isCode c) with hi | hi
  · exact h2 c (List.mem_filter.mpr ⟨hc, hi⟩)
  · simpa [hi] using h
set_option maxRecDepth 65536 in
theorem w_c0 : (Jvm.Cond.code x code maxLocals ret).before args0 about1 = true := code_word (m := ⟨1, 2⟩) (meth := k1m2) (c := k1c2) (by decide +kernel) rfl rfl rfl (by decide +kernel)
set_option maxRecDepth 65536 in
theorem w_c1 : (Jvm.Cond.code ({ cls := "java/lang/String", name := "valueOf", desc := "(C)Ljava/lang/String;" } : Jvm.MethodName) jdk_42_method_139_code (1 : Nat) (Option.some (Jvm.ClassFile.FieldType.object "java/lang/String"))).before args0 about1 = true := code_word (m := ⟨7, 1⟩) (meth := k7m1) (c := k7c1) (by decide +kernel) rfl rfl rfl (by decide +kernel)
set_option maxRecDepth 65536 in
theorem w_c2 : (Jvm.Cond.code ({ cls := "java/lang/StringLatin1", name := "canEncode", desc := "(C)Z" } : Jvm.MethodName) jdk_43_method_3_code (1 : Nat) (Option.some Jvm.ClassFile.FieldType.boolean)).before args0 about1 = true := code_word (m := ⟨8, 1⟩) (meth := k8m1) (c := k8c1) (by decide +kernel) rfl rfl rfl (by decide +kernel)
set_option maxRecDepth 65536 in
theorem w_c3 : (Jvm.Cond.code ({ cls := "java/lang/StringLatin1", name := "toBytes", desc := "(C)[B" } : Jvm.MethodName) jdk_43_method_46_code (1 : Nat) (Option.some (Jvm.ClassFile.FieldType.array Jvm.ClassFile.FieldType.byte))).before args0 about1 = true := code_word (m := ⟨8, 2⟩) (meth := k8m2) (c := k8c2) (by decide +kernel) rfl rfl rfl (by decide +kernel)
set_option maxRecDepth 65536 in
theorem w_c4 : (Jvm.Cond.code ({ cls := "java/lang/String", name := "<init>", desc := "([BB)V" } : Jvm.MethodName) jdk_42_method_151_code (3 : Nat) (Option.none : Option Jvm.ClassFile.FieldType)).before args0 about1 = true := code_word (m := ⟨7, 2⟩) (meth := k7m2) (c := k7c2) (by decide +kernel) rfl rfl rfl (by decide +kernel)
set_option maxRecDepth 65536 in
theorem w_c5 : (Jvm.Cond.code ({ cls := "java/lang/Object", name := "<init>", desc := "()V" } : Jvm.MethodName) object_method_1_code (1 : Nat) (Option.none : Option Jvm.ClassFile.FieldType)).before args0 about1 = true := code_word (m := ⟨0, 0⟩) (meth := k0m0) (c := k0c0) (by decide +kernel) rfl rfl rfl (by decide +kernel)
set_option maxRecDepth 65536 in
theorem w_c6 : (Jvm.Cond.code ({ cls := "com/example/fuchun/fuchun/remoting/RemotingCommandIsOnewayPinLaw", name := "make", desc := "(ILjava/lang/String;III)Lcom/example/fuchun/fuchun/remoting/RemotingCommand;" } : Jvm.MethodName) method_2_code (5 : Nat) (Option.some (Jvm.ClassFile.FieldType.object "com/example/fuchun/fuchun/remoting/RemotingCommand"))).before args0 about1 = true := code_word (m := ⟨1, 1⟩) (meth := k1m1) (c := k1c1) (by decide +kernel) rfl rfl rfl (by decide +kernel)
set_option maxRecDepth 65536 in
theorem w_c7 : (Jvm.Cond.code ({ cls := "java/util/HashMap", name := "<init>", desc := "()V" } : Jvm.MethodName) jdk_69_method_7_code (1 : Nat) (Option.none : Option Jvm.ClassFile.FieldType)).before args0 about1 = true := code_word (m := ⟨13, 0⟩) (meth := k13m0) (c := k13c0) (by decide +kernel) rfl rfl rfl (by decide +kernel)
set_option maxRecDepth 65536 in
theorem w_c8 : (Jvm.Cond.code ({ cls := "java/util/AbstractMap", name := "<init>", desc := "()V" } : Jvm.MethodName) jdk_71_method_1_code (1 : Nat) (Option.none : Option Jvm.ClassFile.FieldType)).before args0 about1 = true := code_word (m := ⟨11, 0⟩) (meth := k11m0) (c := k11c0) (by decide +kernel) rfl rfl rfl (by decide +kernel)
set_option maxRecDepth 65536 in
theorem w_c9 : (Jvm.Cond.code ({ cls := "com/example/fuchun/fuchun/remoting/RemotingCommand", name := "<init>", desc := "(ILjava/lang/String;IIILjava/lang/String;Ljava/util/Map;[B)V" } : Jvm.MethodName) prog_20_method_1_code (9 : Nat) (Option.none : Option Jvm.ClassFile.FieldType)).before args0 about1 = true := code_word (m := ⟨9, 0⟩) (meth := k9m0) (c := k9c0) (by decide +kernel) rfl rfl rfl (by decide +kernel)
set_option maxRecDepth 65536 in
theorem w_c10 : (Jvm.Cond.code ({ cls := "java/util/Objects", name := "requireNonNull", desc := "(Ljava/lang/Object;Ljava/lang/String;)Ljava/lang/Object;" } : Jvm.MethodName) jdk_31_method_11_code (2 : Nat) (Option.some (Jvm.ClassFile.FieldType.object "java/lang/Object"))).before args0 about1 = true := code_word (m := ⟨14, 1⟩) (meth := k14m1) (c := k14c1) (by decide +kernel) rfl rfl rfl (by decide +kernel)
set_option maxRecDepth 65536 in
theorem w_c11 : (Jvm.Cond.code ({ cls := "com/example/fuchun/fuchun/remoting/RemotingCommand", name := "copyFields", desc := "(Ljava/util/Map;)Ljava/util/Map;" } : Jvm.MethodName) prog_20_method_17_code (6 : Nat) (Option.some (Jvm.ClassFile.FieldType.object "java/util/Map"))).before args0 about1 = true := code_word (m := ⟨9, 2⟩) (meth := k9m2) (c := k9c2) (by decide +kernel) rfl rfl rfl (by decide +kernel)
set_option maxRecDepth 65536 in
theorem w_c12 : (Jvm.Cond.code ({ cls := "java/util/LinkedHashMap", name := "<init>", desc := "()V" } : Jvm.MethodName) jdk_94_method_16_code (1 : Nat) (Option.none : Option Jvm.ClassFile.FieldType)).before args0 about1 = true := code_word (m := ⟨16, 0⟩) (meth := k16m0) (c := k16c0) (by decide +kernel) rfl rfl rfl (by decide +kernel)
set_option maxRecDepth 65536 in
theorem w_c13 : (Jvm.Cond.code ({ cls := "java/util/HashMap", name := "entrySet", desc := "()Ljava/util/Set;" } : Jvm.MethodName) jdk_69_method_29_code (2 : Nat) (Option.some (Jvm.ClassFile.FieldType.object "java/util/Set"))).before args0 about1 = true := code_word (m := ⟨13, 1⟩) (meth := k13m1) (c := k13c1) (by decide +kernel) rfl rfl rfl (by decide +kernel)
set_option maxRecDepth 65536 in
theorem w_c14 : (Jvm.Cond.code ({ cls := "java/util/HashMap$EntrySet", name := "<init>", desc := "(Ljava/util/HashMap;)V" } : Jvm.MethodName) jdk_111_method_1_code (2 : Nat) (Option.none : Option Jvm.ClassFile.FieldType)).before args0 about1 = true := code_word (m := ⟨22, 0⟩) (meth := k22m0) (c := k22c0) (by decide +kernel) rfl rfl rfl (by decide +kernel)
set_option maxRecDepth 65536 in
theorem w_c15 : (Jvm.Cond.code ({ cls := "java/util/AbstractSet", name := "<init>", desc := "()V" } : Jvm.MethodName) jdk_91_method_1_code (1 : Nat) (Option.none : Option Jvm.ClassFile.FieldType)).before args0 about1 = true := code_word (m := ⟨21, 0⟩) (meth := k21m0) (c := k21c0) (by decide +kernel) rfl rfl rfl (by decide +kernel)
set_option maxRecDepth 65536 in
theorem w_c16 : (Jvm.Cond.code ({ cls := "java/util/AbstractCollection", name := "<init>", desc := "()V" } : Jvm.MethodName) jdk_22_method_1_code (1 : Nat) (Option.none : Option Jvm.ClassFile.FieldType)).before args0 about1 = true := code_word (m := ⟨19, 0⟩) (meth := k19m0) (c := k19c0) (by decide +kernel) rfl rfl rfl (by decide +kernel)
set_option maxRecDepth 65536 in
theorem w_c17 : (Jvm.Cond.code ({ cls := "java/util/HashMap$EntrySet", name := "iterator", desc := "()Ljava/util/Iterator;" } : Jvm.MethodName) jdk_111_method_4_code (1 : Nat) (Option.some (Jvm.ClassFile.FieldType.object "java/util/Iterator"))).before args0 about1 = true := code_word (m := ⟨22, 1⟩) (meth := k22m1) (c := k22c1) (by decide +kernel) rfl rfl rfl (by decide +kernel)
set_option maxRecDepth 65536 in
theorem w_c18 : (Jvm.Cond.code ({ cls := "java/util/HashMap$EntryIterator", name := "<init>", desc := "(Ljava/util/HashMap;)V" } : Jvm.MethodName) jdk_142_method_1_code (2 : Nat) (Option.none : Option Jvm.ClassFile.FieldType)).before args0 about1 = true := code_word (m := ⟨25, 0⟩) (meth := k25m0) (c := k25c0) (by decide +kernel) rfl rfl rfl (by decide +kernel)
set_option maxRecDepth 65536 in
theorem w_c19 : (Jvm.Cond.code ({ cls := "java/util/HashMap$HashIterator", name := "<init>", desc := "(Ljava/util/HashMap;)V" } : Jvm.MethodName) jdk_99_method_1_code (3 : Nat) (Option.none : Option Jvm.ClassFile.FieldType)).before args0 about1 = true := code_word (m := ⟨23, 0⟩) (meth := k23m0) (c := k23c0) (by decide +kernel) rfl rfl rfl (by decide +kernel)
set_option maxRecDepth 65536 in
theorem w_c20 : (Jvm.Cond.code ({ cls := "java/util/HashMap$HashIterator", name := "hasNext", desc := "()Z" } : Jvm.MethodName) jdk_99_method_2_code (1 : Nat) (Option.some Jvm.ClassFile.FieldType.boolean)).before args0 about1 = true := code_word (m := ⟨23, 1⟩) (meth := k23m1) (c := k23c1) (by decide +kernel) rfl rfl rfl (by decide +kernel)
set_option maxRecDepth 65536 in
theorem w_c21 : (Jvm.Cond.code ({ cls := "java/util/Collections", name := "unmodifiableMap", desc := "(Ljava/util/Map;)Ljava/util/Map;" } : Jvm.MethodName) jdk_79_method_36_code (1 : Nat) (Option.some (Jvm.ClassFile.FieldType.object "java/util/Map"))).before args0 about1 = true := code_word (m := ⟨26, 1⟩) (meth := k26m1) (c := k26c1) (by decide +kernel) rfl rfl rfl (by decide +kernel)
set_option maxRecDepth 65536 in
theorem w_c22 : (Jvm.Cond.code ({ cls := "java/util/Collections$UnmodifiableMap", name := "<init>", desc := "(Ljava/util/Map;)V" } : Jvm.MethodName) jdk_2500_method_1_code (2 : Nat) (Option.none : Option Jvm.ClassFile.FieldType)).before args0 about1 = true := code_word (m := ⟨27, 0⟩) (meth := k27m0) (c := k27c0) (by decide +kernel) rfl rfl rfl (by decide +kernel)
set_option maxRecDepth 65536 in
theorem w_c23 : (Jvm.Cond.code ({ cls := "com/example/fuchun/fuchun/remoting/RemotingCommand", name := "isOneway", desc := "()Z" } : Jvm.MethodName) prog_20_method_13_code (1 : Nat) (Option.some Jvm.ClassFile.FieldType.boolean)).before args0 about1 = true := code_word (m := ⟨9, 1⟩) (meth := k9m1) (c := k9c1) (by decide +kernel) rfl rfl rfl (by decide +kernel)
def codes1 : List Jvm.Cond := [Jvm.Cond.code x code maxLocals ret, Jvm.Cond.code ({ cls := "java/lang/String", name := "valueOf", desc := "(C)Ljava/lang/String;" } : Jvm.MethodName) jdk_42_method_139_code (1 : Nat) (Option.some (Jvm.ClassFile.FieldType.object "java/lang/String")), Jvm.Cond.code ({ cls := "java/lang/StringLatin1", name := "canEncode", desc := "(C)Z" } : Jvm.MethodName) jdk_43_method_3_code (1 : Nat) (Option.some Jvm.ClassFile.FieldType.boolean), Jvm.Cond.code ({ cls := "java/lang/StringLatin1", name := "toBytes", desc := "(C)[B" } : Jvm.MethodName) jdk_43_method_46_code (1 : Nat) (Option.some (Jvm.ClassFile.FieldType.array Jvm.ClassFile.FieldType.byte)), Jvm.Cond.code ({ cls := "java/lang/String", name := "<init>", desc := "([BB)V" } : Jvm.MethodName) jdk_42_method_151_code (3 : Nat) (Option.none : Option Jvm.ClassFile.FieldType), Jvm.Cond.code ({ cls := "java/lang/Object", name := "<init>", desc := "()V" } : Jvm.MethodName) object_method_1_code (1 : Nat) (Option.none : Option Jvm.ClassFile.FieldType), Jvm.Cond.code ({ cls := "com/example/fuchun/fuchun/remoting/RemotingCommandIsOnewayPinLaw", name := "make", desc := "(ILjava/lang/String;III)Lcom/example/fuchun/fuchun/remoting/RemotingCommand;" } : Jvm.MethodName) method_2_code (5 : Nat) (Option.some (Jvm.ClassFile.FieldType.object "com/example/fuchun/fuchun/remoting/RemotingCommand")), Jvm.Cond.code ({ cls := "java/util/HashMap", name := "<init>", desc := "()V" } : Jvm.MethodName) jdk_69_method_7_code (1 : Nat) (Option.none : Option Jvm.ClassFile.FieldType), Jvm.Cond.code ({ cls := "java/util/AbstractMap", name := "<init>", desc := "()V" } : Jvm.MethodName) jdk_71_method_1_code (1 : Nat) (Option.none : Option Jvm.ClassFile.FieldType), Jvm.Cond.code ({ cls := "com/example/fuchun/fuchun/remoting/RemotingCommand", name := "<init>", desc := "(ILjava/lang/String;IIILjava/lang/String;Ljava/util/Map;[B)V" } : Jvm.MethodName) prog_20_method_1_code (9 : Nat) (Option.none : Option Jvm.ClassFile.FieldType), Jvm.Cond.code ({ cls := "java/util/Objects", name := "requireNonNull", desc := "(Ljava/lang/Object;Ljava/lang/String;)Ljava/lang/Object;" } : Jvm.MethodName) jdk_31_method_11_code (2 : Nat) (Option.some (Jvm.ClassFile.FieldType.object "java/lang/Object")), Jvm.Cond.code ({ cls := "com/example/fuchun/fuchun/remoting/RemotingCommand", name := "copyFields", desc := "(Ljava/util/Map;)Ljava/util/Map;" } : Jvm.MethodName) prog_20_method_17_code (6 : Nat) (Option.some (Jvm.ClassFile.FieldType.object "java/util/Map")), Jvm.Cond.code ({ cls := "java/util/LinkedHashMap", name := "<init>", desc := "()V" } : Jvm.MethodName) jdk_94_method_16_code (1 : Nat) (Option.none : Option Jvm.ClassFile.FieldType), Jvm.Cond.code ({ cls := "java/util/HashMap", name := "entrySet", desc := "()Ljava/util/Set;" } : Jvm.MethodName) jdk_69_method_29_code (2 : Nat) (Option.some (Jvm.ClassFile.FieldType.object "java/util/Set")), Jvm.Cond.code ({ cls := "java/util/HashMap$EntrySet", name := "<init>", desc := "(Ljava/util/HashMap;)V" } : Jvm.MethodName) jdk_111_method_1_code (2 : Nat) (Option.none : Option Jvm.ClassFile.FieldType), Jvm.Cond.code ({ cls := "java/util/AbstractSet", name := "<init>", desc := "()V" } : Jvm.MethodName) jdk_91_method_1_code (1 : Nat) (Option.none : Option Jvm.ClassFile.FieldType), Jvm.Cond.code ({ cls := "java/util/AbstractCollection", name := "<init>", desc := "()V" } : Jvm.MethodName) jdk_22_method_1_code (1 : Nat) (Option.none : Option Jvm.ClassFile.FieldType), Jvm.Cond.code ({ cls := "java/util/HashMap$EntrySet", name := "iterator", desc := "()Ljava/util/Iterator;" } : Jvm.MethodName) jdk_111_method_4_code (1 : Nat) (Option.some (Jvm.ClassFile.FieldType.object "java/util/Iterator")), Jvm.Cond.code ({ cls := "java/util/HashMap$EntryIterator", name := "<init>", desc := "(Ljava/util/HashMap;)V" } : Jvm.MethodName) jdk_142_method_1_code (2 : Nat) (Option.none : Option Jvm.ClassFile.FieldType), Jvm.Cond.code ({ cls := "java/util/HashMap$HashIterator", name := "<init>", desc := "(Ljava/util/HashMap;)V" } : Jvm.MethodName) jdk_99_method_1_code (3 : Nat) (Option.none : Option Jvm.ClassFile.FieldType), Jvm.Cond.code ({ cls := "java/util/HashMap$HashIterator", name := "hasNext", desc := "()Z" } : Jvm.MethodName) jdk_99_method_2_code (1 : Nat) (Option.some Jvm.ClassFile.FieldType.boolean), Jvm.Cond.code ({ cls := "java/util/Collections", name := "unmodifiableMap", desc := "(Ljava/util/Map;)Ljava/util/Map;" } : Jvm.MethodName) jdk_79_method_36_code (1 : Nat) (Option.some (Jvm.ClassFile.FieldType.object "java/util/Map")), Jvm.Cond.code ({ cls := "java/util/Collections$UnmodifiableMap", name := "<init>", desc := "(Ljava/util/Map;)V" } : Jvm.MethodName) jdk_2500_method_1_code (2 : Nat) (Option.none : Option Jvm.ClassFile.FieldType), Jvm.Cond.code ({ cls := "com/example/fuchun/fuchun/remoting/RemotingCommand", name := "isOneway", desc := "()Z" } : Jvm.MethodName) prog_20_method_13_code (1 : Nat) (Option.some Jvm.ClassFile.FieldType.boolean)]
set_option maxRecDepth 65536 in
theorem codes_eq : words1.filter isCode = codes1 := rfl
theorem w_codes : ∀ c ∈ words1.filter isCode, c.before args0 about1 = true := by
  rw [codes_eq]
  intro c hc
  simp only [codes1, List.mem_cons, List.not_mem_nil, or_false] at hc
  rcases hc with rfl | rfl | rfl | rfl | rfl | rfl | rfl | rfl | rfl | rfl | rfl | rfl | rfl | rfl | rfl | rfl | rfl | rfl | rfl | rfl | rfl | rfl | rfl | rfl
  · exact w_c0
  · exact w_c1
  · exact w_c2
  · exact w_c3
  · exact w_c4
  · exact w_c5
  · exact w_c6
  · exact w_c7
  · exact w_c8
  · exact w_c9
  · exact w_c10
  · exact w_c11
  · exact w_c12
  · exact w_c13
  · exact w_c14
  · exact w_c15
  · exact w_c16
  · exact w_c17
  · exact w_c18
  · exact w_c19
  · exact w_c20
  · exact w_c21
  · exact w_c22
  · exact w_c23
set_option maxRecDepth 65536 in
theorem w_t1 : (words1.take 24).all (fun c => isCode c || c.before args0 about1) = true := by decide +kernel
set_option maxRecDepth 65536 in
theorem w_t2 : ((words1.drop 24).take 24).all (fun c => isCode c || c.before args0 about1) = true := by decide +kernel
set_option maxRecDepth 65536 in
theorem w_t3 : (((words1.drop 24).drop 24).take 24).all (fun c => isCode c || c.before args0 about1) = true := by decide +kernel
set_option maxRecDepth 65536 in
theorem w_t4 : ((((words1.drop 24).drop 24).drop 24).take 24).all (fun c => isCode c || c.before args0 about1) = true := by decide +kernel
set_option maxRecDepth 65536 in
theorem w_t5 : (((((words1.drop 24).drop 24).drop 24).drop 24).take 24).all (fun c => isCode c || c.before args0 about1) = true := by decide +kernel
set_option maxRecDepth 65536 in
theorem w_t6 : ((((((words1.drop 24).drop 24).drop 24).drop 24).drop 24).take 24).all (fun c => isCode c || c.before args0 about1) = true := by decide +kernel
set_option maxRecDepth 65536 in
theorem w_t7 : (((((((words1.drop 24).drop 24).drop 24).drop 24).drop 24).drop 24).take 24).all (fun c => isCode c || c.before args0 about1) = true := by decide +kernel
set_option maxRecDepth 65536 in
theorem w_t8 : ((((((((words1.drop 24).drop 24).drop 24).drop 24).drop 24).drop 24).drop 24).take 24).all (fun c => isCode c || c.before args0 about1) = true := by decide +kernel
set_option maxRecDepth 65536 in
theorem w_t9 : ((((((((words1.drop 24).drop 24).drop 24).drop 24).drop 24).drop 24).drop 24).drop 24).all (fun c => isCode c || c.before args0 about1) = true := by decide +kernel
theorem w_tables : (allAtoms (Jvm.Cond.code x code maxLocals ret :: tables_1)).before args0 about1 = true := by
  rw [allAtoms_all]
  show words1.all (fun c => c.before args0 about1) = true
  refine all_split ?_ w_codes
  rw [← List.take_append_drop 24 words1, List.all_append, w_t1, ← List.take_append_drop 24 (words1.drop 24), List.all_append, w_t2, ← List.take_append_drop 24 ((words1.drop 24).drop 24), List.all_append, w_t3, ← List.take_append_drop 24 (((words1.drop 24).drop 24).drop 24), List.all_append, w_t4, ← List.take_append_drop 24 ((((words1.drop 24).drop 24).drop 24).drop 24), List.all_append, w_t5, ← List.take_append_drop 24 (((((words1.drop 24).drop 24).drop 24).drop 24).drop 24), List.all_append, w_t6, ← List.take_append_drop 24 ((((((words1.drop 24).drop 24).drop 24).drop 24).drop 24).drop 24), List.all_append, w_t7, ← List.take_append_drop 24 (((((((words1.drop 24).drop 24).drop 24).drop 24).drop 24).drop 24).drop 24), List.all_append, w_t8, w_t9]
  rfl
set_option maxRecDepth 65536 in
theorem w_rest : rest_1_c.before args0 about1 = true := by decide +kernel
set_option maxRecDepth 65536 in
theorem w_case : (Jvm.Cond.and given_1 narrow_1).before args0 about1 = true := by decide +kernel
theorem w_applies : (headSpec (Jvm.Cond.code x code maxLocals ret :: tables_1) room_1).applies x e0.platform about1 = true :=
  (Spec.applies_iff w_frames).mpr ⟨w_running, w_runnable, w_alone, w_named, w_hears, w_ripe, w_room, w_tables⟩
theorem atStart : AtStart classFile x code maxLocals ret World_1 tables_1 room_1 Calls_1 rest_1 Pre_1 launch0 p0 e0 about1 theMethod args0 below0 :=
  ⟨lists_1, trivial, launch0.admits_env _ _ _, launch0.least_env, fairChoices_fair.cas, fairChoices_fair.clock, w_frames, w_args, w_heap, w_applies, ⟨⟨16, k16, 2, by decide +kernel, rfl, rfl, _, rfl, rfl⟩, ⟨⟨27, k27, 3, by decide +kernel, rfl, rfl, _, rfl, rfl⟩, trivial⟩⟩, w_rest, w_case⟩
end start1
theorem witness_1 : WitnessClaimed_1 := ⟨start1.p0, start1.e0, start1.about1, start1.theMethod, start1.args0, start1.below0, start1.atStart⟩
end Jvm.Pilot.@@N@@
