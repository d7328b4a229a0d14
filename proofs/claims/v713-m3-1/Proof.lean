import JvmDerived
import JvmDerived.Pilot.@@N@@Statement
import JvmDerived.Pilot.@@N@@Code
set_option linter.unusedVariables false
set_option linter.unusedSimpArgs false
namespace Jvm.Pilot.@@N@@
open Jvm Jvm.ClassFile Sem Op Lib Jvm.Free Jvm.Stand Jvm.LawKit Jvm.RoadKit Bundle Jvm.Pilot.@@N@@.Jvm.D
set_option maxRecDepth 65536
set_option maxHeartbeats 40000000
abbrev uu : Slot := .unset
abbrev s1' : String := "com/example/knit_theories/knittheories/model/Gather"
abbrev s2' : String := "java/lang/StringLatin1"
abbrev s3' : String := "[Lcom/example/knit_theories/knittheories/model/Gather;"
abbrev s4' : String := "java/lang/StringUTF16"
abbrev s5' : String := "(Ljava/lang/Object;)Z"
abbrev s6' : String := "jdk/internal/util/Preconditions"
abbrev s7' : String := "com/example/knit_theories/knittheories/model/GatherOfPinLaw"
abbrev s8' : String := "(Ljava/lang/String;)Lcom/example/knit_theories/knittheories/model/Gather;"
abbrev s9' : String := "Lcom/example/knit_theories/knittheories/model/Gather;"
def HW (Z : State) (a0 : Array Value) : Prop := ∀ d ∈ tables_1, d.before a0 Z = true
theorem HW.at {Z : State} {a0 : Array Value} (hw : HW Z a0) (i : Nat) {d : Jvm.Cond} (h : tables_1[i]? = some d) : d.before a0 Z = true := hw _ (List.mem_of_getElem? h)
section OwnKit
variable {p : Program} {l : Launch} {e : Env} {R : Room} {s : State} {m : MethodId} {args : Array Value} {below : List Frame} {meth : Method} {c : Code} {T : State} {locs : List Loc} {cells slots : Nat} {Z : State} {a0 : Array Value} {h : Heap}
/-- from A the walk comes to an end of which F holds -/
def Rch (p : Program) (e : Env) (below : List Frame) (F : Outcome → State → Prop) (A : State) : Prop := ∃ s₂ o, Steps p.tables e below A s₂ ∧ s₂.status = .running ∧ Ended s₂ below o ∧ F o s₂
abbrev Aw (p : Program) (e : Env) (below : List Frame) (F : Outcome → State → Prop) (T : State) (m : MethodId) (pc : Nat) (Ls : Array Slot) (st : List Value) : Prop := Rch p e below F (T.setTop (mkF m pc Ls st))
theorem Rch.go {F : Outcome → State → Prop} {A B : State} (h : ∀ t, Steps p.tables e below B t → Steps p.tables e below A t) (r : Rch p e below F B) : Rch p e below F A := by
  obtain ⟨t, o, h1, h2⟩ := r
  exact ⟨t, o, h t h1, h2⟩
/-- what a body leaves -/
def Leaves (s : State) (C S : Nat) (Q : Option Value → Heap → List Loc → Prop) (o : Outcome) (U : State) : Prop := ∃ v L, o = .returned v ∧ Q v U.heap L ∧ FrameEnd s o U L C S
/-- a body's contract, at one heap and one row of arguments -/
def Ctr (l : Launch) (Z : State) (ws : List Jvm.Cond) (y : MethodName) (bytes : ByteArray) (maxL : Nat) (ret : Option FieldType) (as' : Array Value) (h0 : Heap) (rm : Room) (Q : Option Value → Heap → List Loc → Prop) : Prop :=
  MetFree l y (head1 (Jvm.Cond.code y bytes maxL ret :: ws) rm) (fun a U => a = as' ∧ Z.Warmed39 U.vm ∧ U.heap = h0) (fun _ _ _ _ _ => True) (fun _ U o U' => ∃ v L, o = .returned v ∧ Q v U'.heap L ∧ FrameEnd U o U' L rm.cells rm.slots)
theorem Ctr.of {ws : List Jvm.Cond} {y : MethodName} {bytes : ByteArray} {maxL : Nat} {ret : Option FieldType} {as' : Array Value} {h0 : Heap} {rm : Room} {Q : Option Value → Heap → List Loc → Prop} {Ls : Array Slot} (hpn : plainFor y = true) (ef : ∀ m, entryFrame m as' maxL = mkF m 0 Ls [])
    (H : ∀ (p : Program) (e : Env) (s : State) (m : MethodId) (below : List Frame) (meth : Method) (c : Code) (T : State), p.tables.exec = Jvm.exec → Z.Warmed39 s.vm → c.code = bytes → c.maxLocals = maxL → s.vm.findClass y.cls = some m.cls → meth.name = y.name → meth.sig.returnType = ret → meth.locks = false →
      Stand p l e rm s m as' below meth c T [] 0 0 → T.heap = h0 → Rch p e below (Leaves s rm.cells rm.slots Q) (T.setTop (mkF m 0 Ls []))) : Ctr l Z ws y bytes maxL ret as' h0 rm Q := by
  refine MetFree.of_bodySF hpn hisR ?_
  intro p e s m args below meth c s₁ Bd hml0 hP hK
  obtain ⟨rfl, hZ, hh⟩ := hP
  have e0 : s₁.heap = h0 := by rw [← hh, Bd.state]; rfl
  obtain ⟨t, o, r1, r2, r3, r4⟩ := H p e s m below meth c s₁ Bd.exec hZ Bd.bytes hml0 (findClass_of_methodNamed Bd.named) (name_of_methodNamed Bd.named Bd.method).1 Bd.returns Bd.notSynchronized (Stand.of_body Bd) e0
  exact ⟨t, o, castTop (ef m) r1, r2, r3, r4⟩
theorem Rch.val (X : Stand p l e R s m args below meth c T locs cells slots) (hx : p.tables.exec = Jvm.exec) {pc : Nat} {Ls : Array Slot} {w : Value} {t : FieldType} {i : Instr} {rest : List Value} {Q : Option Value → Heap → List Loc → Prop} {C S : Nat} (hret : meth.sig.returnType = some t) (hlk : meth.locks = false) (hn : narrow t w = w)
    (hi : (i = .ireturn ∧ (t = .int ∨ t = .boolean ∨ t = .byte ∨ t = .char ∨ t = .short) ∧ ∃ z, w = .int z) ∨ (i = .lreturn ∧ t = .long ∧ ∃ z, w = .long z) ∨ (i = .dreturn ∧ t = .double ∧ ∃ z, w = .double z) ∨ (i = .freturn ∧ t = .float ∧ ∃ z, w = .float z) ∨ (i = .areturn ∧ t.isReference = true ∧ w.isRef = true))
    (hd : decode c.code pc = .ok (i, 1)) (hc : cells ≤ C) (hs : slots ≤ S) (hq : Q (some w) T.heap locs) : Rch p e below (Leaves s C S Q) (T.setTop (mkF m pc Ls (w :: rest))) := by
  obtain ⟨fs, hr, hrun, hended, hW, hsame⟩ := X.leave (v := some w) (fun h => by rw [hret] at h; cases h) hlk
  exact ⟨_, _, retOut X hx hret hn hi hd hr, hrun, hended, _, _, rfl, hq, ⟨_, rfl⟩, hW, hsame.mono hc hs⟩
theorem Rch.void (X : Stand p l e R s m args below meth c T locs cells slots) (hx : p.tables.exec = Jvm.exec) {pc : Nat} {Ls : Array Slot} {Q : Option Value → Heap → List Loc → Prop} {C S : Nat} (hret : meth.sig.returnType = none) (hlk : meth.locks = false)
    (hd : decode c.code pc = .ok (.return_, 1)) (hc : cells ≤ C) (hs : slots ≤ S) (hq : Q none T.heap locs) : Rch p e below (Leaves s C S Q) (T.setTop (mkF m pc Ls [])) := by
  obtain ⟨fs, hr, hrun, hended, hW, hsame⟩ := X.leave (v := none) (fun _ => rfl) hlk
  exact ⟨_, _, X.returnOut hx hret hd hr, hrun, hended, _, _, rfl, hq, ⟨_, rfl⟩, hW, hsame.mono hc hs⟩
theorem mayI {t : FieldType} {z : Int32} (ht : t = .int ∨ t = .boolean ∨ t = .byte ∨ t = .char ∨ t = .short) : ((Instr.ireturn : Instr) = .ireturn ∧ (t = .int ∨ t = .boolean ∨ t = .byte ∨ t = .char ∨ t = .short) ∧ ∃ y, (Value.int z) = .int y) ∨ ((Instr.ireturn : Instr) = .lreturn ∧ t = .long ∧ ∃ y, (Value.int z) = .long y) ∨ ((Instr.ireturn : Instr) = .dreturn ∧ t = .double ∧ ∃ y, (Value.int z) = .double y) ∨ ((Instr.ireturn : Instr) = .freturn ∧ t = .float ∧ ∃ y, (Value.int z) = .float y) ∨ ((Instr.ireturn : Instr) = .areturn ∧ t.isReference = true ∧ (Value.int z).isRef = true) := Or.inl ⟨rfl, ht, z, rfl⟩
end OwnKit
section OwnWide
variable {p : Program} {l : Launch} {e : Env} {R : Room} {s : State} {m : MethodId} {args : Array Value} {below : List Frame} {meth : Method} {c : Code} {T : State} {locs : List Loc} {cells slots : Nat} {Z : State} {a0 : Array Value} {h : Heap}
/-- what a body leaves that may have loaded String constants -/
def LeavesW (s : State) (C S : Nat) (Q : Option Value → Heap → List Loc → Prop) (o : Outcome) (U : State) : Prop := ∃ v L, o = .returned v ∧ Q v U.heap L ∧ ReturnedEndW s o U L C S
def CtrW (l : Launch) (Z : State) (ws : List Jvm.Cond) (y : MethodName) (bytes : ByteArray) (maxL : Nat) (ret : Option FieldType) (as' : Array Value) (h0 : Heap) (rm : Room) (Q : Option Value → Heap → List Loc → Prop) : Prop :=
  MetFree l y (head1 (Jvm.Cond.code y bytes maxL ret :: ws) rm) (fun a U => a = as' ∧ Z.Warmed39 U.vm ∧ U.heap = h0) (fun _ _ _ _ _ => True) (fun _ U o U' => ∃ v L, o = .returned v ∧ Q v U'.heap L ∧ ReturnedEndW U o U' L rm.cells rm.slots)
theorem CtrW.of {ws : List Jvm.Cond} {y : MethodName} {bytes : ByteArray} {maxL : Nat} {ret : Option FieldType} {as' : Array Value} {h0 : Heap} {rm : Room} {Q : Option Value → Heap → List Loc → Prop} {Ls : Array Slot} (hpn : plainFor y = true) (ef : ∀ m, entryFrame m as' maxL = mkF m 0 Ls [])
    (H : ∀ (p : Program) (e : Env) (s : State) (vm0 : Vm) (m : MethodId) (below : List Frame) (meth : Method) (c : Code) (T : State), p.tables.exec = Jvm.exec → Z.Warmed39 vm0 → c.code = bytes → c.maxLocals = maxL → vm0.findClass y.cls = some m.cls → meth.name = y.name → meth.sig.returnType = ret → meth.locks = false →
      s.Since vm0 h0.size → Stand p l e rm (s.setVm vm0) m as' below meth c T [] 0 0 → T.heap = h0 → Rch p e below (LeavesW s rm.cells rm.slots Q) (T.setTop (mkF m 0 Ls []))) : CtrW l Z ws y bytes maxL ret as' h0 rm Q := by
  refine MetFree.of_bodySF hpn hisR ?_
  intro p e s m args below meth c s₁ Bd hml0 hP hK
  obtain ⟨rfl, hZ, hh⟩ := hP
  have e0 : s₁.heap = h0 := by rw [← hh, Bd.state]; rfl
  obtain ⟨t, o, r1, r2, r3, r4⟩ := H p e s s.vm m below meth c s₁ Bd.exec hZ Bd.bytes hml0 (findClass_of_methodNamed Bd.named) (name_of_methodNamed Bd.named Bd.method).1 Bd.returns Bd.notSynchronized ((State.WarmedH.refl s).since _) (Stand.of_body Bd) e0
  exact ⟨t, o, castTop (ef m) r1, r2, r3, r4⟩
theorem Rch.valW {vm0 : Vm} {k0 : Nat} (X : Stand p l e R (s.setVm vm0) m args below meth c T locs cells slots) (hx : p.tables.exec = Jvm.exec) (hS : s.Since vm0 k0) (eT : T.heap = h) (hk : k0 ≤ h.size) {pc : Nat} {Ls : Array Slot} {w : Value} {t : FieldType} {i : Instr} {rest : List Value} {Q : Option Value → Heap → List Loc → Prop} {C S : Nat} (hret : meth.sig.returnType = some t) (hlk : meth.locks = false) (hn : narrow t w = w)
    (hi : (i = .ireturn ∧ (t = .int ∨ t = .boolean ∨ t = .byte ∨ t = .char ∨ t = .short) ∧ ∃ z, w = .int z) ∨ (i = .lreturn ∧ t = .long ∧ ∃ z, w = .long z) ∨ (i = .dreturn ∧ t = .double ∧ ∃ z, w = .double z) ∨ (i = .freturn ∧ t = .float ∧ ∃ z, w = .float z) ∨ (i = .areturn ∧ t.isReference = true ∧ w.isRef = true))
    (hd : decode c.code pc = .ok (i, 1)) (hc : cells ≤ C) (hs : slots ≤ S) (hq : Q (some w) h locs) : Rch p e below (LeavesW s C S Q) (T.setTop (mkF m pc Ls (w :: rest))) := by
  subst eT
  obtain ⟨fs, hr, hrun, hended, hW⟩ := X.leaveW (v := some w) hS hk (fun h => by rw [hret] at h; cases h) hlk
  exact ⟨_, _, retOut X hx hret hn hi hd hr, hrun, hended, _, _, rfl, hq, hW.1, hW.2.1, hW.2.2.1, hW.2.2.2.mono hc hs⟩
theorem Rch.voidW {vm0 : Vm} {k0 : Nat} (X : Stand p l e R (s.setVm vm0) m args below meth c T locs cells slots) (hx : p.tables.exec = Jvm.exec) (hS : s.Since vm0 k0) (eT : T.heap = h) (hk : k0 ≤ h.size) {pc : Nat} {Ls : Array Slot} {Q : Option Value → Heap → List Loc → Prop} {C S : Nat} (hret : meth.sig.returnType = none) (hlk : meth.locks = false)
    (hd : decode c.code pc = .ok (.return_, 1)) (hc : cells ≤ C) (hs : slots ≤ S) (hq : Q none h locs) : Rch p e below (LeavesW s C S Q) (T.setTop (mkF m pc Ls [])) := by
  subst eT
  obtain ⟨fs, hr, hrun, hended, hW⟩ := X.leaveW (v := none) hS hk (fun _ => rfl) hlk
  exact ⟨_, _, X.returnOut hx hret hd hr, hrun, hended, _, _, rfl, hq, hW.1, hW.2.1, hW.2.2.1, hW.2.2.2.mono hc hs⟩
end OwnWide
section OwnNum
theorem own_pos (x : Int32) : ¬ (x &&& 2147483647) < 0 := fun h => absurd ((XT.and_neg32 x 2147483647).mp h).2 (by decide)
theorem own_rem {y n : Int32} (h : ¬ y < 0) (hn : 0 < n.toInt) : 0 ≤ (y % n).toInt ∧ (y % n).toInt < n.toInt := by
  rw [Int32.toInt_mod]
  have h' : 0 ≤ y.toInt := Int.not_lt.mp fun q => h ((XT.negI32 y).mpr q)
  exact ⟨Int.tmod_nonneg _ h', Int.tmod_lt_of_pos _ hn⟩
end OwnNum
section OwnCase
variable {Z : State} {args : Array Value}
theorem own_fldI {t : Term} {a : Addr} {C n d : String} {k : Int32} (ev : t.eval args Z none [] Z = some (.ref a)) (h : (Cond.eq (.field t C n d) (.int k)).value args Z none Z [] = some true) : Fld Z Z.heap a C n d (.int k) := by
  refine Fld.start ?_
  rw [← fld_at (args := args) (first := Z) (o := none) (idx := []) (C := C) (n := n) (dd := d) ev]
  obtain ⟨x, y, h1, h2, h3, h4⟩ := cmp_v (Or.inl h)
  have h2' : y = .int k := (Option.some.inj ((Term.int_eval k).symm.trans h2)).symm
  subst h2'
  obtain ⟨z, rfl⟩ := h4
  have h5 : z = k := by simpa [Cond.value, h1, Term.int_eval] using h
  rw [h1, h5]
theorem own_fldR {t u : Term} {a b : Addr} {C n d : String} (ev : t.eval args Z none [] Z = some (.ref a)) (eu : u.eval args Z none [] Z = some (.ref b)) (h : (Cond.eq (.field t C n d) u).value args Z none Z [] = some true) : Fld Z Z.heap a C n d (.ref b) := by
  refine Fld.start ?_
  rw [← fld_at (args := args) (first := Z) (o := none) (idx := []) (C := C) (n := n) (dd := d) ev]
  obtain ⟨x, y, h1, h2, h3, h4⟩ := cmp_v (Or.inl h)
  obtain rfl : y = .ref b := Option.some.inj (h2.symm.trans eu)
  rw [h1]
  rcases ref_cases h4.2 with rfl | ⟨z, rfl⟩
  · simp [Cond.value, h1, eu] at h
  · have h5 : z = b := by simpa [Cond.value, h1, eu] using h
    rw [h5]
end OwnCase
section OwnSets
variable {Z : State} {args : Array Value}
theorem own_len {t : Term} {a : Addr} {ty : FieldType} {k : Int32} (ev : t.eval args Z none [] Z = some (.ref a)) (h1 : (Cond.arrayOf t ty).value args Z none Z [] = some true) (h2 : (Cond.eq (.length t) (.int k)).value args Z none Z [] = some true) : ∃ c, Arr Z Z.heap a c ty ∧ c.slots.size < 2 ^ 31 ∧ c.slots.size.toInt32 = k := by
  obtain ⟨c, A⟩ := Arr.start ev h1
  obtain ⟨x, y, e1, e2, e3, e4⟩ := cmp_v (Or.inl h2)
  have e2' : y = .int k := (Option.some.inj ((Term.int_eval k).symm.trans e2)).symm
  subst e2'
  obtain ⟨z, rfl⟩ := e4
  have h5 : z = k := by simpa [Cond.value, e1, Term.int_eval] using h2
  have hA : Z.arrayAt? a = some c := A.fin (Vm.Alike.refl _)
  simp only [Term.eval, ev, hA, Option.bind_eq_bind, Option.bind_some] at e1
  split at e1
  · rename_i hl
    refine ⟨c, A, hl, ?_⟩
    have := Option.some.inj e1
    rw [← h5]; exact Value.int.inj this
  · cases e1
theorem own_elem {t : Term} {a : Addr} {c : Cell} {ty : FieldType} {k : Int32} {v : Value} (A : Arr Z Z.heap a c ty) (ev : t.eval args Z none [] Z = some (.ref a)) (h : (Term.elem t (.int k)).eval args Z none [] Z = some v) : c.slots[k.toNatClampNeg]? = some v := (elem_in h ev (Term.int_eval k) A.1).2
theorem own_eqI {t : Term} {k : Int32} (h : (Cond.eq t (.int k)).value args Z none Z [] = some true) : t.eval args Z none [] Z = some (.int k) := by
  obtain ⟨x, y, e1, e2, e3, e4⟩ := cmp_v (Or.inl h)
  have e2' : y = .int k := (Option.some.inj ((Term.int_eval k).symm.trans e2)).symm
  subst e2'
  obtain ⟨z, rfl⟩ := e4
  have h5 : z = k := by simpa [Cond.value, e1, Term.int_eval] using h
  rw [e1, h5]
theorem own_eqR {t u : Term} {b : Addr} (eu : u.eval args Z none [] Z = some (.ref b)) (h : (Cond.eq t u).value args Z none Z [] = some true) : t.eval args Z none [] Z = some (.ref b) := by
  obtain ⟨x, y, h1, h2, h3, h4⟩ := cmp_v (Or.inl h)
  obtain rfl : y = .ref b := Option.some.inj (h2.symm.trans eu)
  rw [h1]
  rcases ref_cases h4.2 with rfl | ⟨z, rfl⟩
  · simp [Cond.value, h1, eu] at h
  · have h5 : z = b := by simpa [Cond.value, h1, eu] using h
    rw [h5]
theorem own_neI {t : Term} {x k : Int32} (ev : t.eval args Z none [] Z = some (.int x)) (h : (Cond.not (Cond.eq t (.int k))).value args Z none Z [] = some true) : ¬ x = k := fun q => by
  have h' := not_v h
  simp [Cond.value, ev, Term.int_eval, q] at h'
theorem own_fldV {t : Term} {a : Addr} {C n d : String} {v : Value} (ev : t.eval args Z none [] Z = some (.ref a)) (h : (Term.field t C n d).eval args Z none [] Z = some v) : Fld Z Z.heap a C n d v := Fld.start ((fld_at ev).symm.trans h)
theorem own_nref {v : Value} {t : FieldType} (h : v.isRef = true) : narrow t v = v := by cases v <;> first | rfl | (cases h; done) | (cases t <;> rfl)
theorem own_fref {v : Value} {t : FieldType} (h : v.isRef = true) (ht : t.isReference = true := by rfl) : fits t v = true := by cases t <;> first | (cases ht; done) | (cases v <;> first | rfl | (cases h; done))
end OwnSets
section OwnChar
theorem own_lcmp (x : Int64) : lcmpW x x = 0 := by simp [lcmpW]
theorem own_and255 (x : Int32) : ¬ (255 : Int32) < x &&& 255 ∧ ¬ x &&& 255 < 0 := by
  have h : (x &&& 255).toBitVec ≤ 255#32 := by
    show x.toBitVec &&& 255#32 ≤ 255#32
    rw [BitVec.le_def, BitVec.toNat_and]
    exact Nat.and_le_right
  have h2 : (x &&& 255).toInt = ((x &&& 255).toBitVec.toNat : Int) := by
    show (x &&& 255).toBitVec.toInt = _
    rw [BitVec.toInt_eq_toNat_of_lt]
    rw [BitVec.le_def] at h
    have : (255#32).toNat = 255 := rfl
    omega
  rw [BitVec.le_def] at h
  have h3 : (255#32).toNat = 255 := rfl
  rw [Int32.lt_iff_toInt_lt, Int32.lt_iff_toInt_lt, h2]
  have h4 : (255 : Int32).toInt = 255 := rfl
  have h5 : (0 : Int32).toInt = 0 := rfl
  rw [h4, h5]
  omega
/-- a char of eight bits -/
theorem own_chr (x : Int32) : ∃ c, (x &&& 255).toUInt32.toUInt16.toUInt32.toInt32 = c ∧ nar .char c = c ∧ ¬ (255 : Int32) < c ∧ ¬ c < 0 :=
  ⟨x &&& 255, i2c_mask x, i2c_mask x, (own_and255 x).1, (own_and255 x).2⟩
theorem own_ncc (x : Int32) : Value.int ((x.toUInt32.toUInt16.toUInt32.toInt32).toUInt32.toUInt16.toUInt32.toInt32) = Value.int (x.toUInt32.toUInt16.toUInt32.toInt32) := by
  have e : ∀ u : UInt16, (u.toUInt32.toInt32.toUInt32.toUInt16) = u := fun u => by rw [UInt32.toUInt32_toInt32]; exact UInt16.toUInt16_toUInt32 u
  rw [e]
end OwnChar
section OwnInst
variable {p : Program} {l : Launch} {e : Env} {R : Room} {s : State} {m : MethodId} {args : Array Value} {below : List Frame} {meth : Method} {c : Code} {T : State} {locs : List Loc} {cells slots : Nat} {Z : State} {a0 : Array Value} {h : Heap}
/-- the class K is no interface -/
def NI (Z : State) (K : String) : Prop := ∃ (t : ClassId) (k : Class), Z.vm.findClass K = some t ∧ Z.vm.classes[t]? = some k ∧ k.isInterface = false
theorem NI.ofInst {K : String} {n : Nat} (w : (Cond.instantiable K n).before a0 Z = true) : NI Z K := by
  obtain ⟨c, k, h1, h2, -, h3, -⟩ := Cond.instantiable_spec w
  exact ⟨c, k, h1, h2, by simp at h3; exact h3.1⟩
theorem NI.ofSel {C K : String} {y z : MethodName} (w : (Cond.selects C y z).before a0 Z = true) (hz : z.cls = K) : NI Z K := by
  obtain ⟨c2, r2, m2, -, -, q3, -, kP, hkP, hkPi⟩ := Cond.selects_spec w
  exact ⟨m2.cls, kP, hz ▸ findClass_of_methodNamed q3, hkP, hkPi⟩
theorem own_nsRoot {O K : String} (w : (Cond.noSuperclass O).before a0 Z = true) (wk : NI Z K) (hn : O ≠ K) : NS Z O K := by
  obtain ⟨c, k, h1, h2, h3, -, -⟩ := Cond.noSuperclass_spec w
  obtain ⟨t, -, g1, -⟩ := wk
  have ne := ids_ne h1 g1 hn
  refine ⟨c, t, h1, g1, fun fuel => ?_⟩
  cases fuel with
  | zero => rfl
  | succ f => simp [Vm.isSubclassAux, ne, h2, h3]
theorem own_nsNo {C S K : String} (w : (Cond.superclass C S).before a0 Z = true) (wk : NI Z K) (n : NS Z C K) (hn : C ≠ K) : ∃ c t, Z.vm.findClass C = some c ∧ Z.vm.findClass K = some t ∧ Z.vm.assignable c t = false := by
  obtain ⟨c, t, h0, g0, n3⟩ := n
  obtain ⟨p, k, kp, h1, h2, h3, h4, h5, -, h7⟩ := Cond.superclass_spec h0 w
  obtain ⟨t', k', g1, g2, g3⟩ := wk
  cases g0.symm.trans g1
  have ne := ids_ne h0 g0 hn
  refine ⟨c, t, h0, g0, ?_⟩
  show Z.vm.assignableAux (255 + 1) c t = false
  cases hk : k'.kind <;> simp [Vm.assignableAux, ne, h2, g2, h5, hk, g3, Vm.isSubclass, n3]
/-- 'instanceof', whichever it says -/
theorem own_instE (X : Stand p l e R s m args below meth c T locs cells slots) (hx : p.tables.exec = Jvm.exec) (hZ : Z.Warmed39 s.vm) {own K C : String} {index : Nat} (hown : s.vm.findClass own = some m.cls) (w : (Cond.classLink own index K).before a0 Z = true) (eT : T.heap = h) {a : Addr} (E : Exa Z h a C)
    {g : JFrame} (hg : g.method = m) {rest : List Value} (hs : g.stack = .ref a :: rest) (hd : decode c.code g.pc = .ok (.instanceof index, 3)) :
    (Ins Z h a K true ∧ ∃ T', Stand p l e R s m args below meth c T' locs cells slots ∧ T'.heap = h ∧ ∀ target, Steps p.tables e below (T'.setTop { g with pc := g.pc + 3, stack := .int 1 :: rest }) target → Steps p.tables e below (T.setTop g) target) ∨
    (∃ T', Stand p l e R s m args below meth c T' locs cells slots ∧ T'.heap = h ∧ ∀ target, Steps p.tables e below (T'.setTop { g with pc := g.pc + 3, stack := .int 0 :: rest }) target → Steps p.tables e below (T.setTop g) target) := by
  have hpl : e.platform.magicAccessors = ({} : Platform).magicAccessors := by rw [X.admits.platform]
  obtain ⟨t, ht, -⟩ := Cond.classLink_spec hown (mv (args := args) hZ w) e.platform hpl
  rw [hZ.alike.findClass] at ht
  obtain ⟨cell, k, h1, h2, h3, h4, h5⟩ := id E
  cases ha : Z.vm.assignable cell.cls t with
  | true =>
    have I : Ins Z h a K true := ⟨cell, t, h1, ht, by simp [h4, ha]⟩
    exact Or.inl ⟨I, instY X hx hZ hown w eT I hg hs hd⟩
  | false => exact Or.inr (instNo X hx hZ hown w eT E ⟨cell.cls, t, h2, ht, ha⟩ hg hs hd)
end OwnInst
theorem strW {Z : State} {a0 : Array Value} (hw : HW Z a0) : ∀ a ∈ Bundle.stringAtoms, a.before a0 Z = true := by
  intro a ha
  simp only [Bundle.stringAtoms, List.mem_cons, List.not_mem_nil, or_false] at ha
  rcases ha with rfl | rfl | rfl | rfl | rfl | rfl | rfl
  · exact hw _ (List.mem_of_getElem? (i := 2) rfl)
  · exact hw _ (List.mem_of_getElem? (i := 1) rfl)
  · exact hw _ (List.mem_of_getElem? (i := 15) rfl)
  · exact hw _ (List.mem_of_getElem? (i := 16) rfl)
  · exact hw _ (List.mem_of_getElem? (i := 17) rfl)
  · exact hw _ (List.mem_of_getElem? (i := 18) rfl)
  · exact hw _ (List.mem_of_getElem? (i := 19) rfl)
section OwnCalls
variable {p : Program} {l : Launch} {e : Env} {R : Room} {s : State} {m : MethodId} {args : Array Value} {below : List Frame} {meth : Method} {c : Code} {T : State} {locs : List Loc} {cells slots : Nat} {Z : State} {a0 : Array Value} {h : Heap}
theorem callSp (X : Stand p l e R s m args below meth c T locs cells slots) (hx : p.tables.exec = Jvm.exec) (hZ : Z.Warmed39 s.vm) {own : String} {index : Nat} {y : MethodName} {bytes : ByteArray} {maxL : Nat} {rm : Room} {as' : Array Value} {Q : Option Value → Heap → List Loc → Prop} (M : Ctr l Z [] y bytes maxL none as' h rm Q) (eT : T.heap = h)
    (hown : s.vm.findClass own = some m.cls) (hy1 : y.name = "<init>") (w1 : (Cond.methodLink own index y).before a0 Z = true) (w2 : (Cond.instanceMethod y).before a0 Z = true) (w5 : (Cond.code y bytes maxL none).before a0 Z = true) (w6 : (Cond.initialized y.cls).before a0 Z = true)
    (hy : y.cls ≠ "java/lang/invoke/MethodHandle" ∧ y.cls ≠ "java/lang/invoke/VarHandle") {pc : Nat} {Ls : Array Slot} {st : List Value} (hd : decode c.code pc = .ok (.invokespecial index, 3)) (W : Nat) (hf : rm.frames + 1 ≤ R.frames) (hl : W + (maxL + 11) + rm.locals ≤ R.locals) (hc : cells + rm.cells ≤ R.cells) (hs : slots + rm.slots ≤ R.slots)
    (hsz : Ls.size = c.maxLocals) (a : Addr) (argsL rest : List Value) (has : (.ref a :: argsL).toArray = as') (hlen : ∀ sig, parseMethodDescriptor y.desc = some sig → argsL.length = sig.parameters.length) (hst : st = argsL.reverse ++ .ref a :: rest) (hW : (rest.map fun v => v.category).sum ≤ W) :
    ∃ v T' L, Stand p l e R s m args below meth c T' (locs ++ L) (cells + rm.cells) (slots + rm.slots) ∧ Q v T'.heap L ∧ ∀ t, Steps p.tables e below (T'.setTop (mkF m (pc + 3) Ls (v.toList ++ rest))) t → Steps p.tables e below (T.setTop (mkF m pc Ls st)) t := by
  subst has
  obtain ⟨v, _, ⟨T', L', k', n'⟩, -, X', ⟨L, hQ, q1, q2, q3⟩, stp⟩ := X.specialBack hx (y := y) hy1 hown (mvT hZ w1) (mvT hZ w2) (mvT hZ w5) hy (backOf (W := W) M hZ w5 w6 hf hl) (g := mkF m pc Ls st) rfl hsz (Steps.refl _) (a := a) (argsL := argsL) (rest := rest) hlen hst (by show 2 * 0 + _ ≤ _; rw [Nat.mul_zero, Nat.zero_add]; exact hW) hd (fun _ _ => ⟨rfl, eT, hc, hs⟩)
  dsimp only [Pt.U, Pt.locs, Pt.cells, Pt.slots] at X' q1 q2 q3 stp hQ
  subst q1 q2 q3
  exact ⟨v, T', L, X', hQ, fun t k => stp.trans k⟩
theorem callSt (X : Stand p l e R s m args below meth c T locs cells slots) (hx : p.tables.exec = Jvm.exec) (hZ : Z.Warmed39 s.vm) {own : String} {index : Nat} {y : MethodName} {bytes : ByteArray} {maxL : Nat} {ret : Option FieldType} {rm : Room} {as' : Array Value} {Q : Option Value → Heap → List Loc → Prop} (M : Ctr l Z [] y bytes maxL ret as' h rm Q) (eT : T.heap = h)
    (hown : s.vm.findClass own = some m.cls) (w1 : (Cond.methodLink own index y).before a0 Z = true) (w2 : (Cond.static y).before a0 Z = true) (w5 : (Cond.code y bytes maxL ret).before a0 Z = true) (w6 : (Cond.initialized y.cls).before a0 Z = true)
    (hy : y.cls ≠ "java/lang/invoke/MethodHandle" ∧ y.cls ≠ "java/lang/invoke/VarHandle") {pc : Nat} {Ls : Array Slot} {st : List Value} (hd : decode c.code pc = .ok (.invokestatic index, 3)) (W : Nat) (hf : rm.frames + 1 ≤ R.frames) (hl : W + (maxL + 11) + rm.locals ≤ R.locals) (hc : cells + rm.cells ≤ R.cells) (hs : slots + rm.slots ≤ R.slots)
    (hsz : Ls.size = c.maxLocals) (argsL rest : List Value) (has : argsL.toArray = as') (hlen : ∀ sig, parseMethodDescriptor y.desc = some sig → argsL.length = sig.parameters.length) (hst : st = argsL.reverse ++ rest) (hW : (rest.map fun v => v.category).sum ≤ W) :
    ∃ v T' L, Stand p l e R s m args below meth c T' (locs ++ L) (cells + rm.cells) (slots + rm.slots) ∧ Q v T'.heap L ∧ ∀ t, Steps p.tables e below (T'.setTop (mkF m (pc + 3) Ls (v.toList ++ rest))) t → Steps p.tables e below (T.setTop (mkF m pc Ls st)) t := by
  subst has
  obtain ⟨v, _, ⟨T', L', k', n'⟩, -, X', ⟨L, hQ, q1, q2, q3⟩, stp⟩ := Jvm.LawKit.callS X hx (y := y) hown (mvT hZ w1) (mvT hZ w2) (mvT hZ w6) (mvT hZ w5) hy (backOf (W := W) M hZ w5 w6 hf hl) (g := mkF m pc Ls st) rfl hsz (argsL := argsL) (rest := rest) hlen hst (by show 2 * 0 + _ ≤ _; rw [Nat.mul_zero, Nat.zero_add]; exact hW) hd (fun _ _ => ⟨rfl, eT, hc, hs⟩)
  dsimp only [Pt.U, Pt.locs, Pt.cells, Pt.slots] at X' q1 q2 q3 stp hQ
  subst q1 q2 q3
  exact ⟨v, T', L, X', hQ, stp⟩
theorem callVi (X : Stand p l e R s m args below meth c T locs cells slots) (hx : p.tables.exec = Jvm.exec) (hZ : Z.Warmed39 s.vm) {own C : String} {index : Nat} {y z : MethodName} {bytes : ByteArray} {maxL : Nat} {ret : Option FieldType} {rm : Room} {as' : Array Value} {Q : Option Value → Heap → List Loc → Prop} (M : Ctr l Z [] z bytes maxL ret as' h rm Q) (eT : T.heap = h)
    (hown : s.vm.findClass own = some m.cls) (w1 : (Cond.methodLink own index y).before a0 Z = true) (w2 : (Cond.declares y).before a0 Z = true) (w3 : (Cond.selects C y z).before a0 Z = true) (hnf : NotFace s y) (w4 : (Cond.instanceMethod z).before a0 Z = true) (w5 : (Cond.code z bytes maxL ret).before a0 Z = true) (w6 : (Cond.initialized z.cls).before a0 Z = true)
    (hy : y.cls ≠ "java/lang/invoke/MethodHandle" ∧ y.cls ≠ "java/lang/invoke/VarHandle") {pc : Nat} {Ls : Array Slot} {st : List Value} (hd : decode c.code pc = .ok (.invokevirtual index, 3)) (W : Nat) (hf : rm.frames + 1 ≤ R.frames) (hl : W + (maxL + 11) + rm.locals ≤ R.locals) (hc : cells + rm.cells ≤ R.cells) (hs : slots + rm.slots ≤ R.slots)
    (hsz : Ls.size = c.maxLocals) (a : Addr) (E : Exa Z h a C) (argsL rest : List Value) (has : (.ref a :: argsL).toArray = as') (hlen : ∀ sig, parseMethodDescriptor y.desc = some sig → argsL.length = sig.parameters.length) (hst : st = argsL.reverse ++ .ref a :: rest) (hW : (rest.map fun v => v.category).sum ≤ W) :
    ∃ v T' L, Stand p l e R s m args below meth c T' (locs ++ L) (cells + rm.cells) (slots + rm.slots) ∧ Q v T'.heap L ∧ ∀ t, Steps p.tables e below (T'.setTop (mkF m (pc + 3) Ls (v.toList ++ rest))) t → Steps p.tables e below (T.setTop (mkF m pc Ls st)) t := by
  subst has
  obtain ⟨cq, kq, qa, qb, qc⟩ := isOf hZ eT E
  obtain ⟨v, _, ⟨T', L', k', n'⟩, -, X', ⟨L, hQ, q1, q2, q3⟩, stp⟩ := X.virtualBack hx (y := y) (z := z) hown (mvT hZ w1) (mvT hZ w2) hnf (mvT hZ w3) (mvT hZ w4) hy (backOf (W := W) M hZ w5 w6 hf hl) qa qc (g := mkF m pc Ls st) rfl hsz (Steps.refl _) (argsL := argsL) (rest := rest) hlen hst (by show 2 * 0 + _ ≤ _; rw [Nat.mul_zero, Nat.zero_add]; exact hW) hd (fun _ _ => ⟨rfl, eT, hc, hs⟩)
  dsimp only [Pt.U, Pt.locs, Pt.cells, Pt.slots] at X' q1 q2 q3 stp hQ
  subst q1 q2 q3
  exact ⟨v, T', L, X', hQ, fun t k => stp.trans k⟩
end OwnCalls
def Olds (Z : State) (ro0 : Addr) (ro1 : Addr) (ro2 : Addr) (ro3 : Addr) (ro4 : Addr) (ro5 : Addr) (ro6 : Addr) (ro7 : Addr) (ro8 : Addr) (ro9 : Addr) (ww10 : Int32) (ww11 : Value) (kk_ro0 : ClassId) (kk_ro5 : ClassId) (kk_ro7 : ClassId) (kk_ro9 : ClassId) : Prop := Sta Z Z.heap s1' "$VALUES" s3' (.ref ro0) ∧ Exa Z Z.heap ro0 s3' ∧ Sta Z Z.heap s1' "AT_MOST" s9' (.ref ro1) ∧ Exa Z Z.heap ro1 s1' ∧ Sta Z Z.heap s1' "BELOW" s9' (.ref ro2) ∧ Exa Z Z.heap ro2 s1' ∧ Sta Z Z.heap s1' "ANY" s9' (.ref ro3) ∧ Exa Z Z.heap ro3 s1' ∧ Fld Z Z.heap ro1 s1' "text" "Ljava/lang/String;" (.ref ro4) ∧ Exa Z Z.heap ro4 "java/lang/String" ∧ Fld Z Z.heap ro4 "java/lang/String" "value" "[B" (.ref ro5) ∧ Fld Z Z.heap ro2 s1' "text" "Ljava/lang/String;" (.ref ro6) ∧ Exa Z Z.heap ro6 "java/lang/String" ∧ Fld Z Z.heap ro6 "java/lang/String" "value" "[B" (.ref ro7) ∧ Fld Z Z.heap ro3 s1' "text" "Ljava/lang/String;" (.ref ro8) ∧ Exa Z Z.heap ro8 "java/lang/String" ∧ Fld Z Z.heap ro8 "java/lang/String" "value" "[B" (.ref ro9) ∧ Fld Z Z.heap ro4 "java/lang/String" "coder" "B" (.int 0) ∧ Fld Z Z.heap ro6 "java/lang/String" "coder" "B" (.int 0) ∧ Fld Z Z.heap ro8 "java/lang/String" "coder" "B" (.int 0) ∧ Sta Z Z.heap "java/lang/String" "COMPACT_STRINGS" "Z" (.int ww10) ∧ Sta Z Z.heap s6' "SIOOBE_FORMATTER" "Ljava/util/function/BiFunction;" ww11 ∧ Arv Z Z.heap ro0 kk_ro0 (.object s1') (3 : Int32) [(.ref ro1), (.ref ro2), (.ref ro3)] .null ∧ Arv Z Z.heap ro5 kk_ro5 .byte (1 : Int32) [(.int 69)] (.int 0) ∧ Arv Z Z.heap ro7 kk_ro7 .byte (1 : Int32) [(.int 101)] (.int 0) ∧ Arv Z Z.heap ro9 kk_ro9 .byte (1 : Int32) [(.int 38)] (.int 0) ∧ ¬ (ww10 = (0 : Int32)) ∧ ww11.isRef = true
section OwnHeld
variable {p : Program} {l : Launch} {e : Env} {R : Room} {s : State} {m : MethodId} {args : Array Value} {below : List Frame} {meth : Method} {c : Code} {T : State} {locs : List Loc} {cells slots : Nat} {Z : State} {a0 : Array Value} {h : Heap}
/-- a contract that asks something of the tables at its start -/
def CtrJ (l : Launch) (Z : State) (ws : List Jvm.Cond) (y : MethodName) (bytes : ByteArray) (maxL : Nat) (ret : Option FieldType) (as' : Array Value) (h0 : Heap) (rm : Room) (J : Vm → Prop) (Q : Option Value → Heap → List Loc → Prop) : Prop :=
  MetFree l y (head1 (Jvm.Cond.code y bytes maxL ret :: ws) rm) (fun a U => a = as' ∧ Z.Warmed39 U.vm ∧ U.heap = h0 ∧ J U.vm) (fun _ _ _ _ _ => True) (fun _ U o U' => ∃ v L, o = .returned v ∧ Q v U'.heap L ∧ ReturnedEndW U o U' L rm.cells rm.slots)
theorem CtrJ.of {ws : List Jvm.Cond} {y : MethodName} {bytes : ByteArray} {maxL : Nat} {ret : Option FieldType} {as' : Array Value} {h0 : Heap} {rm : Room} {J : Vm → Prop} {Q : Option Value → Heap → List Loc → Prop} {Ls : Array Slot} (hpn : plainFor y = true) (ef : ∀ m, entryFrame m as' maxL = mkF m 0 Ls [])
    (H : ∀ (p : Program) (e : Env) (s : State) (vm0 : Vm) (m : MethodId) (below : List Frame) (meth : Method) (c : Code) (T : State), p.tables.exec = Jvm.exec → Z.Warmed39 vm0 → c.code = bytes → c.maxLocals = maxL → vm0.findClass y.cls = some m.cls → meth.name = y.name → meth.sig.returnType = ret → meth.locks = false →
      s.Since vm0 h0.size → J vm0 → Stand p l e rm (s.setVm vm0) m as' below meth c T [] 0 0 → T.heap = h0 → Rch p e below (LeavesW s rm.cells rm.slots Q) (T.setTop (mkF m 0 Ls []))) : CtrJ l Z ws y bytes maxL ret as' h0 rm J Q := by
  refine MetFree.of_bodySF hpn hisR ?_
  intro p e s m args below meth c s₁ Bd hml0 hP hK
  obtain ⟨rfl, hZ, hh, hJ⟩ := hP
  have e0 : s₁.heap = h0 := by rw [← hh, Bd.state]; rfl
  obtain ⟨t, o, r1, r2, r3, r4⟩ := H p e s s.vm m below meth c s₁ Bd.exec hZ Bd.bytes hml0 (findClass_of_methodNamed Bd.named) (name_of_methodNamed Bd.named Bd.method).1 Bd.returns Bd.notSynchronized ((State.WarmedH.refl s).since _) hJ (Stand.of_body Bd) e0
  exact ⟨t, o, castTop (ef m) r1, r2, r3, r4⟩
theorem backOfJ {y : MethodName} {bytes : ByteArray} {maxL : Nat} {ret : Option FieldType} {rm : Room} {len W : Nat} {as' : Array Value} {J : Vm → Prop} {Q : Option Value → Heap → List Loc → Prop} (hM : CtrJ l Z [] y bytes maxL ret as' h rm J Q)
    (hZ : Z.Warmed39 s.vm) (wc : (Cond.code y bytes maxL ret).before a0 Z = true) (wz : (Cond.initialized y.cls).before a0 Z = true) (hf : rm.frames + 1 ≤ R.frames) (hl : W + (maxL + 11) + rm.locals ≤ R.locals)
    (hJ : ∀ (m : MethodId) (meth : Method) (c : Code) (A : Pt), Stand p l e R s m args below meth c A.U A.locs A.cells A.slots → A.U.heap = h → J A.U.vm) :
    BackS l R p e below s args y len W (fun A a => a = as' ∧ A.U.heap = h ∧ A.cells + rm.cells ≤ R.cells ∧ A.slots + rm.slots ≤ R.slots) (fun A _ v B => ∃ L, Q v B.U.heap L ∧ B.locs = A.locs ++ L ∧ B.cells = A.cells + rm.cells ∧ B.slots = A.slots + rm.slots) :=
  BackS.of_freeW (bytes := bytes) (maxL := maxL) (ret := ret) (E := fun _ _ o t L k n => k = rm.cells ∧ n = rm.slots ∧ ∃ v, o = .returned v ∧ Q v t.heap L) hM hf hl
    (fun m meth c A a Y hp => have hU : Z.Warmed39 A.U.vm := wtrans hZ Y.warmed
      ⟨by show (Cond.and _ .tt).before a A.U = true; rw [Cond.before_and, mv hU wc]; rfl, mv hU wc, mv hU wz, hp.2.2.1, hp.2.2.2⟩)
    (fun m meth c A a g mk Y hp => ⟨hp.1, wtrans hZ Y.warmed, hp.2.1, hJ m meth c A Y hp.2.1⟩) (fun _ _ _ _ _ _ _ _ _ => trivial)
    (fun _ _ _ _ ⟨v, L, h1, h2, h3⟩ => ⟨L, _, _, h3, rfl, rfl, v, h1, h2⟩)
    (fun m meth c A a g mk v t L k n Y hp _ _ ⟨e1, e2, v', e3, e4⟩ => by cases e3; subst e1 e2; exact ⟨L, e4, rfl, rfl, rfl⟩)
theorem callSpJ {vm0 : Vm} {k0 : Nat} (X : Stand p l e R (s.setVm vm0) m args below meth c T locs cells slots) (hx : p.tables.exec = Jvm.exec) (hZ : Z.Warmed39 vm0) (hS : s.Since vm0 k0) (hk : k0 ≤ h.size) {own : String} {index : Nat} {y : MethodName} {bytes : ByteArray} {maxL : Nat} {rm : Room} {as' : Array Value} {J : Vm → Prop} {Q : Option Value → Heap → List Loc → Prop} (M : CtrJ l Z [] y bytes maxL none as' h rm J Q) (eT : T.heap = h)
    (hJ : ∀ (m : MethodId) (meth : Method) (c : Code) (A : Pt), Stand p l e R (s.setVm vm0) m args below meth c A.U A.locs A.cells A.slots → A.U.heap = h → J A.U.vm)
    (hown : vm0.findClass own = some m.cls) (hy1 : y.name = "<init>") (w1 : (Cond.methodLink own index y).before a0 Z = true) (w2 : (Cond.instanceMethod y).before a0 Z = true) (w5 : (Cond.code y bytes maxL none).before a0 Z = true) (w6 : (Cond.initialized y.cls).before a0 Z = true)
    (hy : y.cls ≠ "java/lang/invoke/MethodHandle" ∧ y.cls ≠ "java/lang/invoke/VarHandle") {pc : Nat} {Ls : Array Slot} {st : List Value} (hd : decode c.code pc = .ok (.invokespecial index, 3)) (W : Nat) (hf : rm.frames + 1 ≤ R.frames) (hl : W + (maxL + 11) + rm.locals ≤ R.locals) (hc : cells + rm.cells ≤ R.cells) (hs : slots + rm.slots ≤ R.slots)
    (hsz : Ls.size = c.maxLocals) (a : Addr) (argsL rest : List Value) (has : (.ref a :: argsL).toArray = as') (hlen : ∀ sig, parseMethodDescriptor y.desc = some sig → argsL.length = sig.parameters.length) (hst : st = argsL.reverse ++ .ref a :: rest) (hW : (rest.map fun v => v.category).sum ≤ W) :
    ∃ v T' L, Stand p l e R (s.setVm T'.vm) m args below meth c T' (locs ++ L) (cells + rm.cells) (slots + rm.slots) ∧ Q v T'.heap L ∧ s.Since T'.vm T'.heap.size ∧ Z.Warmed39 T'.vm ∧ T'.vm.findClass own = some m.cls ∧ ∀ t, Steps p.tables e below (T'.setTop (mkF m (pc + 3) Ls (v.toList ++ rest))) t → Steps p.tables e below (T.setTop (mkF m pc Ls st)) t := by
  subst has
  obtain ⟨v, _, ⟨T', L', k', n'⟩, -, X', hS', hgr, ⟨L, hQ, q1, q2, q3⟩, stp⟩ := X.specialBackS hx (y := y) hy1 hown (mvT (s := (s.setVm vm0)) hZ w1) (mvT (s := (s.setVm vm0)) hZ w2) (mvT (s := (s.setVm vm0)) hZ w5) hy (backOfJ (s := (s.setVm vm0)) (W := W) M hZ w5 w6 hf hl hJ) (g := mkF m pc Ls st) rfl hsz (Steps.refl _) (a := a) (argsL := argsL) (rest := rest) hlen hst (by show 2 * 0 + _ ≤ _; rw [Nat.mul_zero, Nat.zero_add]; exact hW) hd (fun _ _ => ⟨rfl, eT, hc, hs⟩)
  dsimp only [Pt.U, Pt.locs, Pt.cells, Pt.slots] at X' q1 q2 q3 stp hQ hS' hgr
  subst q1 q2 q3
  exact ⟨v, T', L, X', hQ, hS.trans hS' (Nat.le_trans hk (by rw [← eT]; exact hgr)), State.Warmed39.trans (t := s.setVm vm0) hZ hS'.1, by rw [hS'.1.alike.findClass]; exact hown, fun t k => stp.trans k⟩
abbrev EL0 : List (String × Nat) := [("java/lang/String", 7)]
/-- the empty text's constant holds what it spells, and x is no part of it -/
def JS (Z : State) (h : Heap) (x : Addr) (vm : Vm) : Prop := CHv Z EL0 vm h ∧ Safe Z EL0 vm h x
theorem own_ew (w : (Cond.stringLink "java/lang/String" 7 "").before a0 Z = true) : EW Z a0 EL0 := EW.cons w (by simp) EW.nil
theorem own_js {vm0 : Vm} {x : Addr} (w : (Cond.stringLink "java/lang/String" 7 "").before a0 Z = true) (hZ : Z.Warmed39 vm0) (hx : x < h.size) (J : JS Z h x vm0) :
    ∀ (m : MethodId) (meth : Method) (c : Code) (A : Pt), Stand p l e R (s.setVm vm0) m args below meth c A.U A.locs A.cells A.slots → A.U.heap = h → JS Z h x A.U.vm := fun m meth c A Y _ =>
  have q := CHv.at Y hZ (own_ew w) J.1
  ⟨q.1, q.safe hx J.2⟩
end OwnHeld
theorem wd_41 {Z a0} (hw : HW Z a0) : (Cond.initializedFor s1' "$VALUES" s3').before a0 Z = true := hw.at 41 rfl
theorem wd_38 {Z a0} (hw : HW Z a0) : (Cond.laysStatic s1' "AT_MOST" s9').before a0 Z = true := hw.at 38 rfl
theorem wd_24 {Z a0} (hw : HW Z a0) : (Cond.initialized s1').before a0 Z = true := hw.at 24 rfl
theorem wd_39 {Z a0} (hw : HW Z a0) : (Cond.laysStatic s1' "BELOW" s9').before a0 Z = true := hw.at 39 rfl
theorem wd_40 {Z a0} (hw : HW Z a0) : (Cond.laysStatic s1' "ANY" s9').before a0 Z = true := hw.at 40 rfl
theorem wd_14 {Z a0} (hw : HW Z a0) : (Cond.stringLink "java/lang/String" (7 : Nat) "").before a0 Z = true := hw.at 14 rfl
theorem d0_0 : decode jdk_42_method_149_code 0 = .ok (.aload_n 0, 1) := by decide +kernel
theorem d0_1 : decode jdk_42_method_149_code 1 = .ok (.invokespecial 1, 3) := by decide +kernel
theorem wd_11 {Z a0} (hw : HW Z a0) : (Cond.methodLink "java/lang/String" (1 : Nat) ⟨"java/lang/Object", "<init>", "()V"⟩).before a0 Z = true := hw.at 11 rfl
theorem wd_12 {Z a0} (hw : HW Z a0) : (Cond.instanceMethod ⟨"java/lang/Object", "<init>", "()V"⟩).before a0 Z = true := hw.at 12 rfl
theorem wd_13 {Z a0} (hw : HW Z a0) : (Cond.code ⟨"java/lang/Object", "<init>", "()V"⟩ object_method_1_code (1 : Nat) (Option.none : Option FieldType)).before a0 Z = true := hw.at 13 rfl
theorem d0_4 : decode jdk_42_method_149_code 4 = .ok (.iload_n 3, 1) := by decide +kernel
theorem d0_5 : decode jdk_42_method_149_code 5 = .ok (.ifCond .ne 22, 3) := by decide +kernel
theorem d0_8 : decode jdk_42_method_149_code 8 = .ok (.aload_n 0, 1) := by decide +kernel
theorem d0_9 : decode jdk_42_method_149_code 9 = .ok (.ldc 7, 2) := by decide +kernel
theorem d0_11 : decode jdk_42_method_149_code 11 = .ok (.getfield 9, 3) := by decide +kernel
theorem wd_20 {Z a0} (hw : HW Z a0) : (Cond.fieldLink "java/lang/String" (9 : Nat) "java/lang/String" "value" "[B").before a0 Z = true := hw.at 20 rfl
theorem d0_14 : decode jdk_42_method_149_code 14 = .ok (.putfield 9, 3) := by decide +kernel
theorem wd_16 {Z a0} (hw : HW Z a0) : (Cond.laysFinal "java/lang/String" "java/lang/String" "value" "[B").before a0 Z = true := hw.at 16 rfl
theorem wd_1 {Z a0} (hw : HW Z a0) : (Cond.instantiable "java/lang/String" (4 : Nat)).before a0 Z = true := hw.at 1 rfl
theorem d0_17 : decode jdk_42_method_149_code 17 = .ok (.aload_n 0, 1) := by decide +kernel
theorem d0_18 : decode jdk_42_method_149_code 18 = .ok (.ldc 7, 2) := by decide +kernel
theorem d0_20 : decode jdk_42_method_149_code 20 = .ok (.getfield 15, 3) := by decide +kernel
theorem wd_21 {Z a0} (hw : HW Z a0) : (Cond.fieldLink "java/lang/String" (15 : Nat) "java/lang/String" "coder" "B").before a0 Z = true := hw.at 21 rfl
theorem d0_23 : decode jdk_42_method_149_code 23 = .ok (.putfield 15, 3) := by decide +kernel
theorem wd_17 {Z a0} (hw : HW Z a0) : (Cond.laysFinal "java/lang/String" "java/lang/String" "coder" "B").before a0 Z = true := hw.at 17 rfl
theorem d0_26 : decode jdk_42_method_149_code 26 = .ok (.return_, 1) := by decide +kernel
theorem pn_java_lang_String : plainName "java/lang/String" = true := by first | (simp [plainName, overriddenIn]; done) | decide +kernel
theorem ef_estr2 (m : MethodId) (x1 x2 : Addr) : entryFrame m #[(.ref x1), (.ref x2), (.int 0), (.int 0), .null] 6 = mkF m 0 #[rv x1, rv x2, iv 0, iv 0, .val .null, uu] [] := by first | rfl | (simp [entryFrame, mkF, argsToLocals, Value.category]; done)
theorem estr2 (l : Launch) (Z : State) (a0 : Array Value) (hw : HW Z a0) (x1 x2 : Addr) (vx1 vx2 : Value) (h0 : Heap) (n0 : Nat) (Z0 : n0 ≤ h0.size) (O0 : Old Z n0 h0) (P1 : Exa Z h0 x1 "java/lang/String") (P2 : Fld Z h0 x1 "java/lang/String" "value" "[B" vx1) (P3 : Fld Z h0 x1 "java/lang/String" "coder" "B" vx2) (P4 : n0 ≤ x1) :
    CtrJ l Z [] (⟨"java/lang/String", "<init>", "([CIILjava/lang/Void;)V"⟩ : MethodName) jdk_42_method_149_code 6 none #[(.ref x1), (.ref x2), (.int 0), (.int 0), .null] h0 ({ frames := 1, cells := 4, slots := 8, locals := 12 } : Room) (JS Z h0 x1) (fun v h L => ∃ (b : Addr) (k : ClassId), v = none ∧ Fr n0 L ∧ Keep h0 h [x1] ∧ Fld Z h x1 "java/lang/String" "value" "[B" (.ref b) ∧ Fld Z h x1 "java/lang/String" "coder" "B" (.int 0) ∧ Arv Z h b k .byte (0 : Int32) [] (.int 0) ∧ b < h.size) := by
  refine CtrJ.of (plainFor_of_name pn_java_lang_String) (fun m => ef_estr2 m x1 x2) ?_
  intro p e s vm0 m below meth c T0 hx hZ hby hml hown hnm hret hlk Y0 J0 X0 e0
  have N0 := Fr.nil n0
  show Aw p e below _ T0 m 0 #[rv x1, rv x2, iv 0, iv 0, .val .null, uu] []
  refine Rch.go (fun t k => XS.aloadN X0.here hx rfl (hb hby d0_0) rfl rfl k) ?_
  show Aw p e below _ T0 m 1 #[rv x1, rv x2, iv 0, iv 0, .val .null, uu] [(.ref x1)]
  obtain ⟨T1, X1, e1, st1⟩ := initO X0 hx hZ hown (wd_11 hw) (wd_12 hw) (wd_13 hw) e0 (g := (mkF m 1 #[rv x1, rv x2, iv 0, iv 0, .val .null, uu] [(.ref x1)])) rfl (by rw [hml]; rfl) rfl (hb hby d0_1) (by decide) (W := 0) (by show 2 * 0 + _ ≤ _; exact Nat.le_of_eq rfl) (by decide)
  refine Rch.go st1 ?_
  show Aw p e below _ T1 m 4 #[rv x1, rv x2, iv 0, iv 0, .val .null, uu] []
  refine Rch.go (fun t k => XS.iloadN X1.here hx rfl (hb hby d0_4) rfl  (XS.ifNo X1.here hx rfl (hb hby d0_5) rfl (by decide) (XS.aloadN X1.here hx rfl (hb hby d0_8) rfl rfl k))) ?_
  show Aw p e below _ T1 m 9 #[rv x1, rv x2, iv 0, iv 0, .val .null, uu] [(.ref x1)]
  obtain ⟨b2, T2, h2, k2, v2, c2, X2, e2, E2, Y2, yk2, hZ2, hown2, A2, F2, V2, R2, l2, m2, C2, -, N2, st2⟩ := ldcCH X1 hx hZ hown (wd_14 hw) (strW hw) e1 Y0 (Nat.le_refl _) (own_ew (wd_14 hw)) (List.mem_of_getElem? (i := 0) rfl) J0.1 (vs := []) (z := (0 : Int32)) ⟨by simp, rfl⟩ (by decide) rfl (g := (mkF m 9 #[rv x1, rv x2, iv 0, iv 0, .val .null, uu] [(.ref x1)])) rfl (hb hby d0_9) (n := 0) (by decide) (by decide) (by decide) (by decide)
  have S2 := C2.safe P1.lt J0.2
  obtain ⟨na2, nb2⟩ := N2 _ S2
  refine Rch.go st2 ?_
  show Aw p e below _ T2 m 11 #[rv x1, rv x2, iv 0, iv 0, .val .null, uu] [(.ref b2), (.ref x1)]
  obtain ⟨T3, X3, e3, st3⟩ := getF X2 hx hZ2 hown2 (host := "") (Or.inl (wd_20 hw)) Via.refl e2 V2 (g := (mkF m 11 #[rv x1, rv x2, iv 0, iv 0, .val .null, uu] [(.ref b2), (.ref x1)])) rfl rfl (hb hby d0_11)
  refine Rch.go st3 ?_
  show Aw p e below _ T3 m 14 #[rv x1, rv x2, iv 0, iv 0, .val .null, uu] [(.ref v2), (.ref x1)]
  have f5 := (P2.ext E2)
  have f6 := (P1.ext E2)
  obtain ⟨T4, h4, X4, e4, W4, st4⟩ := putF X3 hx hZ2 hown2 (host := "") (Or.inl (wd_20 hw)) Via.refl e3 f5 f6 (Or.inr ⟨(wd_16 hw), rfl, hnm⟩) (wd_1 hw) (ty := (.array .byte)) (by decide) rfl rfl (g := (mkF m 14 #[rv x1, rv x2, iv 0, iv 0, .val .null, uu] [(.ref v2), (.ref x1)])) rfl rfl (hb hby d0_14)
  refine Rch.go st4 ?_
  have F4 := f5.same W4
  have N4 := Fr.snoc X4 N0 P4
  show Aw p e below _ T4 m 17 #[rv x1, rv x2, iv 0, iv 0, .val .null, uu] []
  have H7 := C2.1.wr W4 S2
  have S7 := Safe.wr W4 S2 C2.1 S2
  show Aw p e below _ T4 m 17 #[rv x1, rv x2, iv 0, iv 0, .val .null, uu] []
  refine Rch.go (fun t k => XS.aloadN X4.here hx rfl (hb hby d0_17) rfl rfl k) ?_
  show Aw p e below _ T4 m 18 #[rv x1, rv x2, iv 0, iv 0, .val .null, uu] [(.ref x1)]
  obtain ⟨b8, T8, h8, k8, v8, c8, X8, e8, E8, Y8, yk8, hZ8, hown8, A8, F8, V8, R8, l8, m8, C8, -, N8, st8⟩ := ldcCH X4 hx hZ2 hown2 (wd_14 hw) (strW hw) e4 Y2 (Nat.le_trans yk2 (Nat.le_of_eq W4.size.symm)) (own_ew (wd_14 hw)) (List.mem_of_getElem? (i := 0) rfl) H7 (vs := []) (z := (0 : Int32)) ⟨by simp, rfl⟩ (by decide) rfl (g := (mkF m 18 #[rv x1, rv x2, iv 0, iv 0, .val .null, uu] [(.ref x1)])) rfl (hb hby d0_18) (n := 0) (by decide) (by decide) (by decide) (by decide)
  have S8 := C8.safe (Nat.lt_of_lt_of_le (Nat.lt_of_lt_of_le P1.lt E2.1) (Nat.le_of_eq W4.size.symm)) S7
  obtain ⟨na8, nb8⟩ := N8 _ S8
  refine Rch.go st8 ?_
  show Aw p e below _ T8 m 20 #[rv x1, rv x2, iv 0, iv 0, .val .null, uu] [(.ref b8), (.ref x1)]
  obtain ⟨T9, X9, e9, st9⟩ := getF X8 hx hZ8 hown8 (host := "") (Or.inl (wd_21 hw)) Via.refl e8 F8 (g := (mkF m 20 #[rv x1, rv x2, iv 0, iv 0, .val .null, uu] [(.ref b8), (.ref x1)])) rfl rfl (hb hby d0_20)
  refine Rch.go st9 ?_
  show Aw p e below _ T9 m 23 #[rv x1, rv x2, iv 0, iv 0, .val .null, uu] [(.int 0), (.ref x1)]
  have f11 := (((P3.ext E2).other W4 (Or.inr (slot_ne (Or.inr (wd_17 hw)) (Or.inr (wd_16 hw)) (by decide) (t := .byte) (t' := (.array .byte)) (by decide) (by decide)))).ext E8)
  have f12 := ((f6.wr W4).ext E8)
  obtain ⟨T10, h10, X10, e10, W10, st10⟩ := putFN X9 hx hZ8 hown8 (wd_21 hw) Via.refl e9 f11 f12 (Or.inr ⟨(wd_17 hw), rfl, hnm⟩) (wd_1 hw) (ty := .byte) (v' := (.int 0)) (by decide) rfl rfl (g := (mkF m 23 #[rv x1, rv x2, iv 0, iv 0, .val .null, uu] [(.int 0), (.ref x1)])) rfl rfl (hb hby d0_23)
  refine Rch.go st10 ?_
  have F10 := f11.same W10
  have N10 := Fr.snoc X10 N4 P4
  show Aw p e below _ T10 m 26 #[rv x1, rv x2, iv 0, iv 0, .val .null, uu] []
  have f13 := (((R2.other W4 (Ne.symm nb2)).ext E8).other W10 (Ne.symm nb2))
  have f14 := ((F4.ext E8).other W10 (Or.inr (slot_ne (Or.inr (wd_16 hw)) (Or.inr (wd_17 hw)) (by decide) (t := (.array .byte)) (t' := .byte) (by decide) (by decide))))
  refine Rch.voidW X10 hx Y8 e10 (Nat.le_trans yk8 (Nat.le_of_eq W10.size.symm)) hret hlk (hb hby d0_26) (by decide) (by decide) ?_
  exact ⟨v2, c2, rfl, N10, (((((Keep.refl _ _).ext E2).wr W4 (Or.inl (List.mem_of_getElem? (i := 0) rfl))).ext E8).wr W10 (Or.inl (List.mem_of_getElem? (i := 0) rfl))), f14, F10, f13, f13.lt⟩
theorem d1_0 : decode jdk_42_method_3_code 0 = .ok (.aload_n 0, 1) := by decide +kernel
theorem d1_1 : decode jdk_42_method_3_code 1 = .ok (.aload_n 1, 1) := by decide +kernel
theorem d1_2 : decode jdk_42_method_3_code 2 = .ok (.iconst 0, 1) := by decide +kernel
theorem d1_3 : decode jdk_42_method_3_code 3 = .ok (.aload_n 1, 1) := by decide +kernel
theorem d1_4 : decode jdk_42_method_3_code 4 = .ok (.arraylength, 1) := by decide +kernel
theorem d1_5 : decode jdk_42_method_3_code 5 = .ok (.aconst_null, 1) := by decide +kernel
theorem d1_6 : decode jdk_42_method_3_code 6 = .ok (.invokespecial 27, 3) := by decide +kernel
theorem wd_7 {Z a0} (hw : HW Z a0) : (Cond.methodLink "java/lang/String" (27 : Nat) ⟨"java/lang/String", "<init>", "([CIILjava/lang/Void;)V"⟩).before a0 Z = true := hw.at 7 rfl
theorem wd_8 {Z a0} (hw : HW Z a0) : (Cond.instanceMethod ⟨"java/lang/String", "<init>", "([CIILjava/lang/Void;)V"⟩).before a0 Z = true := hw.at 8 rfl
theorem wd_10 {Z a0} (hw : HW Z a0) : (Cond.code ⟨"java/lang/String", "<init>", "([CIILjava/lang/Void;)V"⟩ jdk_42_method_149_code (6 : Nat) (Option.none : Option FieldType)).before a0 Z = true := hw.at 10 rfl
theorem wd_2 {Z a0} (hw : HW Z a0) : (Cond.initialized "java/lang/String").before a0 Z = true := hw.at 2 rfl
theorem pd_0 : parseMethodDescriptor "([CIILjava/lang/Void;)V" = some ⟨[(.array .char), .int, .int, (.object "java/lang/Void")], none⟩ := by decide +kernel
theorem d1_9 : decode jdk_42_method_3_code 9 = .ok (.return_, 1) := by decide +kernel
theorem ef_estr1 (m : MethodId) (x1 x2 : Addr) : entryFrame m #[(.ref x1), (.ref x2)] 2 = mkF m 0 #[rv x1, rv x2] [] := by first | rfl | (simp [entryFrame, mkF, argsToLocals, Value.category]; done)
theorem estr1 (l : Launch) (Z : State) (a0 : Array Value) (hw : HW Z a0) (x1 x2 : Addr) (kx2 : ClassId) (vx1 vx2 : Value) (h0 : Heap) (n0 : Nat) (Z0 : n0 ≤ h0.size) (O0 : Old Z n0 h0) (P1 : Exa Z h0 x1 "java/lang/String") (P2 : Fld Z h0 x1 "java/lang/String" "value" "[B" vx1) (P3 : Fld Z h0 x1 "java/lang/String" "coder" "B" vx2) (P4 : n0 ≤ x1) (P5 : Arv Z h0 x2 kx2 .char (0 : Int32) [] (.int 0)) :
    CtrJ l Z [] (⟨"java/lang/String", "<init>", "([C)V"⟩ : MethodName) jdk_42_method_3_code 2 none #[(.ref x1), (.ref x2)] h0 ({ frames := 2, cells := 4, slots := 8, locals := 29 } : Room) (JS Z h0 x1) (fun v h L => ∃ (b : Addr) (k : ClassId), v = none ∧ Fr n0 L ∧ Keep h0 h [x1] ∧ Fld Z h x1 "java/lang/String" "value" "[B" (.ref b) ∧ Fld Z h x1 "java/lang/String" "coder" "B" (.int 0) ∧ Arv Z h b k .byte (0 : Int32) [] (.int 0) ∧ b < h.size) := by
  refine CtrJ.of (plainFor_of_name pn_java_lang_String) (fun m => ef_estr1 m x1 x2) ?_
  intro p e s vm0 m below meth c T0 hx hZ hby hml hown hnm hret hlk Y0 J0 X0 e0
  have N0 := Fr.nil n0
  show Aw p e below _ T0 m 0 #[rv x1, rv x2] []
  refine Rch.go (fun t k => XS.aloadN X0.here hx rfl (hb hby d1_0) rfl rfl (XS.aloadN X0.here hx rfl (hb hby d1_1) rfl rfl (XS.iconst X0.here hx rfl (hb hby d1_2) (XS.aloadN X0.here hx rfl (hb hby d1_3) rfl rfl k)))) ?_
  show Aw p e below _ T0 m 4 #[rv x1, rv x2] [(.ref x2), (.int 0), (.ref x2), (.ref x1)]
  obtain ⟨c1, r1, q1, s1, u1, H1, G1⟩ := id P5
  refine Rch.go (fun t k => X0.arraylength hx (by rw [e0]; exact r1.1) (State.isArrayOf_alike hZ.alike r1.2.1) (g := (mkF m 4 #[rv x1, rv x2] [(.ref x2), (.int 0), (.ref x2), (.ref x1)])) rfl rfl (hb hby d1_4) t (by rw [len_of s1 u1]; exact k)) ?_
  show Aw p e below _ T0 m 5 #[rv x1, rv x2] [(.int 0), (.int 0), (.ref x2), (.ref x1)]
  refine Rch.go (fun t k => XS.aconstNull X0.here hx rfl (hb hby d1_5) k) ?_
  show Aw p e below _ T0 m 6 #[rv x1, rv x2] [.null, (.int 0), (.int 0), (.ref x2), (.ref x1)]
  obtain ⟨v2, T2, L2, X2, Q2, Y2, hZ2, hown2, st2⟩ := callSpJ X0 hx hZ Y0 (Nat.le_refl _) (estr2 l Z a0 hw x1 x2 vx1 vx2 h0 n0 Z0 O0 P1 P2 P3 P4) e0 (own_js (wd_14 hw) hZ P1.lt J0) hown rfl (wd_7 hw) (wd_8 hw) (wd_10 hw) (wd_2 hw) (by decide) (hb hby d1_6) 0 (by decide) (by decide) (by decide) (by decide) (by rw [hml]; rfl) x1 [(.ref x2), (.int 0), (.int 0), .null] [] rfl (lenOf pd_0 rfl) rfl (Nat.le_of_eq rfl) (Ls := #[rv x1, rv x2])
  obtain ⟨b2, k2, rfl, M2, K2, F2, G2, R2, l2⟩ := Q2
  have N2 := Fr.app N0 M2
  refine Rch.go st2 ?_
  show Aw p e below _ T2 m 9 #[rv x1, rv x2] []
  refine Rch.voidW X2 hx Y2 rfl (Nat.le_refl _) hret hlk (hb hby d1_9) (by decide) (by decide) ?_
  exact ⟨b2, k2, rfl, N2, K2, F2, G2, R2, l2⟩
theorem own_c69 : nar .char (69 : Int32) = 69 ∧ ¬ (255 : Int32) < 69 ∧ ¬ (69 : Int32) < 0 := by decide
theorem own_c101 : nar .char (101 : Int32) = 101 ∧ ¬ (255 : Int32) < 101 ∧ ¬ (101 : Int32) < 0 := by decide
theorem own_c38 : nar .char (38 : Int32) = 38 ∧ ¬ (255 : Int32) < 38 ∧ ¬ (38 : Int32) < 0 := by decide
theorem own_bc0 : ∀ n : Fin 256, (nar .byte ((Int32.ofNat n.val).toInt8.toInt32)) &&& 255 = Int32.ofNat n.val := by decide +kernel
theorem own_bc {c : Int32} (h1 : ¬ (255 : Int32) < c) (h2 : ¬ c < 0) : (nar .byte (c.toInt8.toInt32)) &&& 255 = c := by
  rw [Int32.lt_iff_toInt_lt] at h1 h2
  have e5 : (255 : Int32).toInt = 255 := rfl
  have e0 : (0 : Int32).toInt = 0 := rfl
  rw [e5] at h1; rw [e0] at h2
  have hn : c.toInt.toNat < 256 := by omega
  have e : Int32.ofNat c.toInt.toNat = c := by
    apply Int32.toInt_inj.mp
    rw [Int32.toInt_ofNat_of_lt (by omega)]
    omega
  have q := own_bc0 ⟨c.toInt.toNat, hn⟩
  simp only [e] at q
  exact q
theorem own_nb {c k : Int32} (h : ¬ c = k) (h1 : ¬ (255 : Int32) < c) (h2 : ¬ c < 0) (hk : k &&& 255 = k) : ¬ k = (nar .byte (c.toInt8.toInt32)) := fun q => h (by rw [← own_bc h1 h2, ← q, hk])
theorem own_nc {c k : Int32} (h : ¬ c = k) (h1 : ¬ (255 : Int32) < c) (h2 : ¬ c < 0) : ¬ (((nar .byte (c.toInt8.toInt32)) &&& (255 : Int32)).toUInt32.toUInt16.toUInt32.toInt32) = k := fun q => h (by rw [← q, i2c_mask, own_bc h1 h2])
theorem d2_0 : decode method_2_code 0 = .ok (.iload_n 0, 1) := by decide +kernel
theorem d2_1 : decode method_2_code 1 = .ok (.sipush 256, 3) := by decide +kernel
theorem d2_4 : decode method_2_code 4 = .ok (.iand, 1) := by decide +kernel
theorem d2_5 : decode method_2_code 5 = .ok (.ifCond .eq 33, 3) := by decide +kernel
theorem d2_38 : decode method_2_code 38 = .ok (.iload_n 0, 1) := by decide +kernel
theorem d2_39 : decode method_2_code 39 = .ok (.sipush 255, 3) := by decide +kernel
theorem d2_42 : decode method_2_code 42 = .ok (.iand, 1) := by decide +kernel
theorem d2_43 : decode method_2_code 43 = .ok (.i2c, 1) := by decide +kernel
theorem d2_44 : decode method_2_code 44 = .ok (.ireturn, 1) := by decide +kernel
theorem d2_8 : decode method_2_code 8 = .ok (.iload_n 0, 1) := by decide +kernel
theorem d2_9 : decode method_2_code 9 = .ok (.bipush 9, 2) := by decide +kernel
theorem d2_11 : decode method_2_code 11 = .ok (.iushr, 1) := by decide +kernel
theorem d2_12 : decode method_2_code 12 = .ok (.iconst 3, 1) := by decide +kernel
theorem d2_13 : decode method_2_code 13 = .ok (.iand, 1) := by decide +kernel
theorem d2_14 : decode method_2_code 14 = .ok (.istore_n 1, 1) := by decide +kernel
theorem d2_15 : decode method_2_code 15 = .ok (.iload_n 1, 1) := by decide +kernel
theorem d2_16 : decode method_2_code 16 = .ok (.ifCond .ne 6, 3) := by decide +kernel
theorem d2_19 : decode method_2_code 19 = .ok (.bipush 69, 2) := by decide +kernel
theorem d2_21 : decode method_2_code 21 = .ok (.ireturn, 1) := by decide +kernel
theorem d2_22 : decode method_2_code 22 = .ok (.iload_n 1, 1) := by decide +kernel
theorem d2_23 : decode method_2_code 23 = .ok (.iconst 1, 1) := by decide +kernel
theorem d2_24 : decode method_2_code 24 = .ok (.if_icmp .ne 6, 3) := by decide +kernel
theorem d2_27 : decode method_2_code 27 = .ok (.bipush 101, 2) := by decide +kernel
theorem d2_29 : decode method_2_code 29 = .ok (.ireturn, 1) := by decide +kernel
theorem d2_30 : decode method_2_code 30 = .ok (.iload_n 1, 1) := by decide +kernel
theorem d2_31 : decode method_2_code 31 = .ok (.iconst 2, 1) := by decide +kernel
theorem d2_32 : decode method_2_code 32 = .ok (.if_icmp .ne 6, 3) := by decide +kernel
theorem d2_35 : decode method_2_code 35 = .ok (.bipush 38, 2) := by decide +kernel
theorem d2_37 : decode method_2_code 37 = .ok (.ireturn, 1) := by decide +kernel
theorem pn_com_example_knit_theories_knittheories_model_GatherOfPinLaw : plainName s7' = true := by first | (simp [plainName, overriddenIn]; done) | decide +kernel
theorem ef_pick (m : MethodId) (x1 : Int32) : entryFrame m #[(.int x1)] 2 = mkF m 0 #[iv x1, uu] [] := by first | rfl | (simp [entryFrame, mkF, argsToLocals, Value.category]; done)
theorem pick (l : Launch) (Z : State) (a0 : Array Value) (hw : HW Z a0) (x1 : Int32) (h0 : Heap) (n0 : Nat) (Z0 : n0 ≤ h0.size) (O0 : Old Z n0 h0) :
    Ctr l Z [] (⟨s7', "pick", "(I)C"⟩ : MethodName) method_2_code 2 (some .char) #[(.int x1)] h0 ({ frames := 0, cells := 0, slots := 0, locals := 0 } : Room) (fun v h L => ∃ c : Int32, v = some (.int c) ∧ nar .char c = c ∧ ¬ (255 : Int32) < c ∧ ¬ c < 0 ∧ Fr n0 L ∧ h = h0) := by
  refine Ctr.of (plainFor_of_name pn_com_example_knit_theories_knittheories_model_GatherOfPinLaw) (fun m => ef_pick m x1) ?_
  intro p e s m below meth c T0 hx hZ hby hml hown hnm hret hlk X0 e0
  have N0 := Fr.nil n0
  show Aw p e below _ T0 m 0 #[iv x1, uu] []
  refine Rch.go (fun t k => XS.iloadN X0.here hx rfl (hb hby d2_0) rfl  (XS.sipush X0.here hx rfl (hb hby d2_1) (XS.iand X0.here hx rfl (hb hby d2_4) rfl k))) ?_
  show Aw p e below _ T0 m 5 #[iv x1, uu] [(.int (x1 &&& (256 : Int32)))]
  by_cases hf5 : (x1 &&& (256 : Int32)) = (0 : Int32)
  · show Aw p e below _ T0 m 5 #[iv x1, uu] [(.int (x1 &&& (256 : Int32)))]
    refine Rch.go (fun t k => XS.ifYes X0.here hx rfl (pc0 := 5) (pc' := 38) rfl (hb hby d2_5) rfl (XT.i0_eq_t hf5) (by decide) (by decide) (XS.iloadN X0.here hx rfl (hb hby d2_38) rfl  (XS.sipush X0.here hx rfl (hb hby d2_39) (XS.iand X0.here hx rfl (hb hby d2_42) rfl (XS.i2c X0.here hx rfl (hb hby d2_43) rfl k))))) ?_
    show Aw p e below _ T0 m 44 #[iv x1, uu] [(.int ((x1 &&& (255 : Int32)).toUInt32.toUInt16.toUInt32.toInt32))]
    obtain ⟨ch1, he1, hn1, hl1, hg1⟩ := own_chr x1
    rw [he1]
    show Aw p e below _ T0 m 44 #[iv x1, uu] [(.int ch1)]
    refine Rch.val X0 hx (t := .char) hret hlk (congrArg Value.int hn1) (mayI (by simp)) (hb hby d2_44) (by decide) (by decide) ?_
    try rw [e0]
    exact ⟨_, rfl, hn1, hl1, hg1, N0, rfl⟩
  · show Aw p e below _ T0 m 5 #[iv x1, uu] [(.int (x1 &&& (256 : Int32)))]
    refine Rch.go (fun t k => XS.ifNo X0.here hx rfl (hb hby d2_5) rfl (XT.i0_eq_f hf5) (XS.iloadN X0.here hx rfl (hb hby d2_8) rfl  (XS.bipush X0.here hx rfl (hb hby d2_9) (XS.iushr X0.here hx rfl (hb hby d2_11) rfl (XS.iconst X0.here hx rfl (hb hby d2_12) (XS.iand X0.here hx rfl (hb hby d2_13) rfl (XS.istoreN X0.here hx rfl (hb hby d2_14) rfl  (l' := #[iv x1, .val (.int (((x1.toUInt32 >>> ((9 : Int32) &&& 31).toUInt32).toInt32) &&& (3 : Int32)))]) rfl (XS.iloadN X0.here hx rfl (hb hby d2_15) rfl  k)))))))) ?_
    show Aw p e below _ T0 m 16 #[iv x1, .val (.int (((x1.toUInt32 >>> ((9 : Int32) &&& 31).toUInt32).toInt32) &&& (3 : Int32)))] [(.int (((x1.toUInt32 >>> ((9 : Int32) &&& 31).toUInt32).toInt32) &&& (3 : Int32)))]
    by_cases hf16 : (((x1.toUInt32 >>> ((9 : Int32) &&& 31).toUInt32).toInt32) &&& (3 : Int32)) = (0 : Int32)
    · show Aw p e below _ T0 m 16 #[iv x1, .val (.int (((x1.toUInt32 >>> ((9 : Int32) &&& 31).toUInt32).toInt32) &&& (3 : Int32)))] [(.int (((x1.toUInt32 >>> ((9 : Int32) &&& 31).toUInt32).toInt32) &&& (3 : Int32)))]
      refine Rch.go (fun t k => XS.ifNo X0.here hx rfl (hb hby d2_16) rfl (XT.i0_ne_f hf16) (XS.bipush X0.here hx rfl (hb hby d2_19) k)) ?_
      show Aw p e below _ T0 m 21 #[iv x1, .val (.int (((x1.toUInt32 >>> ((9 : Int32) &&& 31).toUInt32).toInt32) &&& (3 : Int32)))] [(.int 69)]
      refine Rch.val X0 hx (t := .char) hret hlk rfl (mayI (by simp)) (hb hby d2_21) (by decide) (by decide) ?_
      try rw [e0]
      exact ⟨_, rfl, own_c69.1, own_c69.2.1, own_c69.2.2, N0, rfl⟩
    · show Aw p e below _ T0 m 16 #[iv x1, .val (.int (((x1.toUInt32 >>> ((9 : Int32) &&& 31).toUInt32).toInt32) &&& (3 : Int32)))] [(.int (((x1.toUInt32 >>> ((9 : Int32) &&& 31).toUInt32).toInt32) &&& (3 : Int32)))]
      refine Rch.go (fun t k => XS.ifYes X0.here hx rfl (pc0 := 16) (pc' := 22) rfl (hb hby d2_16) rfl (XT.i0_ne_t hf16) (by decide) (by decide) (XS.iloadN X0.here hx rfl (hb hby d2_22) rfl  (XS.iconst X0.here hx rfl (hb hby d2_23) k))) ?_
      show Aw p e below _ T0 m 24 #[iv x1, .val (.int (((x1.toUInt32 >>> ((9 : Int32) &&& 31).toUInt32).toInt32) &&& (3 : Int32)))] [(.int 1), (.int (((x1.toUInt32 >>> ((9 : Int32) &&& 31).toUInt32).toInt32) &&& (3 : Int32)))]
      by_cases hf24 : (((x1.toUInt32 >>> ((9 : Int32) &&& 31).toUInt32).toInt32) &&& (3 : Int32)) = (1 : Int32)
      · show Aw p e below _ T0 m 24 #[iv x1, .val (.int (((x1.toUInt32 >>> ((9 : Int32) &&& 31).toUInt32).toInt32) &&& (3 : Int32)))] [(.int 1), (.int (((x1.toUInt32 >>> ((9 : Int32) &&& 31).toUInt32).toInt32) &&& (3 : Int32)))]
        refine Rch.go (fun t k => XS.icmpNo X0.here hx rfl (hb hby d2_24) rfl (XT.ii_ne_f hf24) (XS.bipush X0.here hx rfl (hb hby d2_27) k)) ?_
        show Aw p e below _ T0 m 29 #[iv x1, .val (.int (((x1.toUInt32 >>> ((9 : Int32) &&& 31).toUInt32).toInt32) &&& (3 : Int32)))] [(.int 101)]
        refine Rch.val X0 hx (t := .char) hret hlk rfl (mayI (by simp)) (hb hby d2_29) (by decide) (by decide) ?_
        try rw [e0]
        exact ⟨_, rfl, own_c101.1, own_c101.2.1, own_c101.2.2, N0, rfl⟩
      · show Aw p e below _ T0 m 24 #[iv x1, .val (.int (((x1.toUInt32 >>> ((9 : Int32) &&& 31).toUInt32).toInt32) &&& (3 : Int32)))] [(.int 1), (.int (((x1.toUInt32 >>> ((9 : Int32) &&& 31).toUInt32).toInt32) &&& (3 : Int32)))]
        refine Rch.go (fun t k => XS.icmpYes X0.here hx rfl (pc0 := 24) (pc' := 30) rfl (hb hby d2_24) rfl (XT.ii_ne_t hf24) (by decide) (by decide) (XS.iloadN X0.here hx rfl (hb hby d2_30) rfl  (XS.iconst X0.here hx rfl (hb hby d2_31) k))) ?_
        show Aw p e below _ T0 m 32 #[iv x1, .val (.int (((x1.toUInt32 >>> ((9 : Int32) &&& 31).toUInt32).toInt32) &&& (3 : Int32)))] [(.int 2), (.int (((x1.toUInt32 >>> ((9 : Int32) &&& 31).toUInt32).toInt32) &&& (3 : Int32)))]
        by_cases hf32 : (((x1.toUInt32 >>> ((9 : Int32) &&& 31).toUInt32).toInt32) &&& (3 : Int32)) = (2 : Int32)
        · show Aw p e below _ T0 m 32 #[iv x1, .val (.int (((x1.toUInt32 >>> ((9 : Int32) &&& 31).toUInt32).toInt32) &&& (3 : Int32)))] [(.int 2), (.int (((x1.toUInt32 >>> ((9 : Int32) &&& 31).toUInt32).toInt32) &&& (3 : Int32)))]
          refine Rch.go (fun t k => XS.icmpNo X0.here hx rfl (hb hby d2_32) rfl (XT.ii_ne_f hf32) (XS.bipush X0.here hx rfl (hb hby d2_35) k)) ?_
          show Aw p e below _ T0 m 37 #[iv x1, .val (.int (((x1.toUInt32 >>> ((9 : Int32) &&& 31).toUInt32).toInt32) &&& (3 : Int32)))] [(.int 38)]
          refine Rch.val X0 hx (t := .char) hret hlk rfl (mayI (by simp)) (hb hby d2_37) (by decide) (by decide) ?_
          try rw [e0]
          exact ⟨_, rfl, own_c38.1, own_c38.2.1, own_c38.2.2, N0, rfl⟩
        · show Aw p e below _ T0 m 32 #[iv x1, .val (.int (((x1.toUInt32 >>> ((9 : Int32) &&& 31).toUInt32).toInt32) &&& (3 : Int32)))] [(.int 2), (.int (((x1.toUInt32 >>> ((9 : Int32) &&& 31).toUInt32).toInt32) &&& (3 : Int32)))]
          refine Rch.go (fun t k => XS.icmpYes X0.here hx rfl (pc0 := 32) (pc' := 38) rfl (hb hby d2_32) rfl (XT.ii_ne_t hf32) (by decide) (by decide) (XS.iloadN X0.here hx rfl (hb hby d2_38) rfl  (XS.sipush X0.here hx rfl (hb hby d2_39) (XS.iand X0.here hx rfl (hb hby d2_42) rfl (XS.i2c X0.here hx rfl (hb hby d2_43) rfl k))))) ?_
          show Aw p e below _ T0 m 44 #[iv x1, .val (.int (((x1.toUInt32 >>> ((9 : Int32) &&& 31).toUInt32).toInt32) &&& (3 : Int32)))] [(.int ((x1 &&& (255 : Int32)).toUInt32.toUInt16.toUInt32.toInt32))]
          obtain ⟨ch2, he2, hn2, hl2, hg2⟩ := own_chr x1
          rw [he2]
          show Aw p e below _ T0 m 44 #[iv x1, .val (.int (((x1.toUInt32 >>> ((9 : Int32) &&& 31).toUInt32).toInt32) &&& (3 : Int32)))] [(.int ch2)]
          refine Rch.val X0 hx (t := .char) hret hlk (congrArg Value.int hn2) (mayI (by simp)) (hb hby d2_44) (by decide) (by decide) ?_
          try rw [e0]
          exact ⟨_, rfl, hn2, hl2, hg2, N0, rfl⟩
theorem own_four (c : Int32) : c = 69 ∨ c = 101 ∨ c = 38 ∨ (¬ c = 69 ∧ ¬ c = 101 ∧ ¬ c = 38) := by
  by_cases a : c = 69
  · exact Or.inl a
  · by_cases b : c = 101
    · exact Or.inr (Or.inl b)
    · by_cases d : c = 38
      · exact Or.inr (Or.inr (Or.inl d))
      · exact Or.inr (Or.inr (Or.inr ⟨a, b, d⟩))
theorem wd_22 {Z a0} (hw : HW Z a0) : (Cond.methodLink s7' (18 : Nat) ⟨s1', "of", s8'⟩).before a0 Z = true := hw.at 22 rfl
theorem d3_0 : decode prog_61_method_4_code 0 = .ok (.invokestatic 36, 3) := by decide +kernel
theorem wd_26 {Z a0} (hw : HW Z a0) : (Cond.methodLink s1' (36 : Nat) ⟨s1', "values", "()[Lcom/example/knit_theories/knittheories/model/Gather;"⟩).before a0 Z = true := hw.at 26 rfl
theorem d4_0 : decode prog_61_method_1_code 0 = .ok (.getstatic 13, 3) := by decide +kernel
theorem wd_29 {Z a0} (hw : HW Z a0) : (Cond.fieldLink s1' (13 : Nat) s1' "$VALUES" s3').before a0 Z = true := hw.at 29 rfl
theorem d4_3 : decode prog_61_method_1_code 3 = .ok (.invokevirtual 17, 3) := by decide +kernel
theorem wd_31 {Z a0} (hw : HW Z a0) : (Cond.methodLink s1' (17 : Nat) ⟨s3', "clone", "()Ljava/lang/Object;"⟩).before a0 Z = true := hw.at 31 rfl
theorem wd_32 {Z a0} (hw : HW Z a0) : (Cond.sameMethod s3' "java/lang/Object" "clone" "()Ljava/lang/Object;").before a0 Z = true := hw.at 32 rfl
theorem wd_36 {Z a0} (hw : HW Z a0) : (Cond.native ⟨"java/lang/Object", "clone", "()Ljava/lang/Object;"⟩).before a0 Z = true := hw.at 36 rfl
theorem wd_34 {Z a0} (hw : HW Z a0) : (Cond.instanceMethod ⟨"java/lang/Object", "clone", "()Ljava/lang/Object;"⟩).before a0 Z = true := hw.at 34 rfl
theorem wd_35 {Z a0} (hw : HW Z a0) : (Cond.selects s3' ⟨s3', "clone", "()Ljava/lang/Object;"⟩ ⟨"java/lang/Object", "clone", "()Ljava/lang/Object;"⟩).before a0 Z = true := hw.at 35 rfl
theorem wd_37 {Z a0} (hw : HW Z a0) : (Cond.castable s3' "java/lang/Cloneable").before a0 Z = true := hw.at 37 rfl
theorem d4_6 : decode prog_61_method_1_code 6 = .ok (.checkcast 18, 3) := by decide +kernel
theorem wd_42 {Z a0} (hw : HW Z a0) : (Cond.classLink s1' (18 : Nat) s3').before a0 Z = true := hw.at 42 rfl
theorem d4_9 : decode prog_61_method_1_code 9 = .ok (.areturn, 1) := by decide +kernel
theorem pn_com_example_knit_theories_knittheories_model_Gather : plainName s1' = true := by first | (simp [plainName, overriddenIn]; done) | decide +kernel
theorem ef_m2_values (m : MethodId) : entryFrame m #[] 0 = mkF m 0 #[] [] := by first | rfl | (simp [entryFrame, mkF, argsToLocals, Value.category]; done)
theorem m2_values (l : Launch) (Z : State) (a0 : Array Value) (hw : HW Z a0) (x1 : Addr) (kk2 : ClassId) (x3 x4 x5 : Addr) (h0 : Heap) (n0 : Nat) (Z0 : n0 ≤ h0.size) (O0 : Old Z n0 h0) (P1 : Sta Z Z.heap s1' "$VALUES" s3' (.ref x1)) (P2 : Arv Z Z.heap x1 kk2 (.object s1') (3 : Int32) [(.ref x3), (.ref x4), (.ref x5)] .null) (P3 : Exa Z Z.heap x1 s3') :
    Ctr l Z [] (⟨s1', "values", "()[Lcom/example/knit_theories/knittheories/model/Gather;"⟩ : MethodName) prog_61_method_1_code 0 (some (.array (.object s1'))) #[] h0 ({ frames := 1, cells := 1, slots := 3, locals := 14 } : Room) (fun v h L => ∃ (b2 : Addr), v = some (.ref b2) ∧ Fr n0 L ∧ Keep h0 h [] ∧ h0.size ≤ b2 ∧ Exa Z h b2 s3' ∧ Arv Z h b2 kk2 (.object s1') (3 : Int32) [(.ref x3), (.ref x4), (.ref x5)] .null) := by
  refine Ctr.of (plainFor_of_name pn_com_example_knit_theories_knittheories_model_Gather) (fun m => ef_m2_values m ) ?_
  intro p e s m below meth c T0 hx hZ hby hml hown hnm hret hlk X0 e0
  have N0 := Fr.nil n0
  show Aw p e below _ T0 m 0 #[] []
  obtain ⟨T1, X1, e1, st1⟩ := getS2 X0 hx hZ hown (host := "") (Or.inl (wd_29 hw)) Via.refl e0 (P1.ext O0.2) (g := (mkF m 0 #[] [])) rfl (hb hby d4_0)
  refine Rch.go st1 ?_
  show Aw p e below _ T1 m 3 #[] [(.ref x1)]
  obtain ⟨T2, h2, X2, e2, E2, A2, B2, st2⟩ := cloneH X1 hx hZ hown (wd_31 hw) (wd_32 hw) (wd_36 hw) (wd_34 hw) (wd_35 hw) (wd_37 hw) e1 (Arv.arh (P2.ext O0.2)) (P3.ext O0.2) (g := (mkF m 3 #[] [(.ref x1)])) rfl (by rw [hml]; rfl) rfl (hb hby d4_3) (by decide) (W := 0) (by show 2 * 0 + _ ≤ _; exact Nat.le_of_eq rfl) (by decide) (cap := 3) (by decide) (by decide) (by decide)
  obtain ⟨b2, g2⟩ : ∃ z, z = h0.size := ⟨_, rfl⟩
  rw [← g2] at A2 B2 st2
  refine Rch.go st2 ?_
  have g_b2 : n0 ≤ b2 := Nat.le_trans Z0 (Nat.le_of_eq g2.symm)
  have V2 : Arv Z h2 b2 kk2 (.object s1') (3 : Int32) [(.ref x3), (.ref x4), (.ref x5)] .null := A2
  show Aw p e below _ T2 m 6 #[] [(.ref b2)]
  obtain ⟨T3, X3, e3, st3⟩ := castY X2 hx hZ hown (wd_42 hw) e2 (Ins.self B2) (g := (mkF m 6 #[] [(.ref b2)])) rfl rfl (hb hby d4_6)
  refine Rch.go st3 ?_
  show Aw p e below _ T3 m 9 #[] [(.ref b2)]
  refine Rch.val X3 hx (t := (.array (.object s1'))) hret hlk rfl (Or.inr (Or.inr (Or.inr (Or.inr ⟨rfl, rfl, rfl⟩)))) (hb hby d4_9) (by decide) (by decide) ?_
  try rw [e3]
  exact ⟨b2, rfl, N0, ((Keep.refl _ _).ext E2), (Nat.le_trans (Nat.le_refl _) (Nat.le_of_eq g2.symm)), B2, V2⟩
theorem wd_28 {Z a0} (hw : HW Z a0) : (Cond.code ⟨s1', "values", "()[Lcom/example/knit_theories/knittheories/model/Gather;"⟩ prog_61_method_1_code (0 : Nat) (Option.some (FieldType.array (FieldType.object s1')))).before a0 Z = true := hw.at 28 rfl
theorem pd_1 : parseMethodDescriptor "()[Lcom/example/knit_theories/knittheories/model/Gather;" = some ⟨[], some (.array (.object s1'))⟩ := by decide +kernel
theorem wd_27 {Z a0} (hw : HW Z a0) : (Cond.static ⟨s1', "values", "()[Lcom/example/knit_theories/knittheories/model/Gather;"⟩).before a0 Z = true := hw.at 27 rfl
theorem d3_3 : decode prog_61_method_4_code 3 = .ok (.astore_n 1, 1) := by decide +kernel
theorem d3_4 : decode prog_61_method_4_code 4 = .ok (.aload_n 1, 1) := by decide +kernel
theorem d3_5 : decode prog_61_method_4_code 5 = .ok (.arraylength, 1) := by decide +kernel
theorem d3_6 : decode prog_61_method_4_code 6 = .ok (.istore_n 2, 1) := by decide +kernel
theorem d3_7 : decode prog_61_method_4_code 7 = .ok (.iconst 0, 1) := by decide +kernel
theorem d3_8 : decode prog_61_method_4_code 8 = .ok (.istore_n 3, 1) := by decide +kernel
theorem d3_9 : decode prog_61_method_4_code 9 = .ok (.iload_n 3, 1) := by decide +kernel
theorem d3_10 : decode prog_61_method_4_code 10 = .ok (.iload_n 2, 1) := by decide +kernel
theorem d3_11 : decode prog_61_method_4_code 11 = .ok (.if_icmp .ge 29, 3) := by decide +kernel
theorem d3_14 : decode prog_61_method_4_code 14 = .ok (.aload_n 1, 1) := by decide +kernel
theorem d3_15 : decode prog_61_method_4_code 15 = .ok (.iload_n 3, 1) := by decide +kernel
theorem d3_16 : decode prog_61_method_4_code 16 = .ok (.aaload, 1) := by decide +kernel
theorem d3_17 : decode prog_61_method_4_code 17 = .ok (.astore 4, 2) := by decide +kernel
theorem d3_19 : decode prog_61_method_4_code 19 = .ok (.aload 4, 2) := by decide +kernel
theorem d3_21 : decode prog_61_method_4_code 21 = .ok (.getfield 32, 3) := by decide +kernel
theorem wd_44 {Z a0} (hw : HW Z a0) : (Cond.fieldLink s1' (32 : Nat) s1' "text" "Ljava/lang/String;").before a0 Z = true := hw.at 44 rfl
theorem d3_24 : decode prog_61_method_4_code 24 = .ok (.aload_n 0, 1) := by decide +kernel
theorem d3_25 : decode prog_61_method_4_code 25 = .ok (.invokevirtual 40, 3) := by decide +kernel
theorem wd_46 {Z a0} (hw : HW Z a0) : (Cond.methodLink s1' (40 : Nat) ⟨"java/lang/String", "equals", s5'⟩).before a0 Z = true := hw.at 46 rfl
theorem d5_0 : decode jdk_42_method_66_code 0 = .ok (.aload_n 0, 1) := by decide +kernel
theorem d5_1 : decode jdk_42_method_66_code 1 = .ok (.aload_n 1, 1) := by decide +kernel
theorem d5_2 : decode jdk_42_method_66_code 2 = .ok (.if_acmp .ne 5, 3) := by decide +kernel
theorem d5_7 : decode jdk_42_method_66_code 7 = .ok (.aload_n 1, 1) := by decide +kernel
theorem d5_8 : decode jdk_42_method_66_code 8 = .ok (.instanceof 10, 3) := by decide +kernel
theorem wd_51 {Z a0} (hw : HW Z a0) : (Cond.classLink "java/lang/String" (10 : Nat) "java/lang/String").before a0 Z = true := hw.at 51 rfl
theorem d5_11 : decode jdk_42_method_66_code 11 = .ok (.ifCond .eq 43, 3) := by decide +kernel
theorem d5_54 : decode jdk_42_method_66_code 54 = .ok (.iconst 0, 1) := by decide +kernel
theorem d5_55 : decode jdk_42_method_66_code 55 = .ok (.ireturn, 1) := by decide +kernel
theorem ef_m3_equals (m : MethodId) (x1 : Addr) : entryFrame m #[(.ref x1), .null] 3 = mkF m 0 #[rv x1, .val .null, uu] [] := by first | rfl | (simp [entryFrame, mkF, argsToLocals, Value.category]; done)
theorem m3_equals (l : Launch) (Z : State) (a0 : Array Value) (hw : HW Z a0) (x1 : Addr) (h0 : Heap) (n0 : Nat) (Z0 : n0 ≤ h0.size) (O0 : Old Z n0 h0) :
    Ctr l Z [] (⟨"java/lang/String", "equals", s5'⟩ : MethodName) jdk_42_method_66_code 3 (some .boolean) #[(.ref x1), .null] h0 ({ frames := 0, cells := 0, slots := 0, locals := 0 } : Room) (fun v h L => v = some (.int 0) ∧ Fr n0 L ∧ h = h0) := by
  refine Ctr.of (plainFor_of_name pn_java_lang_String) (fun m => ef_m3_equals m x1) ?_
  intro p e s m below meth c T0 hx hZ hby hml hown hnm hret hlk X0 e0
  have N0 := Fr.nil n0
  show Aw p e below _ T0 m 0 #[rv x1, .val .null, uu] []
  refine Rch.go (fun t k => XS.aloadN X0.here hx rfl (hb hby d5_0) rfl rfl (XS.aloadN X0.here hx rfl (hb hby d5_1) rfl rfl (acmp X0 hx rfl (x := (.ref x1)) (y := .null) rfl rfl (pc0 := 2) (pc' := 7) (same := false) rfl (hb hby d5_2) rfl (decide_eq_false (fun q => nomatch q)) (by decide) (by decide) (XS.aloadN X0.here hx rfl (hb hby d5_7) rfl rfl k)))) ?_
  show Aw p e below _ T0 m 8 #[rv x1, .val .null, uu] [.null]
  refine Rch.go (fun t k => X0.instanceofNull hx (g := (mkF m 8 #[rv x1, .val .null, uu] [.null])) rfl rfl (hb hby d5_8) t k) ?_
  show Aw p e below _ T0 m 11 #[rv x1, .val .null, uu] [(.int 0)]
  refine Rch.go (fun t k => XS.ifYes X0.here hx rfl (pc0 := 11) (pc' := 54) rfl (hb hby d5_11) rfl (by decide) (by decide) (by decide) (XS.iconst X0.here hx rfl (hb hby d5_54) k)) ?_
  show Aw p e below _ T0 m 55 #[rv x1, .val .null, uu] [(.int 0)]
  refine Rch.val X0 hx (t := .boolean) hret hlk rfl (mayI (by simp)) (hb hby d5_55) (by decide) (by decide) ?_
  try rw [e0]
  exact ⟨rfl, N0, rfl⟩
theorem wd_50 {Z a0} (hw : HW Z a0) : (Cond.code ⟨"java/lang/String", "equals", s5'⟩ jdk_42_method_66_code (3 : Nat) (Option.some FieldType.boolean)).before a0 Z = true := hw.at 50 rfl
theorem pd_2 : parseMethodDescriptor s5' = some ⟨[(.object "java/lang/Object")], some .boolean⟩ := by decide +kernel
theorem wd_49 {Z a0} (hw : HW Z a0) : (Cond.selects "java/lang/String" ⟨"java/lang/String", "equals", s5'⟩ ⟨"java/lang/String", "equals", s5'⟩).before a0 Z = true := hw.at 49 rfl
theorem wd_47 {Z a0} (hw : HW Z a0) : (Cond.declares ⟨"java/lang/String", "equals", s5'⟩).before a0 Z = true := hw.at 47 rfl
theorem wd_48 {Z a0} (hw : HW Z a0) : (Cond.instanceMethod ⟨"java/lang/String", "equals", s5'⟩).before a0 Z = true := hw.at 48 rfl
theorem d3_28 : decode prog_61_method_4_code 28 = .ok (.ifCond .eq 6, 3) := by decide +kernel
theorem d3_34 : decode prog_61_method_4_code 34 = .ok (.iinc 3 1, 3) := by decide +kernel
theorem d3_37 : decode prog_61_method_4_code 37 = .ok (.goto (-28), 3) := by decide +kernel
theorem d3_40 : decode prog_61_method_4_code 40 = .ok (.aconst_null, 1) := by decide +kernel
theorem d3_41 : decode prog_61_method_4_code 41 = .ok (.areturn, 1) := by decide +kernel
theorem ef_m1_of (m : MethodId) : entryFrame m #[.null] 5 = mkF m 0 #[.val .null, uu, uu, uu, uu] [] := by first | rfl | (simp [entryFrame, mkF, argsToLocals, Value.category]; done)
theorem m1_of (l : Launch) (Z : State) (a0 : Array Value) (hw : HW Z a0) (x1 : Addr) (kk2 : ClassId) (x3 x4 x5 x6 x7 x8 : Addr) (h0 : Heap) (n0 : Nat) (Z0 : n0 ≤ h0.size) (O0 : Old Z n0 h0) (P1 : Sta Z Z.heap s1' "$VALUES" s3' (.ref x1)) (P2 : Arv Z Z.heap x1 kk2 (.object s1') (3 : Int32) [(.ref x3), (.ref x4), (.ref x5)] .null) (P3 : Exa Z Z.heap x1 s3') (P4 : Fld Z Z.heap x3 s1' "text" "Ljava/lang/String;" (.ref x6)) (P5 : Exa Z Z.heap x6 "java/lang/String") (P6 : Fld Z Z.heap x4 s1' "text" "Ljava/lang/String;" (.ref x7)) (P7 : Exa Z Z.heap x7 "java/lang/String") (P8 : Fld Z Z.heap x5 s1' "text" "Ljava/lang/String;" (.ref x8)) (P9 : Exa Z Z.heap x8 "java/lang/String") :
    Ctr l Z [] (⟨s1', "of", s8'⟩ : MethodName) prog_61_method_4_code 5 (some (.object s1')) #[.null] h0 ({ frames := 2, cells := 1, slots := 3, locals := 25 } : Room) (fun v h L => v = some .null ∧ Fr n0 L ∧ Keep h0 h []) := by
  refine Ctr.of (plainFor_of_name pn_com_example_knit_theories_knittheories_model_Gather) (fun m => ef_m1_of m ) ?_
  intro p e s m below meth c T0 hx hZ hby hml hown hnm hret hlk X0 e0
  have N0 := Fr.nil n0
  show Aw p e below _ T0 m 0 #[.val .null, uu, uu, uu, uu] []
  obtain ⟨v1, T1, L1, X1, Q1, st1⟩ := callSt X0 hx hZ (m2_values l Z a0 hw x1 kk2 x3 x4 x5 h0 n0 Z0 O0 P1 P2 P3) e0 hown (wd_26 hw) (wd_27 hw) (wd_28 hw) (wd_24 hw) (by decide) (hb hby d3_0) 0 (by decide) (by decide) (by decide) (by decide) (by rw [hml]; rfl) [] [] rfl (lenOf pd_1 rfl) rfl (Nat.le_of_eq rfl) (Ls := #[.val .null, uu, uu, uu, uu])
  obtain ⟨b1_0, rfl, M1, K1, zz1_0, F1_0, F1_1⟩ := Q1
  have N1 := Fr.app N0 M1
  refine Rch.go st1 ?_
  have g_b1_0 : n0 ≤ b1_0 := Nat.le_trans Z0 zz1_0
  show Aw p e below _ T1 m 3 #[.val .null, uu, uu, uu, uu] [(.ref b1_0)]
  refine Rch.go (fun t k => XS.astoreN X1.here hx rfl (hb hby d3_3) rfl rfl (l' := #[.val .null, rv b1_0, uu, uu, uu]) rfl (XS.aloadN X1.here hx rfl (hb hby d3_4) rfl rfl k)) ?_
  show Aw p e below _ T1 m 5 #[.val .null, rv b1_0, uu, uu, uu] [(.ref b1_0)]
  obtain ⟨c2, r2, q2, s2, u2, H2, G2⟩ := id F1_1
  refine Rch.go (fun t k => X1.arraylength hx r2.1 (State.isArrayOf_alike hZ.alike r2.2.1) (g := (mkF m 5 #[.val .null, rv b1_0, uu, uu, uu] [(.ref b1_0)])) rfl rfl (hb hby d3_5) t (by rw [len_of s2 u2]; exact k)) ?_
  show Aw p e below _ T1 m 6 #[.val .null, rv b1_0, uu, uu, uu] [(.int 3)]
  refine Rch.go (fun t k => XS.istoreN X1.here hx rfl (hb hby d3_6) rfl  (l' := #[.val .null, rv b1_0, iv 3, uu, uu]) rfl (XS.iconst X1.here hx rfl (hb hby d3_7) (XS.istoreN X1.here hx rfl (hb hby d3_8) rfl  (l' := #[.val .null, rv b1_0, iv 3, iv 0, uu]) rfl (XS.iloadN X1.here hx rfl (hb hby d3_9) rfl  (XS.iloadN X1.here hx rfl (hb hby d3_10) rfl  (XS.icmpNo X1.here hx rfl (hb hby d3_11) rfl (by decide) (XS.aloadN X1.here hx rfl (hb hby d3_14) rfl rfl (XS.iloadN X1.here hx rfl (hb hby d3_15) rfl  k)))))))) ?_
  show Aw p e below _ T1 m 16 #[.val .null, rv b1_0, iv 3, iv 0, uu] [(.int 0), (.ref b1_0)]
  obtain ⟨c3, r3, q3, s3, u3, H3, G3⟩ := id F1_1
  refine Rch.go (fun t k => X1.aaload hx (j := (0 : Int32)) (v := (.ref x3)) r3.1 (State.isArrayOf_alike hZ.alike r3.2.1) rfl r3.2.2 (inb_of s3 (by decide)) (H3.at (inb_of s3 (by decide)) rfl) (g := (mkF m 16 #[.val .null, rv b1_0, iv 3, iv 0, uu] [(.int 0), (.ref b1_0)])) rfl rfl (hb hby d3_16) t k) ?_
  show Aw p e below _ T1 m 17 #[.val .null, rv b1_0, iv 3, iv 0, uu] [(.ref x3)]
  refine Rch.go (fun t k => XS.astore X1.here hx rfl (hb hby d3_17) rfl rfl (l' := #[.val .null, rv b1_0, iv 3, iv 0, rv x3]) rfl (XS.aload X1.here hx rfl (hb hby d3_19) rfl rfl k)) ?_
  show Aw p e below _ T1 m 21 #[.val .null, rv b1_0, iv 3, iv 0, rv x3] [(.ref x3)]
  have o5 := (O0.keep K1 all0)
  obtain ⟨T4, X4, e4, st4⟩ := getF X1 hx hZ hown (host := "") (Or.inl (wd_44 hw)) Via.refl rfl (P4.ext o5.2) (g := (mkF m 21 #[.val .null, rv b1_0, iv 3, iv 0, rv x3] [(.ref x3)])) rfl rfl (hb hby d3_21)
  refine Rch.go st4 ?_
  show Aw p e below _ T4 m 24 #[.val .null, rv b1_0, iv 3, iv 0, rv x3] [(.ref x6)]
  refine Rch.go (fun t k => XS.aloadN X4.here hx rfl (hb hby d3_24) rfl rfl k) ?_
  show Aw p e below _ T4 m 25 #[.val .null, rv b1_0, iv 3, iv 0, rv x3] [.null, (.ref x6)]
  have z6 := (Nat.le_trans Z0 K1.1)
  obtain ⟨v7, T7, L7, X7, Q7, st7⟩ := callVi X4 hx hZ (m3_equals l Z a0 hw x6 T1.heap n0 z6 o5 ) e4 hown (wd_46 hw) (wd_47 hw) (wd_49 hw) (notFace_of_selects (args := #[]) (mvT hZ (wd_49 hw))) (wd_48 hw) (wd_50 hw) (wd_2 hw) (by decide) (hb hby d3_25) 0 (by decide) (by decide) (by decide) (by decide) (by rw [hml]; rfl) x6 (P5.ext o5.2) [.null] [] rfl (lenOf pd_2 rfl) rfl (Nat.le_of_eq rfl) (Ls := #[.val .null, rv b1_0, iv 3, iv 0, rv x3])
  obtain ⟨rfl, M7, e7⟩ := Q7
  have N7 := Fr.app N1 M7
  refine Rch.go st7 ?_
  show Aw p e below _ T7 m 28 #[.val .null, rv b1_0, iv 3, iv 0, rv x3] [(.int 0)]
  refine Rch.go (fun t k => XS.ifYes X7.here hx rfl (pc0 := 28) (pc' := 34) rfl (hb hby d3_28) rfl (by decide) (by decide) (by decide) (XS.iinc X7.here hx rfl (hb hby d3_34) rfl (l' := #[.val .null, rv b1_0, iv 3, iv 1, rv x3]) rfl (XS.goto X7.here hx rfl (pc0 := 37) (pc' := 9) rfl (hb hby d3_37) (by decide) (by decide) (XS.iloadN X7.here hx rfl (hb hby d3_9) rfl  (XS.iloadN X7.here hx rfl (hb hby d3_10) rfl  (XS.icmpNo X7.here hx rfl (hb hby d3_11) rfl (by decide) (XS.aloadN X7.here hx rfl (hb hby d3_14) rfl rfl (XS.iloadN X7.here hx rfl (hb hby d3_15) rfl  k)))))))) ?_
  show Aw p e below _ T7 m 16 #[.val .null, rv b1_0, iv 3, iv 1, rv x3] [(.int 1), (.ref b1_0)]
  obtain ⟨c8, r8, q8, s8, u8, H8, G8⟩ := id F1_1
  refine Rch.go (fun t k => X7.aaload hx (j := (1 : Int32)) (v := (.ref x4)) (by rw [e7]; exact r8.1) (State.isArrayOf_alike hZ.alike r8.2.1) rfl r8.2.2 (inb_of s8 (by decide)) (H8.at (inb_of s8 (by decide)) rfl) (g := (mkF m 16 #[.val .null, rv b1_0, iv 3, iv 1, rv x3] [(.int 1), (.ref b1_0)])) rfl rfl (hb hby d3_16) t k) ?_
  show Aw p e below _ T7 m 17 #[.val .null, rv b1_0, iv 3, iv 1, rv x3] [(.ref x4)]
  refine Rch.go (fun t k => XS.astore X7.here hx rfl (hb hby d3_17) rfl rfl (l' := #[.val .null, rv b1_0, iv 3, iv 1, rv x4]) rfl (XS.aload X7.here hx rfl (hb hby d3_19) rfl rfl k)) ?_
  show Aw p e below _ T7 m 21 #[.val .null, rv b1_0, iv 3, iv 1, rv x4] [(.ref x4)]
  obtain ⟨T9, X9, e9, st9⟩ := getF X7 hx hZ hown (host := "") (Or.inl (wd_44 hw)) Via.refl e7 (P6.ext o5.2) (g := (mkF m 21 #[.val .null, rv b1_0, iv 3, iv 1, rv x4] [(.ref x4)])) rfl rfl (hb hby d3_21)
  refine Rch.go st9 ?_
  show Aw p e below _ T9 m 24 #[.val .null, rv b1_0, iv 3, iv 1, rv x4] [(.ref x7)]
  refine Rch.go (fun t k => XS.aloadN X9.here hx rfl (hb hby d3_24) rfl rfl k) ?_
  show Aw p e below _ T9 m 25 #[.val .null, rv b1_0, iv 3, iv 1, rv x4] [.null, (.ref x7)]
  obtain ⟨v10, T10, L10, X10, Q10, st10⟩ := callVi X9 hx hZ (m3_equals l Z a0 hw x7 T1.heap n0 z6 o5 ) e9 hown (wd_46 hw) (wd_47 hw) (wd_49 hw) (notFace_of_selects (args := #[]) (mvT hZ (wd_49 hw))) (wd_48 hw) (wd_50 hw) (wd_2 hw) (by decide) (hb hby d3_25) 0 (by decide) (by decide) (by decide) (by decide) (by rw [hml]; rfl) x7 (P7.ext o5.2) [.null] [] rfl (lenOf pd_2 rfl) rfl (Nat.le_of_eq rfl) (Ls := #[.val .null, rv b1_0, iv 3, iv 1, rv x4])
  obtain ⟨rfl, M10, e10⟩ := Q10
  have N10 := Fr.app N7 M10
  refine Rch.go st10 ?_
  show Aw p e below _ T10 m 28 #[.val .null, rv b1_0, iv 3, iv 1, rv x4] [(.int 0)]
  refine Rch.go (fun t k => XS.ifYes X10.here hx rfl (pc0 := 28) (pc' := 34) rfl (hb hby d3_28) rfl (by decide) (by decide) (by decide) (XS.iinc X10.here hx rfl (hb hby d3_34) rfl (l' := #[.val .null, rv b1_0, iv 3, iv 2, rv x4]) rfl (XS.goto X10.here hx rfl (pc0 := 37) (pc' := 9) rfl (hb hby d3_37) (by decide) (by decide) (XS.iloadN X10.here hx rfl (hb hby d3_9) rfl  (XS.iloadN X10.here hx rfl (hb hby d3_10) rfl  (XS.icmpNo X10.here hx rfl (hb hby d3_11) rfl (by decide) (XS.aloadN X10.here hx rfl (hb hby d3_14) rfl rfl (XS.iloadN X10.here hx rfl (hb hby d3_15) rfl  k)))))))) ?_
  show Aw p e below _ T10 m 16 #[.val .null, rv b1_0, iv 3, iv 2, rv x4] [(.int 2), (.ref b1_0)]
  obtain ⟨c11, r11, q11, s11, u11, H11, G11⟩ := id F1_1
  refine Rch.go (fun t k => X10.aaload hx (j := (2 : Int32)) (v := (.ref x5)) (by rw [e10]; exact r11.1) (State.isArrayOf_alike hZ.alike r11.2.1) rfl r11.2.2 (inb_of s11 (by decide)) (H11.at (inb_of s11 (by decide)) rfl) (g := (mkF m 16 #[.val .null, rv b1_0, iv 3, iv 2, rv x4] [(.int 2), (.ref b1_0)])) rfl rfl (hb hby d3_16) t k) ?_
  show Aw p e below _ T10 m 17 #[.val .null, rv b1_0, iv 3, iv 2, rv x4] [(.ref x5)]
  refine Rch.go (fun t k => XS.astore X10.here hx rfl (hb hby d3_17) rfl rfl (l' := #[.val .null, rv b1_0, iv 3, iv 2, rv x5]) rfl (XS.aload X10.here hx rfl (hb hby d3_19) rfl rfl k)) ?_
  show Aw p e below _ T10 m 21 #[.val .null, rv b1_0, iv 3, iv 2, rv x5] [(.ref x5)]
  obtain ⟨T12, X12, e12, st12⟩ := getF X10 hx hZ hown (host := "") (Or.inl (wd_44 hw)) Via.refl e10 (P8.ext o5.2) (g := (mkF m 21 #[.val .null, rv b1_0, iv 3, iv 2, rv x5] [(.ref x5)])) rfl rfl (hb hby d3_21)
  refine Rch.go st12 ?_
  show Aw p e below _ T12 m 24 #[.val .null, rv b1_0, iv 3, iv 2, rv x5] [(.ref x8)]
  refine Rch.go (fun t k => XS.aloadN X12.here hx rfl (hb hby d3_24) rfl rfl k) ?_
  show Aw p e below _ T12 m 25 #[.val .null, rv b1_0, iv 3, iv 2, rv x5] [.null, (.ref x8)]
  obtain ⟨v13, T13, L13, X13, Q13, st13⟩ := callVi X12 hx hZ (m3_equals l Z a0 hw x8 T1.heap n0 z6 o5 ) e12 hown (wd_46 hw) (wd_47 hw) (wd_49 hw) (notFace_of_selects (args := #[]) (mvT hZ (wd_49 hw))) (wd_48 hw) (wd_50 hw) (wd_2 hw) (by decide) (hb hby d3_25) 0 (by decide) (by decide) (by decide) (by decide) (by rw [hml]; rfl) x8 (P9.ext o5.2) [.null] [] rfl (lenOf pd_2 rfl) rfl (Nat.le_of_eq rfl) (Ls := #[.val .null, rv b1_0, iv 3, iv 2, rv x5])
  obtain ⟨rfl, M13, e13⟩ := Q13
  have N13 := Fr.app N10 M13
  refine Rch.go st13 ?_
  show Aw p e below _ T13 m 28 #[.val .null, rv b1_0, iv 3, iv 2, rv x5] [(.int 0)]
  refine Rch.go (fun t k => XS.ifYes X13.here hx rfl (pc0 := 28) (pc' := 34) rfl (hb hby d3_28) rfl (by decide) (by decide) (by decide) (XS.iinc X13.here hx rfl (hb hby d3_34) rfl (l' := #[.val .null, rv b1_0, iv 3, iv 3, rv x5]) rfl (XS.goto X13.here hx rfl (pc0 := 37) (pc' := 9) rfl (hb hby d3_37) (by decide) (by decide) (XS.iloadN X13.here hx rfl (hb hby d3_9) rfl  (XS.iloadN X13.here hx rfl (hb hby d3_10) rfl  (XS.icmpYes X13.here hx rfl (pc0 := 11) (pc' := 40) rfl (hb hby d3_11) rfl (by decide) (by decide) (by decide) (XS.aconstNull X13.here hx rfl (hb hby d3_40) k))))))) ?_
  show Aw p e below _ T13 m 41 #[.val .null, rv b1_0, iv 3, iv 3, rv x5] [.null]
  refine Rch.val X13 hx (t := (.object s1')) hret hlk rfl (Or.inr (Or.inr (Or.inr (Or.inr ⟨rfl, rfl, rfl⟩)))) (hb hby d3_41) (by decide) (by decide) ?_
  try rw [e13]
  exact ⟨rfl, N13, ((Keep.refl _ _).trans K1 all0)⟩
theorem wd_25 {Z a0} (hw : HW Z a0) : (Cond.code ⟨s1', "of", s8'⟩ prog_61_method_4_code (5 : Nat) (Option.some (FieldType.object s1'))).before a0 Z = true := hw.at 25 rfl
theorem pd_3 : parseMethodDescriptor s8' = some ⟨[(.object "java/lang/String")], some (.object s1')⟩ := by decide +kernel
theorem wd_23 {Z a0} (hw : HW Z a0) : (Cond.static ⟨s1', "of", s8'⟩).before a0 Z = true := hw.at 23 rfl
theorem wd_0 {Z a0} (hw : HW Z a0) : (Cond.classLink s7' (7 : Nat) "java/lang/String").before a0 Z = true := hw.at 0 rfl
theorem wd_3 {Z a0} (hw : HW Z a0) : (Cond.arrayClass FieldType.char).before a0 Z = true := hw.at 3 rfl
theorem wd_4 {Z a0} (hw : HW Z a0) : (Cond.methodLink s7' (9 : Nat) ⟨"java/lang/String", "<init>", "([C)V"⟩).before a0 Z = true := hw.at 4 rfl
theorem wd_5 {Z a0} (hw : HW Z a0) : (Cond.instanceMethod ⟨"java/lang/String", "<init>", "([C)V"⟩).before a0 Z = true := hw.at 5 rfl
theorem wd_6 {Z a0} (hw : HW Z a0) : (Cond.code ⟨"java/lang/String", "<init>", "([C)V"⟩ jdk_42_method_3_code (2 : Nat) (Option.none : Option FieldType)).before a0 Z = true := hw.at 6 rfl
theorem pd_4 : parseMethodDescriptor "([C)V" = some ⟨[(.array .char)], none⟩ := by decide +kernel
theorem d5_14 : decode jdk_42_method_66_code 14 = .ok (.aload_n 1, 1) := by decide +kernel
theorem d5_15 : decode jdk_42_method_66_code 15 = .ok (.checkcast 10, 3) := by decide +kernel
theorem d5_18 : decode jdk_42_method_66_code 18 = .ok (.astore_n 2, 1) := by decide +kernel
theorem d5_19 : decode jdk_42_method_66_code 19 = .ok (.getstatic 38, 3) := by decide +kernel
theorem wd_52 {Z a0} (hw : HW Z a0) : (Cond.fieldLink "java/lang/String" (38 : Nat) "java/lang/String" "COMPACT_STRINGS" "Z").before a0 Z = true := hw.at 52 rfl
theorem d5_22 : decode jdk_42_method_66_code 22 = .ok (.ifCond .eq 14, 3) := by decide +kernel
theorem d5_25 : decode jdk_42_method_66_code 25 = .ok (.aload_n 0, 1) := by decide +kernel
theorem d5_26 : decode jdk_42_method_66_code 26 = .ok (.getfield 15, 3) := by decide +kernel
theorem d5_29 : decode jdk_42_method_66_code 29 = .ok (.aload_n 2, 1) := by decide +kernel
theorem d5_30 : decode jdk_42_method_66_code 30 = .ok (.getfield 15, 3) := by decide +kernel
theorem d5_33 : decode jdk_42_method_66_code 33 = .ok (.if_icmp .ne 21, 3) := by decide +kernel
theorem d5_36 : decode jdk_42_method_66_code 36 = .ok (.aload_n 0, 1) := by decide +kernel
theorem d5_37 : decode jdk_42_method_66_code 37 = .ok (.getfield 9, 3) := by decide +kernel
theorem d5_40 : decode jdk_42_method_66_code 40 = .ok (.aload_n 2, 1) := by decide +kernel
theorem d5_41 : decode jdk_42_method_66_code 41 = .ok (.getfield 9, 3) := by decide +kernel
theorem d5_44 : decode jdk_42_method_66_code 44 = .ok (.invokestatic 541, 3) := by decide +kernel
theorem wd_53 {Z a0} (hw : HW Z a0) : (Cond.methodLink "java/lang/String" (541 : Nat) ⟨s2', "equals", "([B[B)Z"⟩).before a0 Z = true := hw.at 53 rfl
theorem d6_0 : decode jdk_43_method_13_code 0 = .ok (.aload_n 0, 1) := by decide +kernel
theorem d6_1 : decode jdk_43_method_13_code 1 = .ok (.arraylength, 1) := by decide +kernel
theorem d6_2 : decode jdk_43_method_13_code 2 = .ok (.aload_n 1, 1) := by decide +kernel
theorem d6_3 : decode jdk_43_method_13_code 3 = .ok (.arraylength, 1) := by decide +kernel
theorem d6_4 : decode jdk_43_method_13_code 4 = .ok (.if_icmp .ne 30, 3) := by decide +kernel
theorem d6_34 : decode jdk_43_method_13_code 34 = .ok (.iconst 0, 1) := by decide +kernel
theorem d6_35 : decode jdk_43_method_13_code 35 = .ok (.ireturn, 1) := by decide +kernel
theorem pn_java_lang_StringLatin1 : plainName s2' = true := by first | (simp [plainName, overriddenIn]; done) | decide +kernel
theorem ef_m6_equals (m : MethodId) (x1 x2 : Addr) : entryFrame m #[(.ref x1), (.ref x2)] 3 = mkF m 0 #[rv x1, rv x2, uu] [] := by first | rfl | (simp [entryFrame, mkF, argsToLocals, Value.category]; done)
theorem m6_equals (l : Launch) (Z : State) (a0 : Array Value) (hw : HW Z a0) (x1 x2 : Addr) (kk3 kk4 : ClassId) (h0 : Heap) (n0 : Nat) (Z0 : n0 ≤ h0.size) (O0 : Old Z n0 h0) (P1 : Arv Z Z.heap x1 kk3 .byte (1 : Int32) [(.int 69)] (.int 0)) (P2 : Arv Z h0 x2 kk4 .byte (0 : Int32) [] (.int 0)) :
    Ctr l Z [] (⟨s2', "equals", "([B[B)Z"⟩ : MethodName) jdk_43_method_13_code 3 (some .boolean) #[(.ref x1), (.ref x2)] h0 ({ frames := 0, cells := 0, slots := 0, locals := 0 } : Room) (fun v h L => v = some (.int 0) ∧ Fr n0 L ∧ h = h0) := by
  refine Ctr.of (plainFor_of_name pn_java_lang_StringLatin1) (fun m => ef_m6_equals m x1 x2) ?_
  intro p e s m below meth c T0 hx hZ hby hml hown hnm hret hlk X0 e0
  have N0 := Fr.nil n0
  show Aw p e below _ T0 m 0 #[rv x1, rv x2, uu] []
  refine Rch.go (fun t k => XS.aloadN X0.here hx rfl (hb hby d6_0) rfl rfl k) ?_
  show Aw p e below _ T0 m 1 #[rv x1, rv x2, uu] [(.ref x1)]
  obtain ⟨c1, r1, q1, s1, u1, H1, G1⟩ := id (P1.ext O0.2)
  refine Rch.go (fun t k => X0.arraylength hx (by rw [e0]; exact r1.1) (State.isArrayOf_alike hZ.alike r1.2.1) (g := (mkF m 1 #[rv x1, rv x2, uu] [(.ref x1)])) rfl rfl (hb hby d6_1) t (by rw [len_of s1 u1]; exact k)) ?_
  show Aw p e below _ T0 m 2 #[rv x1, rv x2, uu] [(.int 1)]
  refine Rch.go (fun t k => XS.aloadN X0.here hx rfl (hb hby d6_2) rfl rfl k) ?_
  show Aw p e below _ T0 m 3 #[rv x1, rv x2, uu] [(.ref x2), (.int 1)]
  obtain ⟨c2, r2, q2, s2, u2, H2, G2⟩ := id P2
  refine Rch.go (fun t k => X0.arraylength hx (by rw [e0]; exact r2.1) (State.isArrayOf_alike hZ.alike r2.2.1) (g := (mkF m 3 #[rv x1, rv x2, uu] [(.ref x2), (.int 1)])) rfl rfl (hb hby d6_3) t (by rw [len_of s2 u2]; exact k)) ?_
  show Aw p e below _ T0 m 4 #[rv x1, rv x2, uu] [(.int 0), (.int 1)]
  refine Rch.go (fun t k => XS.icmpYes X0.here hx rfl (pc0 := 4) (pc' := 34) rfl (hb hby d6_4) rfl (by decide) (by decide) (by decide) (XS.iconst X0.here hx rfl (hb hby d6_34) k)) ?_
  show Aw p e below _ T0 m 35 #[rv x1, rv x2, uu] [(.int 0)]
  refine Rch.val X0 hx (t := .boolean) hret hlk rfl (mayI (by simp)) (hb hby d6_35) (by decide) (by decide) ?_
  try rw [e0]
  exact ⟨rfl, N0, rfl⟩
theorem wd_56 {Z a0} (hw : HW Z a0) : (Cond.code ⟨s2', "equals", "([B[B)Z"⟩ jdk_43_method_13_code (3 : Nat) (Option.some FieldType.boolean)).before a0 Z = true := hw.at 56 rfl
theorem wd_55 {Z a0} (hw : HW Z a0) : (Cond.initialized s2').before a0 Z = true := hw.at 55 rfl
theorem pd_5 : parseMethodDescriptor "([B[B)Z" = some ⟨[(.array .byte), (.array .byte)], some .boolean⟩ := by decide +kernel
theorem wd_54 {Z a0} (hw : HW Z a0) : (Cond.static ⟨s2', "equals", "([B[B)Z"⟩).before a0 Z = true := hw.at 54 rfl
theorem d5_47 : decode jdk_42_method_66_code 47 = .ok (.ifCond .eq 7, 3) := by decide +kernel
theorem ef_m5_equals (m : MethodId) (x1 x2 : Addr) : entryFrame m #[(.ref x1), (.ref x2)] 3 = mkF m 0 #[rv x1, rv x2, uu] [] := by first | rfl | (simp [entryFrame, mkF, argsToLocals, Value.category]; done)
theorem m5_equals (l : Launch) (Z : State) (a0 : Array Value) (hw : HW Z a0) (x1 x2 : Addr) (y3 : Int32) (x4 x5 : Addr) (kk6 kk7 : ClassId) (h0 : Heap) (n0 : Nat) (Z0 : n0 ≤ h0.size) (O0 : Old Z n0 h0) (P1 : x1 ≠ x2) (P2 : Exa Z h0 x2 "java/lang/String") (P3 : Sta Z Z.heap "java/lang/String" "COMPACT_STRINGS" "Z" (.int y3)) (P4 : ¬ (y3 = (0 : Int32))) (P5 : Fld Z Z.heap x1 "java/lang/String" "coder" "B" (.int 0)) (P6 : Fld Z h0 x2 "java/lang/String" "coder" "B" (.int 0)) (P7 : Fld Z Z.heap x1 "java/lang/String" "value" "[B" (.ref x4)) (P8 : Fld Z h0 x2 "java/lang/String" "value" "[B" (.ref x5)) (P9 : Arv Z Z.heap x4 kk6 .byte (1 : Int32) [(.int 69)] (.int 0)) (P10 : Arv Z h0 x5 kk7 .byte (0 : Int32) [] (.int 0)) :
    Ctr l Z [] (⟨"java/lang/String", "equals", s5'⟩ : MethodName) jdk_42_method_66_code 3 (some .boolean) #[(.ref x1), (.ref x2)] h0 ({ frames := 1, cells := 0, slots := 0, locals := 14 } : Room) (fun v h L => v = some (.int 0) ∧ Fr n0 L ∧ h = h0) := by
  refine Ctr.of (plainFor_of_name pn_java_lang_String) (fun m => ef_m5_equals m x1 x2) ?_
  intro p e s m below meth c T0 hx hZ hby hml hown hnm hret hlk X0 e0
  have N0 := Fr.nil n0
  show Aw p e below _ T0 m 0 #[rv x1, rv x2, uu] []
  refine Rch.go (fun t k => XS.aloadN X0.here hx rfl (hb hby d5_0) rfl rfl (XS.aloadN X0.here hx rfl (hb hby d5_1) rfl rfl (acmp X0 hx rfl (x := (.ref x1)) (y := (.ref x2)) rfl rfl (pc0 := 2) (pc' := 7) (same := false) rfl (hb hby d5_2) rfl (decide_eq_false (fun q => absurd (Value.ref.inj q) P1)) (by decide) (by decide) (XS.aloadN X0.here hx rfl (hb hby d5_7) rfl rfl k)))) ?_
  show Aw p e below _ T0 m 8 #[rv x1, rv x2, uu] [(.ref x2)]
  obtain ⟨T1, X1, e1, st1⟩ := instY X0 hx hZ hown (wd_51 hw) e0 (Ins.self P2) (g := (mkF m 8 #[rv x1, rv x2, uu] [(.ref x2)])) rfl rfl (hb hby d5_8)
  refine Rch.go st1 ?_
  show Aw p e below _ T1 m 11 #[rv x1, rv x2, uu] [(.int 1)]
  refine Rch.go (fun t k => XS.ifNo X1.here hx rfl (hb hby d5_11) rfl (by decide) (XS.aloadN X1.here hx rfl (hb hby d5_14) rfl rfl k)) ?_
  show Aw p e below _ T1 m 15 #[rv x1, rv x2, uu] [(.ref x2)]
  obtain ⟨T2, X2, e2, st2⟩ := castY X1 hx hZ hown (wd_51 hw) e1 (Ins.self P2) (g := (mkF m 15 #[rv x1, rv x2, uu] [(.ref x2)])) rfl rfl (hb hby d5_15)
  refine Rch.go st2 ?_
  show Aw p e below _ T2 m 18 #[rv x1, rv x2, uu] [(.ref x2)]
  refine Rch.go (fun t k => XS.astoreN X2.here hx rfl (hb hby d5_18) rfl rfl (l' := #[rv x1, rv x2, rv x2]) rfl k) ?_
  show Aw p e below _ T2 m 19 #[rv x1, rv x2, rv x2] []
  obtain ⟨T3, X3, e3, st3⟩ := getS2 X2 hx hZ hown (host := "") (Or.inl (wd_52 hw)) Via.refl e2 (P3.ext O0.2) (g := (mkF m 19 #[rv x1, rv x2, rv x2] [])) rfl (hb hby d5_19)
  refine Rch.go st3 ?_
  show Aw p e below _ T3 m 22 #[rv x1, rv x2, rv x2] [(.int y3)]
  refine Rch.go (fun t k => XS.ifNo X3.here hx rfl (hb hby d5_22) rfl (XT.i0_eq_f P4) (XS.aloadN X3.here hx rfl (hb hby d5_25) rfl rfl k)) ?_
  show Aw p e below _ T3 m 26 #[rv x1, rv x2, rv x2] [(.ref x1)]
  obtain ⟨T4, X4, e4, st4⟩ := getF X3 hx hZ hown (host := "") (Or.inl (wd_21 hw)) Via.refl e3 (P5.ext O0.2) (g := (mkF m 26 #[rv x1, rv x2, rv x2] [(.ref x1)])) rfl rfl (hb hby d5_26)
  refine Rch.go st4 ?_
  show Aw p e below _ T4 m 29 #[rv x1, rv x2, rv x2] [(.int 0)]
  refine Rch.go (fun t k => XS.aloadN X4.here hx rfl (hb hby d5_29) rfl rfl k) ?_
  show Aw p e below _ T4 m 30 #[rv x1, rv x2, rv x2] [(.ref x2), (.int 0)]
  obtain ⟨T5, X5, e5, st5⟩ := getF X4 hx hZ hown (host := "") (Or.inl (wd_21 hw)) Via.refl e4 P6 (g := (mkF m 30 #[rv x1, rv x2, rv x2] [(.ref x2), (.int 0)])) rfl rfl (hb hby d5_30)
  refine Rch.go st5 ?_
  show Aw p e below _ T5 m 33 #[rv x1, rv x2, rv x2] [(.int 0), (.int 0)]
  refine Rch.go (fun t k => XS.icmpNo X5.here hx rfl (hb hby d5_33) rfl (by decide) (XS.aloadN X5.here hx rfl (hb hby d5_36) rfl rfl k)) ?_
  show Aw p e below _ T5 m 37 #[rv x1, rv x2, rv x2] [(.ref x1)]
  obtain ⟨T6, X6, e6, st6⟩ := getF X5 hx hZ hown (host := "") (Or.inl (wd_20 hw)) Via.refl e5 (P7.ext O0.2) (g := (mkF m 37 #[rv x1, rv x2, rv x2] [(.ref x1)])) rfl rfl (hb hby d5_37)
  refine Rch.go st6 ?_
  show Aw p e below _ T6 m 40 #[rv x1, rv x2, rv x2] [(.ref x4)]
  refine Rch.go (fun t k => XS.aloadN X6.here hx rfl (hb hby d5_40) rfl rfl k) ?_
  show Aw p e below _ T6 m 41 #[rv x1, rv x2, rv x2] [(.ref x2), (.ref x4)]
  obtain ⟨T7, X7, e7, st7⟩ := getF X6 hx hZ hown (host := "") (Or.inl (wd_20 hw)) Via.refl e6 P8 (g := (mkF m 41 #[rv x1, rv x2, rv x2] [(.ref x2), (.ref x4)])) rfl rfl (hb hby d5_41)
  refine Rch.go st7 ?_
  show Aw p e below _ T7 m 44 #[rv x1, rv x2, rv x2] [(.ref x5), (.ref x4)]
  obtain ⟨v8, T8, L8, X8, Q8, st8⟩ := callSt X7 hx hZ (m6_equals l Z a0 hw x4 x5 kk6 kk7 h0 n0 Z0 O0 P9 P10) e7 hown (wd_53 hw) (wd_54 hw) (wd_56 hw) (wd_55 hw) (by decide) (hb hby d5_44) 0 (by decide) (by decide) (by decide) (by decide) (by rw [hml]; rfl) [(.ref x4), (.ref x5)] [] rfl (lenOf pd_5 rfl) rfl (Nat.le_of_eq rfl) (Ls := #[rv x1, rv x2, rv x2])
  obtain ⟨rfl, M8, e8⟩ := Q8
  have N8 := Fr.app N0 M8
  refine Rch.go st8 ?_
  show Aw p e below _ T8 m 47 #[rv x1, rv x2, rv x2] [(.int 0)]
  refine Rch.go (fun t k => XS.ifYes X8.here hx rfl (pc0 := 47) (pc' := 54) rfl (hb hby d5_47) rfl (by decide) (by decide) (by decide) (XS.iconst X8.here hx rfl (hb hby d5_54) k)) ?_
  show Aw p e below _ T8 m 55 #[rv x1, rv x2, rv x2] [(.int 0)]
  refine Rch.val X8 hx (t := .boolean) hret hlk rfl (mayI (by simp)) (hb hby d5_55) (by decide) (by decide) ?_
  try rw [e8]
  exact ⟨rfl, N8, rfl⟩
theorem ef_m8_equals (m : MethodId) (x1 x2 : Addr) : entryFrame m #[(.ref x1), (.ref x2)] 3 = mkF m 0 #[rv x1, rv x2, uu] [] := by first | rfl | (simp [entryFrame, mkF, argsToLocals, Value.category]; done)
theorem m8_equals (l : Launch) (Z : State) (a0 : Array Value) (hw : HW Z a0) (x1 x2 : Addr) (kk3 kk4 : ClassId) (h0 : Heap) (n0 : Nat) (Z0 : n0 ≤ h0.size) (O0 : Old Z n0 h0) (P1 : Arv Z Z.heap x1 kk3 .byte (1 : Int32) [(.int 101)] (.int 0)) (P2 : Arv Z h0 x2 kk4 .byte (0 : Int32) [] (.int 0)) :
    Ctr l Z [] (⟨s2', "equals", "([B[B)Z"⟩ : MethodName) jdk_43_method_13_code 3 (some .boolean) #[(.ref x1), (.ref x2)] h0 ({ frames := 0, cells := 0, slots := 0, locals := 0 } : Room) (fun v h L => v = some (.int 0) ∧ Fr n0 L ∧ h = h0) := by
  refine Ctr.of (plainFor_of_name pn_java_lang_StringLatin1) (fun m => ef_m8_equals m x1 x2) ?_
  intro p e s m below meth c T0 hx hZ hby hml hown hnm hret hlk X0 e0
  have N0 := Fr.nil n0
  show Aw p e below _ T0 m 0 #[rv x1, rv x2, uu] []
  refine Rch.go (fun t k => XS.aloadN X0.here hx rfl (hb hby d6_0) rfl rfl k) ?_
  show Aw p e below _ T0 m 1 #[rv x1, rv x2, uu] [(.ref x1)]
  obtain ⟨c1, r1, q1, s1, u1, H1, G1⟩ := id (P1.ext O0.2)
  refine Rch.go (fun t k => X0.arraylength hx (by rw [e0]; exact r1.1) (State.isArrayOf_alike hZ.alike r1.2.1) (g := (mkF m 1 #[rv x1, rv x2, uu] [(.ref x1)])) rfl rfl (hb hby d6_1) t (by rw [len_of s1 u1]; exact k)) ?_
  show Aw p e below _ T0 m 2 #[rv x1, rv x2, uu] [(.int 1)]
  refine Rch.go (fun t k => XS.aloadN X0.here hx rfl (hb hby d6_2) rfl rfl k) ?_
  show Aw p e below _ T0 m 3 #[rv x1, rv x2, uu] [(.ref x2), (.int 1)]
  obtain ⟨c2, r2, q2, s2, u2, H2, G2⟩ := id P2
  refine Rch.go (fun t k => X0.arraylength hx (by rw [e0]; exact r2.1) (State.isArrayOf_alike hZ.alike r2.2.1) (g := (mkF m 3 #[rv x1, rv x2, uu] [(.ref x2), (.int 1)])) rfl rfl (hb hby d6_3) t (by rw [len_of s2 u2]; exact k)) ?_
  show Aw p e below _ T0 m 4 #[rv x1, rv x2, uu] [(.int 0), (.int 1)]
  refine Rch.go (fun t k => XS.icmpYes X0.here hx rfl (pc0 := 4) (pc' := 34) rfl (hb hby d6_4) rfl (by decide) (by decide) (by decide) (XS.iconst X0.here hx rfl (hb hby d6_34) k)) ?_
  show Aw p e below _ T0 m 35 #[rv x1, rv x2, uu] [(.int 0)]
  refine Rch.val X0 hx (t := .boolean) hret hlk rfl (mayI (by simp)) (hb hby d6_35) (by decide) (by decide) ?_
  try rw [e0]
  exact ⟨rfl, N0, rfl⟩
theorem ef_m7_equals (m : MethodId) (x1 x2 : Addr) : entryFrame m #[(.ref x1), (.ref x2)] 3 = mkF m 0 #[rv x1, rv x2, uu] [] := by first | rfl | (simp [entryFrame, mkF, argsToLocals, Value.category]; done)
theorem m7_equals (l : Launch) (Z : State) (a0 : Array Value) (hw : HW Z a0) (x1 x2 : Addr) (y3 : Int32) (x4 x5 : Addr) (kk6 kk7 : ClassId) (h0 : Heap) (n0 : Nat) (Z0 : n0 ≤ h0.size) (O0 : Old Z n0 h0) (P1 : x1 ≠ x2) (P2 : Exa Z h0 x2 "java/lang/String") (P3 : Sta Z Z.heap "java/lang/String" "COMPACT_STRINGS" "Z" (.int y3)) (P4 : ¬ (y3 = (0 : Int32))) (P5 : Fld Z Z.heap x1 "java/lang/String" "coder" "B" (.int 0)) (P6 : Fld Z h0 x2 "java/lang/String" "coder" "B" (.int 0)) (P7 : Fld Z Z.heap x1 "java/lang/String" "value" "[B" (.ref x4)) (P8 : Fld Z h0 x2 "java/lang/String" "value" "[B" (.ref x5)) (P9 : Arv Z Z.heap x4 kk6 .byte (1 : Int32) [(.int 101)] (.int 0)) (P10 : Arv Z h0 x5 kk7 .byte (0 : Int32) [] (.int 0)) :
    Ctr l Z [] (⟨"java/lang/String", "equals", s5'⟩ : MethodName) jdk_42_method_66_code 3 (some .boolean) #[(.ref x1), (.ref x2)] h0 ({ frames := 1, cells := 0, slots := 0, locals := 14 } : Room) (fun v h L => v = some (.int 0) ∧ Fr n0 L ∧ h = h0) := by
  refine Ctr.of (plainFor_of_name pn_java_lang_String) (fun m => ef_m7_equals m x1 x2) ?_
  intro p e s m below meth c T0 hx hZ hby hml hown hnm hret hlk X0 e0
  have N0 := Fr.nil n0
  show Aw p e below _ T0 m 0 #[rv x1, rv x2, uu] []
  refine Rch.go (fun t k => XS.aloadN X0.here hx rfl (hb hby d5_0) rfl rfl (XS.aloadN X0.here hx rfl (hb hby d5_1) rfl rfl (acmp X0 hx rfl (x := (.ref x1)) (y := (.ref x2)) rfl rfl (pc0 := 2) (pc' := 7) (same := false) rfl (hb hby d5_2) rfl (decide_eq_false (fun q => absurd (Value.ref.inj q) P1)) (by decide) (by decide) (XS.aloadN X0.here hx rfl (hb hby d5_7) rfl rfl k)))) ?_
  show Aw p e below _ T0 m 8 #[rv x1, rv x2, uu] [(.ref x2)]
  obtain ⟨T1, X1, e1, st1⟩ := instY X0 hx hZ hown (wd_51 hw) e0 (Ins.self P2) (g := (mkF m 8 #[rv x1, rv x2, uu] [(.ref x2)])) rfl rfl (hb hby d5_8)
  refine Rch.go st1 ?_
  show Aw p e below _ T1 m 11 #[rv x1, rv x2, uu] [(.int 1)]
  refine Rch.go (fun t k => XS.ifNo X1.here hx rfl (hb hby d5_11) rfl (by decide) (XS.aloadN X1.here hx rfl (hb hby d5_14) rfl rfl k)) ?_
  show Aw p e below _ T1 m 15 #[rv x1, rv x2, uu] [(.ref x2)]
  obtain ⟨T2, X2, e2, st2⟩ := castY X1 hx hZ hown (wd_51 hw) e1 (Ins.self P2) (g := (mkF m 15 #[rv x1, rv x2, uu] [(.ref x2)])) rfl rfl (hb hby d5_15)
  refine Rch.go st2 ?_
  show Aw p e below _ T2 m 18 #[rv x1, rv x2, uu] [(.ref x2)]
  refine Rch.go (fun t k => XS.astoreN X2.here hx rfl (hb hby d5_18) rfl rfl (l' := #[rv x1, rv x2, rv x2]) rfl k) ?_
  show Aw p e below _ T2 m 19 #[rv x1, rv x2, rv x2] []
  obtain ⟨T3, X3, e3, st3⟩ := getS2 X2 hx hZ hown (host := "") (Or.inl (wd_52 hw)) Via.refl e2 (P3.ext O0.2) (g := (mkF m 19 #[rv x1, rv x2, rv x2] [])) rfl (hb hby d5_19)
  refine Rch.go st3 ?_
  show Aw p e below _ T3 m 22 #[rv x1, rv x2, rv x2] [(.int y3)]
  refine Rch.go (fun t k => XS.ifNo X3.here hx rfl (hb hby d5_22) rfl (XT.i0_eq_f P4) (XS.aloadN X3.here hx rfl (hb hby d5_25) rfl rfl k)) ?_
  show Aw p e below _ T3 m 26 #[rv x1, rv x2, rv x2] [(.ref x1)]
  obtain ⟨T4, X4, e4, st4⟩ := getF X3 hx hZ hown (host := "") (Or.inl (wd_21 hw)) Via.refl e3 (P5.ext O0.2) (g := (mkF m 26 #[rv x1, rv x2, rv x2] [(.ref x1)])) rfl rfl (hb hby d5_26)
  refine Rch.go st4 ?_
  show Aw p e below _ T4 m 29 #[rv x1, rv x2, rv x2] [(.int 0)]
  refine Rch.go (fun t k => XS.aloadN X4.here hx rfl (hb hby d5_29) rfl rfl k) ?_
  show Aw p e below _ T4 m 30 #[rv x1, rv x2, rv x2] [(.ref x2), (.int 0)]
  obtain ⟨T5, X5, e5, st5⟩ := getF X4 hx hZ hown (host := "") (Or.inl (wd_21 hw)) Via.refl e4 P6 (g := (mkF m 30 #[rv x1, rv x2, rv x2] [(.ref x2), (.int 0)])) rfl rfl (hb hby d5_30)
  refine Rch.go st5 ?_
  show Aw p e below _ T5 m 33 #[rv x1, rv x2, rv x2] [(.int 0), (.int 0)]
  refine Rch.go (fun t k => XS.icmpNo X5.here hx rfl (hb hby d5_33) rfl (by decide) (XS.aloadN X5.here hx rfl (hb hby d5_36) rfl rfl k)) ?_
  show Aw p e below _ T5 m 37 #[rv x1, rv x2, rv x2] [(.ref x1)]
  obtain ⟨T6, X6, e6, st6⟩ := getF X5 hx hZ hown (host := "") (Or.inl (wd_20 hw)) Via.refl e5 (P7.ext O0.2) (g := (mkF m 37 #[rv x1, rv x2, rv x2] [(.ref x1)])) rfl rfl (hb hby d5_37)
  refine Rch.go st6 ?_
  show Aw p e below _ T6 m 40 #[rv x1, rv x2, rv x2] [(.ref x4)]
  refine Rch.go (fun t k => XS.aloadN X6.here hx rfl (hb hby d5_40) rfl rfl k) ?_
  show Aw p e below _ T6 m 41 #[rv x1, rv x2, rv x2] [(.ref x2), (.ref x4)]
  obtain ⟨T7, X7, e7, st7⟩ := getF X6 hx hZ hown (host := "") (Or.inl (wd_20 hw)) Via.refl e6 P8 (g := (mkF m 41 #[rv x1, rv x2, rv x2] [(.ref x2), (.ref x4)])) rfl rfl (hb hby d5_41)
  refine Rch.go st7 ?_
  show Aw p e below _ T7 m 44 #[rv x1, rv x2, rv x2] [(.ref x5), (.ref x4)]
  obtain ⟨v8, T8, L8, X8, Q8, st8⟩ := callSt X7 hx hZ (m8_equals l Z a0 hw x4 x5 kk6 kk7 h0 n0 Z0 O0 P9 P10) e7 hown (wd_53 hw) (wd_54 hw) (wd_56 hw) (wd_55 hw) (by decide) (hb hby d5_44) 0 (by decide) (by decide) (by decide) (by decide) (by rw [hml]; rfl) [(.ref x4), (.ref x5)] [] rfl (lenOf pd_5 rfl) rfl (Nat.le_of_eq rfl) (Ls := #[rv x1, rv x2, rv x2])
  obtain ⟨rfl, M8, e8⟩ := Q8
  have N8 := Fr.app N0 M8
  refine Rch.go st8 ?_
  show Aw p e below _ T8 m 47 #[rv x1, rv x2, rv x2] [(.int 0)]
  refine Rch.go (fun t k => XS.ifYes X8.here hx rfl (pc0 := 47) (pc' := 54) rfl (hb hby d5_47) rfl (by decide) (by decide) (by decide) (XS.iconst X8.here hx rfl (hb hby d5_54) k)) ?_
  show Aw p e below _ T8 m 55 #[rv x1, rv x2, rv x2] [(.int 0)]
  refine Rch.val X8 hx (t := .boolean) hret hlk rfl (mayI (by simp)) (hb hby d5_55) (by decide) (by decide) ?_
  try rw [e8]
  exact ⟨rfl, N8, rfl⟩
theorem ef_m10_equals (m : MethodId) (x1 x2 : Addr) : entryFrame m #[(.ref x1), (.ref x2)] 3 = mkF m 0 #[rv x1, rv x2, uu] [] := by first | rfl | (simp [entryFrame, mkF, argsToLocals, Value.category]; done)
theorem m10_equals (l : Launch) (Z : State) (a0 : Array Value) (hw : HW Z a0) (x1 x2 : Addr) (kk3 kk4 : ClassId) (h0 : Heap) (n0 : Nat) (Z0 : n0 ≤ h0.size) (O0 : Old Z n0 h0) (P1 : Arv Z Z.heap x1 kk3 .byte (1 : Int32) [(.int 38)] (.int 0)) (P2 : Arv Z h0 x2 kk4 .byte (0 : Int32) [] (.int 0)) :
    Ctr l Z [] (⟨s2', "equals", "([B[B)Z"⟩ : MethodName) jdk_43_method_13_code 3 (some .boolean) #[(.ref x1), (.ref x2)] h0 ({ frames := 0, cells := 0, slots := 0, locals := 0 } : Room) (fun v h L => v = some (.int 0) ∧ Fr n0 L ∧ h = h0) := by
  refine Ctr.of (plainFor_of_name pn_java_lang_StringLatin1) (fun m => ef_m10_equals m x1 x2) ?_
  intro p e s m below meth c T0 hx hZ hby hml hown hnm hret hlk X0 e0
  have N0 := Fr.nil n0
  show Aw p e below _ T0 m 0 #[rv x1, rv x2, uu] []
  refine Rch.go (fun t k => XS.aloadN X0.here hx rfl (hb hby d6_0) rfl rfl k) ?_
  show Aw p e below _ T0 m 1 #[rv x1, rv x2, uu] [(.ref x1)]
  obtain ⟨c1, r1, q1, s1, u1, H1, G1⟩ := id (P1.ext O0.2)
  refine Rch.go (fun t k => X0.arraylength hx (by rw [e0]; exact r1.1) (State.isArrayOf_alike hZ.alike r1.2.1) (g := (mkF m 1 #[rv x1, rv x2, uu] [(.ref x1)])) rfl rfl (hb hby d6_1) t (by rw [len_of s1 u1]; exact k)) ?_
  show Aw p e below _ T0 m 2 #[rv x1, rv x2, uu] [(.int 1)]
  refine Rch.go (fun t k => XS.aloadN X0.here hx rfl (hb hby d6_2) rfl rfl k) ?_
  show Aw p e below _ T0 m 3 #[rv x1, rv x2, uu] [(.ref x2), (.int 1)]
  obtain ⟨c2, r2, q2, s2, u2, H2, G2⟩ := id P2
  refine Rch.go (fun t k => X0.arraylength hx (by rw [e0]; exact r2.1) (State.isArrayOf_alike hZ.alike r2.2.1) (g := (mkF m 3 #[rv x1, rv x2, uu] [(.ref x2), (.int 1)])) rfl rfl (hb hby d6_3) t (by rw [len_of s2 u2]; exact k)) ?_
  show Aw p e below _ T0 m 4 #[rv x1, rv x2, uu] [(.int 0), (.int 1)]
  refine Rch.go (fun t k => XS.icmpYes X0.here hx rfl (pc0 := 4) (pc' := 34) rfl (hb hby d6_4) rfl (by decide) (by decide) (by decide) (XS.iconst X0.here hx rfl (hb hby d6_34) k)) ?_
  show Aw p e below _ T0 m 35 #[rv x1, rv x2, uu] [(.int 0)]
  refine Rch.val X0 hx (t := .boolean) hret hlk rfl (mayI (by simp)) (hb hby d6_35) (by decide) (by decide) ?_
  try rw [e0]
  exact ⟨rfl, N0, rfl⟩
theorem ef_m9_equals (m : MethodId) (x1 x2 : Addr) : entryFrame m #[(.ref x1), (.ref x2)] 3 = mkF m 0 #[rv x1, rv x2, uu] [] := by first | rfl | (simp [entryFrame, mkF, argsToLocals, Value.category]; done)
theorem m9_equals (l : Launch) (Z : State) (a0 : Array Value) (hw : HW Z a0) (x1 x2 : Addr) (y3 : Int32) (x4 x5 : Addr) (kk6 kk7 : ClassId) (h0 : Heap) (n0 : Nat) (Z0 : n0 ≤ h0.size) (O0 : Old Z n0 h0) (P1 : x1 ≠ x2) (P2 : Exa Z h0 x2 "java/lang/String") (P3 : Sta Z Z.heap "java/lang/String" "COMPACT_STRINGS" "Z" (.int y3)) (P4 : ¬ (y3 = (0 : Int32))) (P5 : Fld Z Z.heap x1 "java/lang/String" "coder" "B" (.int 0)) (P6 : Fld Z h0 x2 "java/lang/String" "coder" "B" (.int 0)) (P7 : Fld Z Z.heap x1 "java/lang/String" "value" "[B" (.ref x4)) (P8 : Fld Z h0 x2 "java/lang/String" "value" "[B" (.ref x5)) (P9 : Arv Z Z.heap x4 kk6 .byte (1 : Int32) [(.int 38)] (.int 0)) (P10 : Arv Z h0 x5 kk7 .byte (0 : Int32) [] (.int 0)) :
    Ctr l Z [] (⟨"java/lang/String", "equals", s5'⟩ : MethodName) jdk_42_method_66_code 3 (some .boolean) #[(.ref x1), (.ref x2)] h0 ({ frames := 1, cells := 0, slots := 0, locals := 14 } : Room) (fun v h L => v = some (.int 0) ∧ Fr n0 L ∧ h = h0) := by
  refine Ctr.of (plainFor_of_name pn_java_lang_String) (fun m => ef_m9_equals m x1 x2) ?_
  intro p e s m below meth c T0 hx hZ hby hml hown hnm hret hlk X0 e0
  have N0 := Fr.nil n0
  show Aw p e below _ T0 m 0 #[rv x1, rv x2, uu] []
  refine Rch.go (fun t k => XS.aloadN X0.here hx rfl (hb hby d5_0) rfl rfl (XS.aloadN X0.here hx rfl (hb hby d5_1) rfl rfl (acmp X0 hx rfl (x := (.ref x1)) (y := (.ref x2)) rfl rfl (pc0 := 2) (pc' := 7) (same := false) rfl (hb hby d5_2) rfl (decide_eq_false (fun q => absurd (Value.ref.inj q) P1)) (by decide) (by decide) (XS.aloadN X0.here hx rfl (hb hby d5_7) rfl rfl k)))) ?_
  show Aw p e below _ T0 m 8 #[rv x1, rv x2, uu] [(.ref x2)]
  obtain ⟨T1, X1, e1, st1⟩ := instY X0 hx hZ hown (wd_51 hw) e0 (Ins.self P2) (g := (mkF m 8 #[rv x1, rv x2, uu] [(.ref x2)])) rfl rfl (hb hby d5_8)
  refine Rch.go st1 ?_
  show Aw p e below _ T1 m 11 #[rv x1, rv x2, uu] [(.int 1)]
  refine Rch.go (fun t k => XS.ifNo X1.here hx rfl (hb hby d5_11) rfl (by decide) (XS.aloadN X1.here hx rfl (hb hby d5_14) rfl rfl k)) ?_
  show Aw p e below _ T1 m 15 #[rv x1, rv x2, uu] [(.ref x2)]
  obtain ⟨T2, X2, e2, st2⟩ := castY X1 hx hZ hown (wd_51 hw) e1 (Ins.self P2) (g := (mkF m 15 #[rv x1, rv x2, uu] [(.ref x2)])) rfl rfl (hb hby d5_15)
  refine Rch.go st2 ?_
  show Aw p e below _ T2 m 18 #[rv x1, rv x2, uu] [(.ref x2)]
  refine Rch.go (fun t k => XS.astoreN X2.here hx rfl (hb hby d5_18) rfl rfl (l' := #[rv x1, rv x2, rv x2]) rfl k) ?_
  show Aw p e below _ T2 m 19 #[rv x1, rv x2, rv x2] []
  obtain ⟨T3, X3, e3, st3⟩ := getS2 X2 hx hZ hown (host := "") (Or.inl (wd_52 hw)) Via.refl e2 (P3.ext O0.2) (g := (mkF m 19 #[rv x1, rv x2, rv x2] [])) rfl (hb hby d5_19)
  refine Rch.go st3 ?_
  show Aw p e below _ T3 m 22 #[rv x1, rv x2, rv x2] [(.int y3)]
  refine Rch.go (fun t k => XS.ifNo X3.here hx rfl (hb hby d5_22) rfl (XT.i0_eq_f P4) (XS.aloadN X3.here hx rfl (hb hby d5_25) rfl rfl k)) ?_
  show Aw p e below _ T3 m 26 #[rv x1, rv x2, rv x2] [(.ref x1)]
  obtain ⟨T4, X4, e4, st4⟩ := getF X3 hx hZ hown (host := "") (Or.inl (wd_21 hw)) Via.refl e3 (P5.ext O0.2) (g := (mkF m 26 #[rv x1, rv x2, rv x2] [(.ref x1)])) rfl rfl (hb hby d5_26)
  refine Rch.go st4 ?_
  show Aw p e below _ T4 m 29 #[rv x1, rv x2, rv x2] [(.int 0)]
  refine Rch.go (fun t k => XS.aloadN X4.here hx rfl (hb hby d5_29) rfl rfl k) ?_
  show Aw p e below _ T4 m 30 #[rv x1, rv x2, rv x2] [(.ref x2), (.int 0)]
  obtain ⟨T5, X5, e5, st5⟩ := getF X4 hx hZ hown (host := "") (Or.inl (wd_21 hw)) Via.refl e4 P6 (g := (mkF m 30 #[rv x1, rv x2, rv x2] [(.ref x2), (.int 0)])) rfl rfl (hb hby d5_30)
  refine Rch.go st5 ?_
  show Aw p e below _ T5 m 33 #[rv x1, rv x2, rv x2] [(.int 0), (.int 0)]
  refine Rch.go (fun t k => XS.icmpNo X5.here hx rfl (hb hby d5_33) rfl (by decide) (XS.aloadN X5.here hx rfl (hb hby d5_36) rfl rfl k)) ?_
  show Aw p e below _ T5 m 37 #[rv x1, rv x2, rv x2] [(.ref x1)]
  obtain ⟨T6, X6, e6, st6⟩ := getF X5 hx hZ hown (host := "") (Or.inl (wd_20 hw)) Via.refl e5 (P7.ext O0.2) (g := (mkF m 37 #[rv x1, rv x2, rv x2] [(.ref x1)])) rfl rfl (hb hby d5_37)
  refine Rch.go st6 ?_
  show Aw p e below _ T6 m 40 #[rv x1, rv x2, rv x2] [(.ref x4)]
  refine Rch.go (fun t k => XS.aloadN X6.here hx rfl (hb hby d5_40) rfl rfl k) ?_
  show Aw p e below _ T6 m 41 #[rv x1, rv x2, rv x2] [(.ref x2), (.ref x4)]
  obtain ⟨T7, X7, e7, st7⟩ := getF X6 hx hZ hown (host := "") (Or.inl (wd_20 hw)) Via.refl e6 P8 (g := (mkF m 41 #[rv x1, rv x2, rv x2] [(.ref x2), (.ref x4)])) rfl rfl (hb hby d5_41)
  refine Rch.go st7 ?_
  show Aw p e below _ T7 m 44 #[rv x1, rv x2, rv x2] [(.ref x5), (.ref x4)]
  obtain ⟨v8, T8, L8, X8, Q8, st8⟩ := callSt X7 hx hZ (m10_equals l Z a0 hw x4 x5 kk6 kk7 h0 n0 Z0 O0 P9 P10) e7 hown (wd_53 hw) (wd_54 hw) (wd_56 hw) (wd_55 hw) (by decide) (hb hby d5_44) 0 (by decide) (by decide) (by decide) (by decide) (by rw [hml]; rfl) [(.ref x4), (.ref x5)] [] rfl (lenOf pd_5 rfl) rfl (Nat.le_of_eq rfl) (Ls := #[rv x1, rv x2, rv x2])
  obtain ⟨rfl, M8, e8⟩ := Q8
  have N8 := Fr.app N0 M8
  refine Rch.go st8 ?_
  show Aw p e below _ T8 m 47 #[rv x1, rv x2, rv x2] [(.int 0)]
  refine Rch.go (fun t k => XS.ifYes X8.here hx rfl (pc0 := 47) (pc' := 54) rfl (hb hby d5_47) rfl (by decide) (by decide) (by decide) (XS.iconst X8.here hx rfl (hb hby d5_54) k)) ?_
  show Aw p e below _ T8 m 55 #[rv x1, rv x2, rv x2] [(.int 0)]
  refine Rch.val X8 hx (t := .boolean) hret hlk rfl (mayI (by simp)) (hb hby d5_55) (by decide) (by decide) ?_
  try rw [e8]
  exact ⟨rfl, N8, rfl⟩
theorem ef_m4_of (m : MethodId) (x1 : Addr) : entryFrame m #[(.ref x1)] 5 = mkF m 0 #[rv x1, uu, uu, uu, uu] [] := by first | rfl | (simp [entryFrame, mkF, argsToLocals, Value.category]; done)
theorem m4_of (l : Launch) (Z : State) (a0 : Array Value) (hw : HW Z a0) (x1 x2 : Addr) (kk3 : ClassId) (x4 x5 x6 x7 : Addr) (y8 : Int32) (x9 x10 : Addr) (kk11 kk12 : ClassId) (x13 x14 : Addr) (kk15 : ClassId) (x16 x17 : Addr) (kk18 : ClassId) (h0 : Heap) (n0 : Nat) (Z0 : n0 ≤ h0.size) (O0 : Old Z n0 h0) (P1 : Sta Z Z.heap s1' "$VALUES" s3' (.ref x2)) (P2 : Arv Z Z.heap x2 kk3 (.object s1') (3 : Int32) [(.ref x4), (.ref x5), (.ref x6)] .null) (P3 : Exa Z Z.heap x2 s3') (P4 : Fld Z Z.heap x4 s1' "text" "Ljava/lang/String;" (.ref x7)) (P5 : Exa Z Z.heap x7 "java/lang/String") (P6 : x7 ≠ x1) (P7 : Exa Z h0 x1 "java/lang/String") (P8 : Sta Z Z.heap "java/lang/String" "COMPACT_STRINGS" "Z" (.int y8)) (P9 : ¬ (y8 = (0 : Int32))) (P10 : Fld Z Z.heap x7 "java/lang/String" "coder" "B" (.int 0)) (P11 : Fld Z h0 x1 "java/lang/String" "coder" "B" (.int 0)) (P12 : Fld Z Z.heap x7 "java/lang/String" "value" "[B" (.ref x9)) (P13 : Fld Z h0 x1 "java/lang/String" "value" "[B" (.ref x10)) (P14 : Arv Z Z.heap x9 kk11 .byte (1 : Int32) [(.int 69)] (.int 0)) (P15 : Arv Z h0 x10 kk12 .byte (0 : Int32) [] (.int 0)) (P16 : Fld Z Z.heap x5 s1' "text" "Ljava/lang/String;" (.ref x13)) (P17 : Exa Z Z.heap x13 "java/lang/String") (P18 : x13 ≠ x1) (P19 : Fld Z Z.heap x13 "java/lang/String" "coder" "B" (.int 0)) (P20 : Fld Z Z.heap x13 "java/lang/String" "value" "[B" (.ref x14)) (P21 : Arv Z Z.heap x14 kk15 .byte (1 : Int32) [(.int 101)] (.int 0)) (P22 : Fld Z Z.heap x6 s1' "text" "Ljava/lang/String;" (.ref x16)) (P23 : Exa Z Z.heap x16 "java/lang/String") (P24 : x16 ≠ x1) (P25 : Fld Z Z.heap x16 "java/lang/String" "coder" "B" (.int 0)) (P26 : Fld Z Z.heap x16 "java/lang/String" "value" "[B" (.ref x17)) (P27 : Arv Z Z.heap x17 kk18 .byte (1 : Int32) [(.int 38)] (.int 0)) :
    Ctr l Z [] (⟨s1', "of", s8'⟩ : MethodName) prog_61_method_4_code 5 (some (.object s1')) #[(.ref x1)] h0 ({ frames := 2, cells := 1, slots := 3, locals := 28 } : Room) (fun v h L => v = some .null ∧ Fr n0 L ∧ Keep h0 h []) := by
  refine Ctr.of (plainFor_of_name pn_com_example_knit_theories_knittheories_model_Gather) (fun m => ef_m4_of m x1) ?_
  intro p e s m below meth c T0 hx hZ hby hml hown hnm hret hlk X0 e0
  have N0 := Fr.nil n0
  show Aw p e below _ T0 m 0 #[rv x1, uu, uu, uu, uu] []
  obtain ⟨v1, T1, L1, X1, Q1, st1⟩ := callSt X0 hx hZ (m2_values l Z a0 hw x2 kk3 x4 x5 x6 h0 n0 Z0 O0 P1 P2 P3) e0 hown (wd_26 hw) (wd_27 hw) (wd_28 hw) (wd_24 hw) (by decide) (hb hby d3_0) 0 (by decide) (by decide) (by decide) (by decide) (by rw [hml]; rfl) [] [] rfl (lenOf pd_1 rfl) rfl (Nat.le_of_eq rfl) (Ls := #[rv x1, uu, uu, uu, uu])
  obtain ⟨b1_0, rfl, M1, K1, zz1_0, F1_0, F1_1⟩ := Q1
  have N1 := Fr.app N0 M1
  refine Rch.go st1 ?_
  have g_b1_0 : n0 ≤ b1_0 := Nat.le_trans Z0 zz1_0
  show Aw p e below _ T1 m 3 #[rv x1, uu, uu, uu, uu] [(.ref b1_0)]
  refine Rch.go (fun t k => XS.astoreN X1.here hx rfl (hb hby d3_3) rfl rfl (l' := #[rv x1, rv b1_0, uu, uu, uu]) rfl (XS.aloadN X1.here hx rfl (hb hby d3_4) rfl rfl k)) ?_
  show Aw p e below _ T1 m 5 #[rv x1, rv b1_0, uu, uu, uu] [(.ref b1_0)]
  obtain ⟨c2, r2, q2, s2, u2, H2, G2⟩ := id F1_1
  refine Rch.go (fun t k => X1.arraylength hx r2.1 (State.isArrayOf_alike hZ.alike r2.2.1) (g := (mkF m 5 #[rv x1, rv b1_0, uu, uu, uu] [(.ref b1_0)])) rfl rfl (hb hby d3_5) t (by rw [len_of s2 u2]; exact k)) ?_
  show Aw p e below _ T1 m 6 #[rv x1, rv b1_0, uu, uu, uu] [(.int 3)]
  refine Rch.go (fun t k => XS.istoreN X1.here hx rfl (hb hby d3_6) rfl  (l' := #[rv x1, rv b1_0, iv 3, uu, uu]) rfl (XS.iconst X1.here hx rfl (hb hby d3_7) (XS.istoreN X1.here hx rfl (hb hby d3_8) rfl  (l' := #[rv x1, rv b1_0, iv 3, iv 0, uu]) rfl (XS.iloadN X1.here hx rfl (hb hby d3_9) rfl  (XS.iloadN X1.here hx rfl (hb hby d3_10) rfl  (XS.icmpNo X1.here hx rfl (hb hby d3_11) rfl (by decide) (XS.aloadN X1.here hx rfl (hb hby d3_14) rfl rfl (XS.iloadN X1.here hx rfl (hb hby d3_15) rfl  k)))))))) ?_
  show Aw p e below _ T1 m 16 #[rv x1, rv b1_0, iv 3, iv 0, uu] [(.int 0), (.ref b1_0)]
  obtain ⟨c3, r3, q3, s3, u3, H3, G3⟩ := id F1_1
  refine Rch.go (fun t k => X1.aaload hx (j := (0 : Int32)) (v := (.ref x4)) r3.1 (State.isArrayOf_alike hZ.alike r3.2.1) rfl r3.2.2 (inb_of s3 (by decide)) (H3.at (inb_of s3 (by decide)) rfl) (g := (mkF m 16 #[rv x1, rv b1_0, iv 3, iv 0, uu] [(.int 0), (.ref b1_0)])) rfl rfl (hb hby d3_16) t k) ?_
  show Aw p e below _ T1 m 17 #[rv x1, rv b1_0, iv 3, iv 0, uu] [(.ref x4)]
  refine Rch.go (fun t k => XS.astore X1.here hx rfl (hb hby d3_17) rfl rfl (l' := #[rv x1, rv b1_0, iv 3, iv 0, rv x4]) rfl (XS.aload X1.here hx rfl (hb hby d3_19) rfl rfl k)) ?_
  show Aw p e below _ T1 m 21 #[rv x1, rv b1_0, iv 3, iv 0, rv x4] [(.ref x4)]
  have o5 := (O0.keep K1 all0)
  obtain ⟨T4, X4, e4, st4⟩ := getF X1 hx hZ hown (host := "") (Or.inl (wd_44 hw)) Via.refl rfl (P4.ext o5.2) (g := (mkF m 21 #[rv x1, rv b1_0, iv 3, iv 0, rv x4] [(.ref x4)])) rfl rfl (hb hby d3_21)
  refine Rch.go st4 ?_
  show Aw p e below _ T4 m 24 #[rv x1, rv b1_0, iv 3, iv 0, rv x4] [(.ref x7)]
  refine Rch.go (fun t k => XS.aloadN X4.here hx rfl (hb hby d3_24) rfl rfl k) ?_
  show Aw p e below _ T4 m 25 #[rv x1, rv b1_0, iv 3, iv 0, rv x4] [(.ref x1), (.ref x7)]
  have f6 := (P7.keep K1)
  have f7 := (P11.keep K1 nin0)
  have f8 := (P13.keep K1 nin0)
  have f9 := (P15.keep K1 nin0)
  have z10 := (Nat.le_trans Z0 K1.1)
  obtain ⟨v11, T11, L11, X11, Q11, st11⟩ := callVi X4 hx hZ (m5_equals l Z a0 hw x7 x1 y8 x9 x10 kk11 kk12 T1.heap n0 z10 o5 P6 f6 P8 P9 P10 f7 P12 f8 P14 f9) e4 hown (wd_46 hw) (wd_47 hw) (wd_49 hw) (notFace_of_selects (args := #[]) (mvT hZ (wd_49 hw))) (wd_48 hw) (wd_50 hw) (wd_2 hw) (by decide) (hb hby d3_25) 0 (by decide) (by decide) (by decide) (by decide) (by rw [hml]; rfl) x7 (P5.ext o5.2) [(.ref x1)] [] rfl (lenOf pd_2 rfl) rfl (Nat.le_of_eq rfl) (Ls := #[rv x1, rv b1_0, iv 3, iv 0, rv x4])
  obtain ⟨rfl, M11, e11⟩ := Q11
  have N11 := Fr.app N1 M11
  refine Rch.go st11 ?_
  show Aw p e below _ T11 m 28 #[rv x1, rv b1_0, iv 3, iv 0, rv x4] [(.int 0)]
  refine Rch.go (fun t k => XS.ifYes X11.here hx rfl (pc0 := 28) (pc' := 34) rfl (hb hby d3_28) rfl (by decide) (by decide) (by decide) (XS.iinc X11.here hx rfl (hb hby d3_34) rfl (l' := #[rv x1, rv b1_0, iv 3, iv 1, rv x4]) rfl (XS.goto X11.here hx rfl (pc0 := 37) (pc' := 9) rfl (hb hby d3_37) (by decide) (by decide) (XS.iloadN X11.here hx rfl (hb hby d3_9) rfl  (XS.iloadN X11.here hx rfl (hb hby d3_10) rfl  (XS.icmpNo X11.here hx rfl (hb hby d3_11) rfl (by decide) (XS.aloadN X11.here hx rfl (hb hby d3_14) rfl rfl (XS.iloadN X11.here hx rfl (hb hby d3_15) rfl  k)))))))) ?_
  show Aw p e below _ T11 m 16 #[rv x1, rv b1_0, iv 3, iv 1, rv x4] [(.int 1), (.ref b1_0)]
  obtain ⟨c12, r12, q12, s12, u12, H12, G12⟩ := id F1_1
  refine Rch.go (fun t k => X11.aaload hx (j := (1 : Int32)) (v := (.ref x5)) (by rw [e11]; exact r12.1) (State.isArrayOf_alike hZ.alike r12.2.1) rfl r12.2.2 (inb_of s12 (by decide)) (H12.at (inb_of s12 (by decide)) rfl) (g := (mkF m 16 #[rv x1, rv b1_0, iv 3, iv 1, rv x4] [(.int 1), (.ref b1_0)])) rfl rfl (hb hby d3_16) t k) ?_
  show Aw p e below _ T11 m 17 #[rv x1, rv b1_0, iv 3, iv 1, rv x4] [(.ref x5)]
  refine Rch.go (fun t k => XS.astore X11.here hx rfl (hb hby d3_17) rfl rfl (l' := #[rv x1, rv b1_0, iv 3, iv 1, rv x5]) rfl (XS.aload X11.here hx rfl (hb hby d3_19) rfl rfl k)) ?_
  show Aw p e below _ T11 m 21 #[rv x1, rv b1_0, iv 3, iv 1, rv x5] [(.ref x5)]
  obtain ⟨T13, X13, e13, st13⟩ := getF X11 hx hZ hown (host := "") (Or.inl (wd_44 hw)) Via.refl e11 (P16.ext o5.2) (g := (mkF m 21 #[rv x1, rv b1_0, iv 3, iv 1, rv x5] [(.ref x5)])) rfl rfl (hb hby d3_21)
  refine Rch.go st13 ?_
  show Aw p e below _ T13 m 24 #[rv x1, rv b1_0, iv 3, iv 1, rv x5] [(.ref x13)]
  refine Rch.go (fun t k => XS.aloadN X13.here hx rfl (hb hby d3_24) rfl rfl k) ?_
  show Aw p e below _ T13 m 25 #[rv x1, rv b1_0, iv 3, iv 1, rv x5] [(.ref x1), (.ref x13)]
  obtain ⟨v14, T14, L14, X14, Q14, st14⟩ := callVi X13 hx hZ (m7_equals l Z a0 hw x13 x1 y8 x14 x10 kk15 kk12 T1.heap n0 z10 o5 P18 f6 P8 P9 P19 f7 P20 f8 P21 f9) e13 hown (wd_46 hw) (wd_47 hw) (wd_49 hw) (notFace_of_selects (args := #[]) (mvT hZ (wd_49 hw))) (wd_48 hw) (wd_50 hw) (wd_2 hw) (by decide) (hb hby d3_25) 0 (by decide) (by decide) (by decide) (by decide) (by rw [hml]; rfl) x13 (P17.ext o5.2) [(.ref x1)] [] rfl (lenOf pd_2 rfl) rfl (Nat.le_of_eq rfl) (Ls := #[rv x1, rv b1_0, iv 3, iv 1, rv x5])
  obtain ⟨rfl, M14, e14⟩ := Q14
  have N14 := Fr.app N11 M14
  refine Rch.go st14 ?_
  show Aw p e below _ T14 m 28 #[rv x1, rv b1_0, iv 3, iv 1, rv x5] [(.int 0)]
  refine Rch.go (fun t k => XS.ifYes X14.here hx rfl (pc0 := 28) (pc' := 34) rfl (hb hby d3_28) rfl (by decide) (by decide) (by decide) (XS.iinc X14.here hx rfl (hb hby d3_34) rfl (l' := #[rv x1, rv b1_0, iv 3, iv 2, rv x5]) rfl (XS.goto X14.here hx rfl (pc0 := 37) (pc' := 9) rfl (hb hby d3_37) (by decide) (by decide) (XS.iloadN X14.here hx rfl (hb hby d3_9) rfl  (XS.iloadN X14.here hx rfl (hb hby d3_10) rfl  (XS.icmpNo X14.here hx rfl (hb hby d3_11) rfl (by decide) (XS.aloadN X14.here hx rfl (hb hby d3_14) rfl rfl (XS.iloadN X14.here hx rfl (hb hby d3_15) rfl  k)))))))) ?_
  show Aw p e below _ T14 m 16 #[rv x1, rv b1_0, iv 3, iv 2, rv x5] [(.int 2), (.ref b1_0)]
  obtain ⟨c15, r15, q15, s15, u15, H15, G15⟩ := id F1_1
  refine Rch.go (fun t k => X14.aaload hx (j := (2 : Int32)) (v := (.ref x6)) (by rw [e14]; exact r15.1) (State.isArrayOf_alike hZ.alike r15.2.1) rfl r15.2.2 (inb_of s15 (by decide)) (H15.at (inb_of s15 (by decide)) rfl) (g := (mkF m 16 #[rv x1, rv b1_0, iv 3, iv 2, rv x5] [(.int 2), (.ref b1_0)])) rfl rfl (hb hby d3_16) t k) ?_
  show Aw p e below _ T14 m 17 #[rv x1, rv b1_0, iv 3, iv 2, rv x5] [(.ref x6)]
  refine Rch.go (fun t k => XS.astore X14.here hx rfl (hb hby d3_17) rfl rfl (l' := #[rv x1, rv b1_0, iv 3, iv 2, rv x6]) rfl (XS.aload X14.here hx rfl (hb hby d3_19) rfl rfl k)) ?_
  show Aw p e below _ T14 m 21 #[rv x1, rv b1_0, iv 3, iv 2, rv x6] [(.ref x6)]
  obtain ⟨T16, X16, e16, st16⟩ := getF X14 hx hZ hown (host := "") (Or.inl (wd_44 hw)) Via.refl e14 (P22.ext o5.2) (g := (mkF m 21 #[rv x1, rv b1_0, iv 3, iv 2, rv x6] [(.ref x6)])) rfl rfl (hb hby d3_21)
  refine Rch.go st16 ?_
  show Aw p e below _ T16 m 24 #[rv x1, rv b1_0, iv 3, iv 2, rv x6] [(.ref x16)]
  refine Rch.go (fun t k => XS.aloadN X16.here hx rfl (hb hby d3_24) rfl rfl k) ?_
  show Aw p e below _ T16 m 25 #[rv x1, rv b1_0, iv 3, iv 2, rv x6] [(.ref x1), (.ref x16)]
  obtain ⟨v17, T17, L17, X17, Q17, st17⟩ := callVi X16 hx hZ (m9_equals l Z a0 hw x16 x1 y8 x17 x10 kk18 kk12 T1.heap n0 z10 o5 P24 f6 P8 P9 P25 f7 P26 f8 P27 f9) e16 hown (wd_46 hw) (wd_47 hw) (wd_49 hw) (notFace_of_selects (args := #[]) (mvT hZ (wd_49 hw))) (wd_48 hw) (wd_50 hw) (wd_2 hw) (by decide) (hb hby d3_25) 0 (by decide) (by decide) (by decide) (by decide) (by rw [hml]; rfl) x16 (P23.ext o5.2) [(.ref x1)] [] rfl (lenOf pd_2 rfl) rfl (Nat.le_of_eq rfl) (Ls := #[rv x1, rv b1_0, iv 3, iv 2, rv x6])
  obtain ⟨rfl, M17, e17⟩ := Q17
  have N17 := Fr.app N14 M17
  refine Rch.go st17 ?_
  show Aw p e below _ T17 m 28 #[rv x1, rv b1_0, iv 3, iv 2, rv x6] [(.int 0)]
  refine Rch.go (fun t k => XS.ifYes X17.here hx rfl (pc0 := 28) (pc' := 34) rfl (hb hby d3_28) rfl (by decide) (by decide) (by decide) (XS.iinc X17.here hx rfl (hb hby d3_34) rfl (l' := #[rv x1, rv b1_0, iv 3, iv 3, rv x6]) rfl (XS.goto X17.here hx rfl (pc0 := 37) (pc' := 9) rfl (hb hby d3_37) (by decide) (by decide) (XS.iloadN X17.here hx rfl (hb hby d3_9) rfl  (XS.iloadN X17.here hx rfl (hb hby d3_10) rfl  (XS.icmpYes X17.here hx rfl (pc0 := 11) (pc' := 40) rfl (hb hby d3_11) rfl (by decide) (by decide) (by decide) (XS.aconstNull X17.here hx rfl (hb hby d3_40) k))))))) ?_
  show Aw p e below _ T17 m 41 #[rv x1, rv b1_0, iv 3, iv 3, rv x6] [.null]
  refine Rch.val X17 hx (t := (.object s1')) hret hlk rfl (Or.inr (Or.inr (Or.inr (Or.inr ⟨rfl, rfl, rfl⟩)))) (hb hby d3_41) (by decide) (by decide) ?_
  try rw [e17]
  exact ⟨rfl, N17, ((Keep.refl _ _).trans K1 all0)⟩
theorem wd_57 {Z a0} (hw : HW Z a0) : (Cond.methodLink s7' (24 : Nat) ⟨"java/lang/String", "length", "()I"⟩).before a0 Z = true := hw.at 57 rfl
theorem d7_0 : decode jdk_42_method_54_code 0 = .ok (.aload_n 0, 1) := by decide +kernel
theorem d7_1 : decode jdk_42_method_54_code 1 = .ok (.getfield 9, 3) := by decide +kernel
theorem d7_4 : decode jdk_42_method_54_code 4 = .ok (.arraylength, 1) := by decide +kernel
theorem d7_5 : decode jdk_42_method_54_code 5 = .ok (.aload_n 0, 1) := by decide +kernel
theorem d7_6 : decode jdk_42_method_54_code 6 = .ok (.invokevirtual 335, 3) := by decide +kernel
theorem wd_62 {Z a0} (hw : HW Z a0) : (Cond.methodLink "java/lang/String" (335 : Nat) ⟨"java/lang/String", "coder", "()B"⟩).before a0 Z = true := hw.at 62 rfl
theorem d8_0 : decode jdk_42_method_152_code 0 = .ok (.getstatic 38, 3) := by decide +kernel
theorem d8_3 : decode jdk_42_method_152_code 3 = .ok (.ifCond .eq 10, 3) := by decide +kernel
theorem d8_6 : decode jdk_42_method_152_code 6 = .ok (.aload_n 0, 1) := by decide +kernel
theorem d8_7 : decode jdk_42_method_152_code 7 = .ok (.getfield 15, 3) := by decide +kernel
theorem d8_10 : decode jdk_42_method_152_code 10 = .ok (.goto 4, 3) := by decide +kernel
theorem d8_14 : decode jdk_42_method_152_code 14 = .ok (.ireturn, 1) := by decide +kernel
theorem ef_m12_coder (m : MethodId) (x1 : Addr) : entryFrame m #[(.ref x1)] 1 = mkF m 0 #[rv x1] [] := by first | rfl | (simp [entryFrame, mkF, argsToLocals, Value.category]; done)
theorem m12_coder (l : Launch) (Z : State) (a0 : Array Value) (hw : HW Z a0) (x1 : Addr) (y2 : Int32) (h0 : Heap) (n0 : Nat) (Z0 : n0 ≤ h0.size) (O0 : Old Z n0 h0) (P1 : Sta Z Z.heap "java/lang/String" "COMPACT_STRINGS" "Z" (.int y2)) (P2 : ¬ (y2 = (0 : Int32))) (P3 : Fld Z h0 x1 "java/lang/String" "coder" "B" (.int 0)) :
    Ctr l Z [] (⟨"java/lang/String", "coder", "()B"⟩ : MethodName) jdk_42_method_152_code 1 (some .byte) #[(.ref x1)] h0 ({ frames := 0, cells := 0, slots := 0, locals := 0 } : Room) (fun v h L => v = some (.int 0) ∧ Fr n0 L ∧ h = h0) := by
  refine Ctr.of (plainFor_of_name pn_java_lang_String) (fun m => ef_m12_coder m x1) ?_
  intro p e s m below meth c T0 hx hZ hby hml hown hnm hret hlk X0 e0
  have N0 := Fr.nil n0
  show Aw p e below _ T0 m 0 #[rv x1] []
  obtain ⟨T1, X1, e1, st1⟩ := getS2 X0 hx hZ hown (host := "") (Or.inl (wd_52 hw)) Via.refl e0 (P1.ext O0.2) (g := (mkF m 0 #[rv x1] [])) rfl (hb hby d8_0)
  refine Rch.go st1 ?_
  show Aw p e below _ T1 m 3 #[rv x1] [(.int y2)]
  refine Rch.go (fun t k => XS.ifNo X1.here hx rfl (hb hby d8_3) rfl (XT.i0_eq_f P2) (XS.aloadN X1.here hx rfl (hb hby d8_6) rfl rfl k)) ?_
  show Aw p e below _ T1 m 7 #[rv x1] [(.ref x1)]
  obtain ⟨T2, X2, e2, st2⟩ := getF X1 hx hZ hown (host := "") (Or.inl (wd_21 hw)) Via.refl e1 P3 (g := (mkF m 7 #[rv x1] [(.ref x1)])) rfl rfl (hb hby d8_7)
  refine Rch.go st2 ?_
  show Aw p e below _ T2 m 10 #[rv x1] [(.int 0)]
  refine Rch.go (fun t k => XS.goto X2.here hx rfl (pc0 := 10) (pc' := 14) rfl (hb hby d8_10) (by decide) (by decide) k) ?_
  show Aw p e below _ T2 m 14 #[rv x1] [(.int 0)]
  refine Rch.val X2 hx (t := .byte) hret hlk rfl (mayI (by simp)) (hb hby d8_14) (by decide) (by decide) ?_
  try rw [e2]
  exact ⟨rfl, N0, rfl⟩
theorem wd_66 {Z a0} (hw : HW Z a0) : (Cond.code ⟨"java/lang/String", "coder", "()B"⟩ jdk_42_method_152_code (1 : Nat) (Option.some FieldType.byte)).before a0 Z = true := hw.at 66 rfl
theorem pd_6 : parseMethodDescriptor "()B" = some ⟨[], some .byte⟩ := by decide +kernel
theorem wd_65 {Z a0} (hw : HW Z a0) : (Cond.selects "java/lang/String" ⟨"java/lang/String", "coder", "()B"⟩ ⟨"java/lang/String", "coder", "()B"⟩).before a0 Z = true := hw.at 65 rfl
theorem wd_63 {Z a0} (hw : HW Z a0) : (Cond.declares ⟨"java/lang/String", "coder", "()B"⟩).before a0 Z = true := hw.at 63 rfl
theorem wd_64 {Z a0} (hw : HW Z a0) : (Cond.instanceMethod ⟨"java/lang/String", "coder", "()B"⟩).before a0 Z = true := hw.at 64 rfl
theorem d7_9 : decode jdk_42_method_54_code 9 = .ok (.ishr, 1) := by decide +kernel
theorem d7_10 : decode jdk_42_method_54_code 10 = .ok (.ireturn, 1) := by decide +kernel
theorem ef_m11_length (m : MethodId) (x1 : Addr) : entryFrame m #[(.ref x1)] 1 = mkF m 0 #[rv x1] [] := by first | rfl | (simp [entryFrame, mkF, argsToLocals, Value.category]; done)
theorem m11_length (l : Launch) (Z : State) (a0 : Array Value) (hw : HW Z a0) (x1 x2 : Addr) (kk3 : ClassId) (y4 : Int32) (h0 : Heap) (n0 : Nat) (Z0 : n0 ≤ h0.size) (O0 : Old Z n0 h0) (P1 : Fld Z h0 x1 "java/lang/String" "value" "[B" (.ref x2)) (P2 : Arv Z h0 x2 kk3 .byte (0 : Int32) [] (.int 0)) (P3 : Exa Z h0 x1 "java/lang/String") (P4 : Sta Z Z.heap "java/lang/String" "COMPACT_STRINGS" "Z" (.int y4)) (P5 : ¬ (y4 = (0 : Int32))) (P6 : Fld Z h0 x1 "java/lang/String" "coder" "B" (.int 0)) :
    Ctr l Z [] (⟨"java/lang/String", "length", "()I"⟩ : MethodName) jdk_42_method_54_code 1 (some .int) #[(.ref x1)] h0 ({ frames := 1, cells := 0, slots := 0, locals := 13 } : Room) (fun v h L => v = some (.int 0) ∧ Fr n0 L ∧ h = h0) := by
  refine Ctr.of (plainFor_of_name pn_java_lang_String) (fun m => ef_m11_length m x1) ?_
  intro p e s m below meth c T0 hx hZ hby hml hown hnm hret hlk X0 e0
  have N0 := Fr.nil n0
  show Aw p e below _ T0 m 0 #[rv x1] []
  refine Rch.go (fun t k => XS.aloadN X0.here hx rfl (hb hby d7_0) rfl rfl k) ?_
  show Aw p e below _ T0 m 1 #[rv x1] [(.ref x1)]
  obtain ⟨T1, X1, e1, st1⟩ := getF X0 hx hZ hown (host := "") (Or.inl (wd_20 hw)) Via.refl e0 P1 (g := (mkF m 1 #[rv x1] [(.ref x1)])) rfl rfl (hb hby d7_1)
  refine Rch.go st1 ?_
  show Aw p e below _ T1 m 4 #[rv x1] [(.ref x2)]
  obtain ⟨c2, r2, q2, s2, u2, H2, G2⟩ := id P2
  refine Rch.go (fun t k => X1.arraylength hx (by rw [e1]; exact r2.1) (State.isArrayOf_alike hZ.alike r2.2.1) (g := (mkF m 4 #[rv x1] [(.ref x2)])) rfl rfl (hb hby d7_4) t (by rw [len_of s2 u2]; exact k)) ?_
  show Aw p e below _ T1 m 5 #[rv x1] [(.int 0)]
  refine Rch.go (fun t k => XS.aloadN X1.here hx rfl (hb hby d7_5) rfl rfl k) ?_
  show Aw p e below _ T1 m 6 #[rv x1] [(.ref x1), (.int 0)]
  obtain ⟨v3, T3, L3, X3, Q3, st3⟩ := callVi X1 hx hZ (m12_coder l Z a0 hw x1 y4 h0 n0 Z0 O0 P4 P5 P6) e1 hown (wd_62 hw) (wd_63 hw) (wd_65 hw) (notFace_of_selects (args := #[]) (mvT hZ (wd_65 hw))) (wd_64 hw) (wd_66 hw) (wd_2 hw) (by decide) (hb hby d7_6) 1 (by decide) (by decide) (by decide) (by decide) (by rw [hml]; rfl) x1 P3 [] [(.int 0)] rfl (lenOf pd_6 rfl) rfl (Nat.le_of_eq rfl) (Ls := #[rv x1])
  obtain ⟨rfl, M3, e3⟩ := Q3
  have N3 := Fr.app N0 M3
  refine Rch.go st3 ?_
  show Aw p e below _ T3 m 9 #[rv x1] [(.int 0), (.int 0)]
  refine Rch.go (fun t k => XS.ishr X3.here hx rfl (hb hby d7_9) rfl k) ?_
  show Aw p e below _ T3 m 10 #[rv x1] [(.int 0)]
  refine Rch.val X3 hx (t := .int) hret hlk rfl (mayI (by simp)) (hb hby d7_10) (by decide) (by decide) ?_
  try rw [e3]
  exact ⟨rfl, N3, rfl⟩
theorem wd_61 {Z a0} (hw : HW Z a0) : (Cond.code ⟨"java/lang/String", "length", "()I"⟩ jdk_42_method_54_code (1 : Nat) (Option.some FieldType.int)).before a0 Z = true := hw.at 61 rfl
theorem pd_7 : parseMethodDescriptor "()I" = some ⟨[], some .int⟩ := by decide +kernel
theorem wd_60 {Z a0} (hw : HW Z a0) : (Cond.selects "java/lang/String" ⟨"java/lang/String", "length", "()I"⟩ ⟨"java/lang/String", "length", "()I"⟩).before a0 Z = true := hw.at 60 rfl
theorem wd_58 {Z a0} (hw : HW Z a0) : (Cond.declares ⟨"java/lang/String", "length", "()I"⟩).before a0 Z = true := hw.at 58 rfl
theorem wd_59 {Z a0} (hw : HW Z a0) : (Cond.instanceMethod ⟨"java/lang/String", "length", "()I"⟩).before a0 Z = true := hw.at 59 rfl
theorem wd_67 {Z a0} (hw : HW Z a0) : (Cond.methodLink s7' (12 : Nat) ⟨s7', "pick", "(I)C"⟩).before a0 Z = true := hw.at 67 rfl
theorem wd_70 {Z a0} (hw : HW Z a0) : (Cond.code ⟨s7', "pick", "(I)C"⟩ method_2_code (2 : Nat) (Option.some FieldType.char)).before a0 Z = true := hw.at 70 rfl
theorem wd_69 {Z a0} (hw : HW Z a0) : (Cond.initialized s7').before a0 Z = true := hw.at 69 rfl
theorem pd_8 : parseMethodDescriptor "(I)C" = some ⟨[.int], some .char⟩ := by decide +kernel
theorem wd_68 {Z a0} (hw : HW Z a0) : (Cond.static ⟨s7', "pick", "(I)C"⟩).before a0 Z = true := hw.at 68 rfl
theorem d0_27 : decode jdk_42_method_149_code 27 = .ok (.getstatic 38, 3) := by decide +kernel
theorem d0_30 : decode jdk_42_method_149_code 30 = .ok (.ifCond .eq 28, 3) := by decide +kernel
theorem d0_33 : decode jdk_42_method_149_code 33 = .ok (.aload_n 1, 1) := by decide +kernel
theorem d0_34 : decode jdk_42_method_149_code 34 = .ok (.iload_n 2, 1) := by decide +kernel
theorem d0_35 : decode jdk_42_method_149_code 35 = .ok (.iload_n 3, 1) := by decide +kernel
theorem d0_36 : decode jdk_42_method_149_code 36 = .ok (.invokestatic 177, 3) := by decide +kernel
theorem wd_71 {Z a0} (hw : HW Z a0) : (Cond.methodLink "java/lang/String" (177 : Nat) ⟨s4', "compress", "([CII)[B"⟩).before a0 Z = true := hw.at 71 rfl
theorem d9_0 : decode jdk_52_method_16_code 0 = .ok (.iload_n 2, 1) := by decide +kernel
theorem d9_1 : decode jdk_52_method_16_code 1 = .ok (.newarray .byte, 2) := by decide +kernel
theorem wd_15 {Z a0} (hw : HW Z a0) : (Cond.arrayClass FieldType.byte).before a0 Z = true := hw.at 15 rfl
theorem d9_3 : decode jdk_52_method_16_code 3 = .ok (.astore_n 3, 1) := by decide +kernel
theorem d9_4 : decode jdk_52_method_16_code 4 = .ok (.aload_n 0, 1) := by decide +kernel
theorem d9_5 : decode jdk_52_method_16_code 5 = .ok (.iload_n 1, 1) := by decide +kernel
theorem d9_6 : decode jdk_52_method_16_code 6 = .ok (.aload_n 3, 1) := by decide +kernel
theorem d9_7 : decode jdk_52_method_16_code 7 = .ok (.iconst 0, 1) := by decide +kernel
theorem d9_8 : decode jdk_52_method_16_code 8 = .ok (.iload_n 2, 1) := by decide +kernel
theorem d9_9 : decode jdk_52_method_16_code 9 = .ok (.invokestatic 115, 3) := by decide +kernel
theorem wd_75 {Z a0} (hw : HW Z a0) : (Cond.methodLink s4' (115 : Nat) ⟨s4', "compress", "([CI[BII)I"⟩).before a0 Z = true := hw.at 75 rfl
theorem d10_0 : decode jdk_52_method_21_code 0 = .ok (.iconst 0, 1) := by decide +kernel
theorem d10_1 : decode jdk_52_method_21_code 1 = .ok (.istore 5, 2) := by decide +kernel
theorem d10_3 : decode jdk_52_method_21_code 3 = .ok (.iload 5, 2) := by decide +kernel
theorem d10_5 : decode jdk_52_method_21_code 5 = .ok (.iload 4, 2) := by decide +kernel
theorem d10_7 : decode jdk_52_method_21_code 7 = .ok (.if_icmp .ge 37, 3) := by decide +kernel
theorem d10_10 : decode jdk_52_method_21_code 10 = .ok (.aload_n 0, 1) := by decide +kernel
theorem d10_11 : decode jdk_52_method_21_code 11 = .ok (.iload_n 1, 1) := by decide +kernel
theorem d10_12 : decode jdk_52_method_21_code 12 = .ok (.caload, 1) := by decide +kernel
theorem d10_13 : decode jdk_52_method_21_code 13 = .ok (.istore 6, 2) := by decide +kernel
theorem d10_15 : decode jdk_52_method_21_code 15 = .ok (.iload 6, 2) := by decide +kernel
theorem d10_17 : decode jdk_52_method_21_code 17 = .ok (.sipush 255, 3) := by decide +kernel
theorem d10_20 : decode jdk_52_method_21_code 20 = .ok (.if_icmp .le 6, 3) := by decide +kernel
theorem d10_26 : decode jdk_52_method_21_code 26 = .ok (.aload_n 2, 1) := by decide +kernel
theorem d10_27 : decode jdk_52_method_21_code 27 = .ok (.iload_n 3, 1) := by decide +kernel
theorem d10_28 : decode jdk_52_method_21_code 28 = .ok (.iload 6, 2) := by decide +kernel
theorem d10_30 : decode jdk_52_method_21_code 30 = .ok (.i2b, 1) := by decide +kernel
theorem d10_31 : decode jdk_52_method_21_code 31 = .ok (.bastore, 1) := by decide +kernel
theorem d10_32 : decode jdk_52_method_21_code 32 = .ok (.iinc 1 1, 3) := by decide +kernel
theorem d10_35 : decode jdk_52_method_21_code 35 = .ok (.iinc 3 1, 3) := by decide +kernel
theorem d10_38 : decode jdk_52_method_21_code 38 = .ok (.iinc 5 1, 3) := by decide +kernel
theorem d10_41 : decode jdk_52_method_21_code 41 = .ok (.goto (-38), 3) := by decide +kernel
theorem d10_44 : decode jdk_52_method_21_code 44 = .ok (.iload 4, 2) := by decide +kernel
theorem d10_46 : decode jdk_52_method_21_code 46 = .ok (.ireturn, 1) := by decide +kernel
theorem pn_java_lang_StringUTF16 : plainName s4' = true := by first | (simp [plainName, overriddenIn]; done) | decide +kernel
theorem ef_m16_compress (m : MethodId) (x1 x2 : Addr) : entryFrame m #[(.ref x1), (.int 0), (.ref x2), (.int 0), (.int 1)] 7 = mkF m 0 #[rv x1, iv 0, rv x2, iv 0, iv 1, uu, uu] [] := by first | rfl | (simp [entryFrame, mkF, argsToLocals, Value.category]; done)
theorem m16_compress (l : Launch) (Z : State) (a0 : Array Value) (hw : HW Z a0) (x1 x2 : Addr) (kk3 kk4 : ClassId) (h0 : Heap) (n0 : Nat) (Z0 : n0 ≤ h0.size) (O0 : Old Z n0 h0) (P1 : Arv Z h0 x1 kk3 .char (1 : Int32) [(.int 69)] (.int 0)) (P2 : Arv Z h0 x2 kk4 .byte (1 : Int32) [(.int 0)] (.int 0)) (P3 : n0 ≤ x2) :
    Ctr l Z [] (⟨s4', "compress", "([CI[BII)I"⟩ : MethodName) jdk_52_method_21_code 7 (some .int) #[(.ref x1), (.int 0), (.ref x2), (.int 0), (.int 1)] h0 ({ frames := 0, cells := 0, slots := 0, locals := 0 } : Room) (fun v h L => v = some (.int 1) ∧ Fr n0 L ∧ Keep h0 h [x2] ∧ Arv Z h x2 kk4 .byte (1 : Int32) [(.int 69)] (.int 0)) := by
  refine Ctr.of (plainFor_of_name pn_java_lang_StringUTF16) (fun m => ef_m16_compress m x1 x2) ?_
  intro p e s m below meth c T0 hx hZ hby hml hown hnm hret hlk X0 e0
  have N0 := Fr.nil n0
  show Aw p e below _ T0 m 0 #[rv x1, iv 0, rv x2, iv 0, iv 1, uu, uu] []
  refine Rch.go (fun t k => XS.iconst X0.here hx rfl (hb hby d10_0) (XS.istore X0.here hx rfl (hb hby d10_1) rfl  (l' := #[rv x1, iv 0, rv x2, iv 0, iv 1, iv 0, uu]) rfl (XS.iload X0.here hx rfl (hb hby d10_3) rfl  (XS.iload X0.here hx rfl (hb hby d10_5) rfl  (XS.icmpNo X0.here hx rfl (hb hby d10_7) rfl (by decide) (XS.aloadN X0.here hx rfl (hb hby d10_10) rfl rfl (XS.iloadN X0.here hx rfl (hb hby d10_11) rfl  k))))))) ?_
  show Aw p e below _ T0 m 12 #[rv x1, iv 0, rv x2, iv 0, iv 1, iv 0, uu] [(.int 0), (.ref x1)]
  obtain ⟨c1, r1, q1, s1, u1, H1, G1⟩ := id P1
  refine Rch.go (fun t k => X0.caload hx (j := (0 : Int32)) (v := (.int 69)) (by rw [e0]; exact r1.1) (State.isArrayOf_alike hZ.alike r1.2.1) r1.2.2 (inb_of s1 (by decide)) (H1.at (inb_of s1 (by decide)) rfl) (g := (mkF m 12 #[rv x1, iv 0, rv x2, iv 0, iv 1, iv 0, uu] [(.int 0), (.ref x1)])) rfl rfl (hb hby d10_12) t k) ?_
  show Aw p e below _ T0 m 13 #[rv x1, iv 0, rv x2, iv 0, iv 1, iv 0, uu] [(.int 69)]
  refine Rch.go (fun t k => XS.istore X0.here hx rfl (hb hby d10_13) rfl  (l' := #[rv x1, iv 0, rv x2, iv 0, iv 1, iv 0, iv 69]) rfl (XS.iload X0.here hx rfl (hb hby d10_15) rfl  (XS.sipush X0.here hx rfl (hb hby d10_17) (XS.icmpYes X0.here hx rfl (pc0 := 20) (pc' := 26) rfl (hb hby d10_20) rfl (by decide) (by decide) (by decide) (XS.aloadN X0.here hx rfl (hb hby d10_26) rfl rfl (XS.iloadN X0.here hx rfl (hb hby d10_27) rfl  (XS.iload X0.here hx rfl (hb hby d10_28) rfl  (XS.i2b X0.here hx rfl (hb hby d10_30) rfl k)))))))) ?_
  show Aw p e below _ T0 m 31 #[rv x1, iv 0, rv x2, iv 0, iv 1, iv 0, iv 69] [(.int 69), (.int 0), (.ref x2)]
  obtain ⟨c2, r2, q2, s2, u2, H2, G2⟩ := id P2
  obtain ⟨T3, h3, X3, e3, W3, st3⟩ := stB X0 hx hZ e0 r2 (j := (0 : Int32)) (inb_of s2 (by decide)) (g := (mkF m 31 #[rv x1, iv 0, rv x2, iv 0, iv 1, iv 0, iv 69] [(.int 69), (.int 0), (.ref x2)])) rfl rfl (hb hby d10_31)
  refine Rch.go st3 ?_
  have V3 : Arv Z h3 x2 kk4 .byte (1 : Int32) [(.int 69)] (.int 0) := Arv.set r2 q2 s2 u2 H2 G2 (fits_nar_byte _) W3 0 rfl (Nat.le_of_ble_eq_true rfl)
  have N3 := Fr.snoc X3 N0 P3
  show Aw p e below _ T3 m 32 #[rv x1, iv 0, rv x2, iv 0, iv 1, iv 0, iv 69] []
  refine Rch.go (fun t k => XS.iinc X3.here hx rfl (hb hby d10_32) rfl (l' := #[rv x1, iv 1, rv x2, iv 0, iv 1, iv 0, iv 69]) rfl (XS.iinc X3.here hx rfl (hb hby d10_35) rfl (l' := #[rv x1, iv 1, rv x2, iv 1, iv 1, iv 0, iv 69]) rfl (XS.iinc X3.here hx rfl (hb hby d10_38) rfl (l' := #[rv x1, iv 1, rv x2, iv 1, iv 1, iv 1, iv 69]) rfl (XS.goto X3.here hx rfl (pc0 := 41) (pc' := 3) rfl (hb hby d10_41) (by decide) (by decide) (XS.iload X3.here hx rfl (hb hby d10_3) rfl  (XS.iload X3.here hx rfl (hb hby d10_5) rfl  (XS.icmpYes X3.here hx rfl (pc0 := 7) (pc' := 44) rfl (hb hby d10_7) rfl (by decide) (by decide) (by decide) (XS.iload X3.here hx rfl (hb hby d10_44) rfl  k)))))))) ?_
  show Aw p e below _ T3 m 46 #[rv x1, iv 1, rv x2, iv 1, iv 1, iv 1, iv 69] [(.int 1)]
  refine Rch.val X3 hx (t := .int) hret hlk rfl (mayI (by simp)) (hb hby d10_46) (by decide) (by decide) ?_
  try rw [e3]
  exact ⟨rfl, N3, ((Keep.refl _ _).wr W3 (Or.inl (List.mem_of_getElem? (i := 0) rfl))), V3⟩
theorem wd_77 {Z a0} (hw : HW Z a0) : (Cond.code ⟨s4', "compress", "([CI[BII)I"⟩ jdk_52_method_21_code (7 : Nat) (Option.some FieldType.int)).before a0 Z = true := hw.at 77 rfl
theorem wd_73 {Z a0} (hw : HW Z a0) : (Cond.initialized s4').before a0 Z = true := hw.at 73 rfl
theorem pd_9 : parseMethodDescriptor "([CI[BII)I" = some ⟨[(.array .char), .int, (.array .byte), .int, .int], some .int⟩ := by decide +kernel
theorem wd_76 {Z a0} (hw : HW Z a0) : (Cond.static ⟨s4', "compress", "([CI[BII)I"⟩).before a0 Z = true := hw.at 76 rfl
theorem d9_12 : decode jdk_52_method_16_code 12 = .ok (.istore 4, 2) := by decide +kernel
theorem d9_14 : decode jdk_52_method_16_code 14 = .ok (.iload 4, 2) := by decide +kernel
theorem d9_16 : decode jdk_52_method_16_code 16 = .ok (.iload_n 2, 1) := by decide +kernel
theorem d9_17 : decode jdk_52_method_16_code 17 = .ok (.if_icmp .eq 40, 3) := by decide +kernel
theorem d9_57 : decode jdk_52_method_16_code 57 = .ok (.aload_n 3, 1) := by decide +kernel
theorem d9_58 : decode jdk_52_method_16_code 58 = .ok (.areturn, 1) := by decide +kernel
theorem ef_m15_compress (m : MethodId) (x1 : Addr) : entryFrame m #[(.ref x1), (.int 0), (.int 1)] 6 = mkF m 0 #[rv x1, iv 0, iv 1, uu, uu, uu] [] := by first | rfl | (simp [entryFrame, mkF, argsToLocals, Value.category]; done)
theorem m15_compress (l : Launch) (Z : State) (a0 : Array Value) (hw : HW Z a0) (x1 : Addr) (kk2 : ClassId) (h0 : Heap) (n0 : Nat) (Z0 : n0 ≤ h0.size) (O0 : Old Z n0 h0) (P1 : Arv Z h0 x1 kk2 .char (1 : Int32) [(.int 69)] (.int 0)) :
    Ctr l Z [] (⟨s4', "compress", "([CII)[B"⟩ : MethodName) jdk_52_method_16_code 6 (some (.array .byte)) #[(.ref x1), (.int 0), (.int 1)] h0 ({ frames := 1, cells := 1, slots := 1, locals := 18 } : Room) (fun v h L => ∃ (b1 : Addr) (k1 : ClassId), v = some (.ref b1) ∧ Fr n0 L ∧ Keep h0 h [] ∧ h0.size ≤ b1 ∧ Exa Z h b1 "[B" ∧ Arv Z h b1 k1 .byte (1 : Int32) [(.int 69)] (.int 0)) := by
  refine Ctr.of (plainFor_of_name pn_java_lang_StringUTF16) (fun m => ef_m15_compress m x1) ?_
  intro p e s m below meth c T0 hx hZ hby hml hown hnm hret hlk X0 e0
  have N0 := Fr.nil n0
  show Aw p e below _ T0 m 0 #[rv x1, iv 0, iv 1, uu, uu, uu] []
  refine Rch.go (fun t k => XS.iloadN X0.here hx rfl (hb hby d9_0) rfl  k) ?_
  show Aw p e below _ T0 m 1 #[rv x1, iv 0, iv 1, uu, uu, uu] [(.int 1)]
  obtain ⟨T1, h1, k1, X1, e1, E1, A1, B1, st1⟩ := newPE (aty := .byte) X0 hx hZ (wd_15 hw) e0 (g := (mkF m 1 #[rv x1, iv 0, iv 1, uu, uu, uu] [(.int 1)])) rfl (hb hby d9_1) rfl (by decide) (cap := 1) (by decide) (by decide) (by decide) (by decide) (ad := "[B") (by decide +kernel)
  obtain ⟨b1, g1⟩ : ∃ z, z = h0.size := ⟨_, rfl⟩
  rw [← g1] at A1 B1 st1
  refine Rch.go st1 ?_
  have g_b1 : n0 ≤ b1 := Nat.le_trans Z0 (Nat.le_of_eq g1.symm)
  have V1 : Arv Z h1 b1 k1 .byte (1 : Int32) [(.int 0)] (.int 0) := (Arv.new A1 (by decide)).pad (pad_rep [] (.int 0) 1)
  show Aw p e below _ T1 m 3 #[rv x1, iv 0, iv 1, uu, uu, uu] [(.ref b1)]
  refine Rch.go (fun t k => XS.astoreN X1.here hx rfl (hb hby d9_3) rfl rfl (l' := #[rv x1, iv 0, iv 1, rv b1, uu, uu]) rfl (XS.aloadN X1.here hx rfl (hb hby d9_4) rfl rfl (XS.iloadN X1.here hx rfl (hb hby d9_5) rfl  (XS.aloadN X1.here hx rfl (hb hby d9_6) rfl rfl (XS.iconst X1.here hx rfl (hb hby d9_7) (XS.iloadN X1.here hx rfl (hb hby d9_8) rfl  k)))))) ?_
  show Aw p e below _ T1 m 9 #[rv x1, iv 0, iv 1, rv b1, uu, uu] [(.int 1), (.int 0), (.ref b1), (.int 0), (.ref x1)]
  have f2 := (P1.ext E1)
  have z3 := (Nat.le_trans Z0 E1.1)
  have o4 := (O0.ext E1)
  obtain ⟨v5, T5, L5, X5, Q5, st5⟩ := callSt X1 hx hZ (m16_compress l Z a0 hw x1 b1 kk2 k1 h1 n0 z3 o4 f2 V1 g_b1) e1 hown (wd_75 hw) (wd_76 hw) (wd_77 hw) (wd_73 hw) (by decide) (hb hby d9_9) 0 (by decide) (by decide) (by decide) (by decide) (by rw [hml]; rfl) [(.ref x1), (.int 0), (.ref b1), (.int 0), (.int 1)] [] rfl (lenOf pd_9 rfl) rfl (Nat.le_of_eq rfl) (Ls := #[rv x1, iv 0, iv 1, rv b1, uu, uu])
  obtain ⟨rfl, M5, K5, F5_0⟩ := Q5
  have N5 := Fr.app N0 M5
  refine Rch.go st5 ?_
  show Aw p e below _ T5 m 12 #[rv x1, iv 0, iv 1, rv b1, uu, uu] [(.int 1)]
  refine Rch.go (fun t k => XS.istore X5.here hx rfl (hb hby d9_12) rfl  (l' := #[rv x1, iv 0, iv 1, rv b1, iv 1, uu]) rfl (XS.iload X5.here hx rfl (hb hby d9_14) rfl  (XS.iloadN X5.here hx rfl (hb hby d9_16) rfl  (XS.icmpYes X5.here hx rfl (pc0 := 17) (pc' := 57) rfl (hb hby d9_17) rfl (by decide) (by decide) (by decide) (XS.aloadN X5.here hx rfl (hb hby d9_57) rfl rfl k))))) ?_
  show Aw p e below _ T5 m 58 #[rv x1, iv 0, iv 1, rv b1, iv 1, uu] [(.ref b1)]
  have f6 := (B1.keep K5)
  refine Rch.val X5 hx (t := (.array .byte)) hret hlk rfl (Or.inr (Or.inr (Or.inr (Or.inr ⟨rfl, rfl, rfl⟩)))) (hb hby d9_58) (by decide) (by decide) ?_
  exact ⟨b1, k1, rfl, N5, (((Keep.refl _ _).ext E1).trans K5 (allS (Or.inr (Nat.le_trans (Nat.le_refl _) (Nat.le_of_eq g1.symm))) all0)), (Nat.le_trans (Nat.le_refl _) (Nat.le_of_eq g1.symm)), f6, F5_0⟩
theorem wd_74 {Z a0} (hw : HW Z a0) : (Cond.code ⟨s4', "compress", "([CII)[B"⟩ jdk_52_method_16_code (6 : Nat) (Option.some (FieldType.array FieldType.byte))).before a0 Z = true := hw.at 74 rfl
theorem pd_10 : parseMethodDescriptor "([CII)[B" = some ⟨[(.array .char), .int, .int], some (.array .byte)⟩ := by decide +kernel
theorem wd_72 {Z a0} (hw : HW Z a0) : (Cond.static ⟨s4', "compress", "([CII)[B"⟩).before a0 Z = true := hw.at 72 rfl
theorem d0_39 : decode jdk_42_method_149_code 39 = .ok (.astore 5, 2) := by decide +kernel
theorem d0_41 : decode jdk_42_method_149_code 41 = .ok (.aload_n 0, 1) := by decide +kernel
theorem d0_42 : decode jdk_42_method_149_code 42 = .ok (.aload 5, 2) := by decide +kernel
theorem d0_44 : decode jdk_42_method_149_code 44 = .ok (.iload_n 3, 1) := by decide +kernel
theorem d0_45 : decode jdk_42_method_149_code 45 = .ok (.invokestatic 47, 3) := by decide +kernel
theorem wd_78 {Z a0} (hw : HW Z a0) : (Cond.methodLink "java/lang/String" (47 : Nat) ⟨s4', "coderFromArrayLen", "([BI)B"⟩).before a0 Z = true := hw.at 78 rfl
theorem d11_0 : decode jdk_52_method_15_code 0 = .ok (.iload_n 1, 1) := by decide +kernel
theorem d11_1 : decode jdk_52_method_15_code 1 = .ok (.aload_n 0, 1) := by decide +kernel
theorem d11_2 : decode jdk_52_method_15_code 2 = .ok (.arraylength, 1) := by decide +kernel
theorem d11_3 : decode jdk_52_method_15_code 3 = .ok (.isub, 1) := by decide +kernel
theorem d11_4 : decode jdk_52_method_15_code 4 = .ok (.bipush 31, 2) := by decide +kernel
theorem d11_6 : decode jdk_52_method_15_code 6 = .ok (.iushr, 1) := by decide +kernel
theorem d11_7 : decode jdk_52_method_15_code 7 = .ok (.i2b, 1) := by decide +kernel
theorem d11_8 : decode jdk_52_method_15_code 8 = .ok (.ireturn, 1) := by decide +kernel
theorem ef_m17_coderFromArrayLen (m : MethodId) (x1 : Addr) : entryFrame m #[(.ref x1), (.int 1)] 2 = mkF m 0 #[rv x1, iv 1] [] := by first | rfl | (simp [entryFrame, mkF, argsToLocals, Value.category]; done)
theorem m17_coderFromArrayLen (l : Launch) (Z : State) (a0 : Array Value) (hw : HW Z a0) (x1 : Addr) (kk2 : ClassId) (h0 : Heap) (n0 : Nat) (Z0 : n0 ≤ h0.size) (O0 : Old Z n0 h0) (P1 : Arv Z h0 x1 kk2 .byte (1 : Int32) [(.int 69)] (.int 0)) :
    Ctr l Z [] (⟨s4', "coderFromArrayLen", "([BI)B"⟩ : MethodName) jdk_52_method_15_code 2 (some .byte) #[(.ref x1), (.int 1)] h0 ({ frames := 0, cells := 0, slots := 0, locals := 0 } : Room) (fun v h L => v = some (.int 0) ∧ Fr n0 L ∧ h = h0) := by
  refine Ctr.of (plainFor_of_name pn_java_lang_StringUTF16) (fun m => ef_m17_coderFromArrayLen m x1) ?_
  intro p e s m below meth c T0 hx hZ hby hml hown hnm hret hlk X0 e0
  have N0 := Fr.nil n0
  show Aw p e below _ T0 m 0 #[rv x1, iv 1] []
  refine Rch.go (fun t k => XS.iloadN X0.here hx rfl (hb hby d11_0) rfl  (XS.aloadN X0.here hx rfl (hb hby d11_1) rfl rfl k)) ?_
  show Aw p e below _ T0 m 2 #[rv x1, iv 1] [(.ref x1), (.int 1)]
  obtain ⟨c1, r1, q1, s1, u1, H1, G1⟩ := id P1
  refine Rch.go (fun t k => X0.arraylength hx (by rw [e0]; exact r1.1) (State.isArrayOf_alike hZ.alike r1.2.1) (g := (mkF m 2 #[rv x1, iv 1] [(.ref x1), (.int 1)])) rfl rfl (hb hby d11_2) t (by rw [len_of s1 u1]; exact k)) ?_
  show Aw p e below _ T0 m 3 #[rv x1, iv 1] [(.int 1), (.int 1)]
  refine Rch.go (fun t k => XS.isub X0.here hx rfl (hb hby d11_3) rfl (XS.bipush X0.here hx rfl (hb hby d11_4) (XS.iushr X0.here hx rfl (hb hby d11_6) rfl (XS.i2b X0.here hx rfl (hb hby d11_7) rfl k)))) ?_
  show Aw p e below _ T0 m 8 #[rv x1, iv 1] [(.int 0)]
  refine Rch.val X0 hx (t := .byte) hret hlk rfl (mayI (by simp)) (hb hby d11_8) (by decide) (by decide) ?_
  try rw [e0]
  exact ⟨rfl, N0, rfl⟩
theorem wd_80 {Z a0} (hw : HW Z a0) : (Cond.code ⟨s4', "coderFromArrayLen", "([BI)B"⟩ jdk_52_method_15_code (2 : Nat) (Option.some FieldType.byte)).before a0 Z = true := hw.at 80 rfl
theorem pd_11 : parseMethodDescriptor "([BI)B" = some ⟨[(.array .byte), .int], some .byte⟩ := by decide +kernel
theorem wd_79 {Z a0} (hw : HW Z a0) : (Cond.static ⟨s4', "coderFromArrayLen", "([BI)B"⟩).before a0 Z = true := hw.at 79 rfl
theorem d0_48 : decode jdk_42_method_149_code 48 = .ok (.putfield 15, 3) := by decide +kernel
theorem d0_51 : decode jdk_42_method_149_code 51 = .ok (.aload_n 0, 1) := by decide +kernel
theorem d0_52 : decode jdk_42_method_149_code 52 = .ok (.aload 5, 2) := by decide +kernel
theorem d0_54 : decode jdk_42_method_149_code 54 = .ok (.putfield 9, 3) := by decide +kernel
theorem d0_57 : decode jdk_42_method_149_code 57 = .ok (.return_, 1) := by decide +kernel
theorem ef_m14_init (m : MethodId) (x1 x2 : Addr) : entryFrame m #[(.ref x1), (.ref x2), (.int 0), (.int 1), .null] 6 = mkF m 0 #[rv x1, rv x2, iv 0, iv 1, .val .null, uu] [] := by first | rfl | (simp [entryFrame, mkF, argsToLocals, Value.category]; done)
theorem m14_init (l : Launch) (Z : State) (a0 : Array Value) (hw : HW Z a0) (x1 x2 : Addr) (y3 : Int32) (kk4 : ClassId) (h0 : Heap) (n0 : Nat) (Z0 : n0 ≤ h0.size) (O0 : Old Z n0 h0) (P1 : Sta Z Z.heap "java/lang/String" "COMPACT_STRINGS" "Z" (.int y3)) (P2 : ¬ (y3 = (0 : Int32))) (P3 : Arv Z h0 x2 kk4 .char (1 : Int32) [(.int 69)] (.int 0)) (P4 : Exa Z h0 x1 "java/lang/String") (P5 : Fld Z h0 x1 "java/lang/String" "coder" "B" (.int 0)) (P6 : n0 ≤ x1) (P7 : Fld Z h0 x1 "java/lang/String" "value" "[B" .null) :
    Ctr l Z [] (⟨"java/lang/String", "<init>", "([CIILjava/lang/Void;)V"⟩ : MethodName) jdk_42_method_149_code 6 none #[(.ref x1), (.ref x2), (.int 0), (.int 1), .null] h0 ({ frames := 2, cells := 1, slots := 1, locals := 35 } : Room) (fun v h L => ∃ (b3_0 : Addr) (k3_0 : ClassId), v = none ∧ Fr n0 L ∧ Keep h0 h [x1] ∧ h0.size ≤ b3_0 ∧ Exa Z h b3_0 "[B" ∧ Arv Z h b3_0 k3_0 .byte (1 : Int32) [(.int 69)] (.int 0) ∧ Fld Z h x1 "java/lang/String" "coder" "B" (.int 0) ∧ Fld Z h x1 "java/lang/String" "value" "[B" (.ref b3_0)) := by
  refine Ctr.of (plainFor_of_name pn_java_lang_String) (fun m => ef_m14_init m x1 x2) ?_
  intro p e s m below meth c T0 hx hZ hby hml hown hnm hret hlk X0 e0
  have N0 := Fr.nil n0
  show Aw p e below _ T0 m 0 #[rv x1, rv x2, iv 0, iv 1, .val .null, uu] []
  refine Rch.go (fun t k => XS.aloadN X0.here hx rfl (hb hby d0_0) rfl rfl k) ?_
  show Aw p e below _ T0 m 1 #[rv x1, rv x2, iv 0, iv 1, .val .null, uu] [(.ref x1)]
  obtain ⟨T1, X1, e1, st1⟩ := initO X0 hx hZ hown (wd_11 hw) (wd_12 hw) (wd_13 hw) e0 (g := (mkF m 1 #[rv x1, rv x2, iv 0, iv 1, .val .null, uu] [(.ref x1)])) rfl (by rw [hml]; rfl) rfl (hb hby d0_1) (by decide) (W := 0) (by show 2 * 0 + _ ≤ _; exact Nat.le_of_eq rfl) (by decide)
  refine Rch.go st1 ?_
  show Aw p e below _ T1 m 4 #[rv x1, rv x2, iv 0, iv 1, .val .null, uu] []
  refine Rch.go (fun t k => XS.iloadN X1.here hx rfl (hb hby d0_4) rfl  (XS.ifYes X1.here hx rfl (pc0 := 5) (pc' := 27) rfl (hb hby d0_5) rfl (by decide) (by decide) (by decide) k)) ?_
  show Aw p e below _ T1 m 27 #[rv x1, rv x2, iv 0, iv 1, .val .null, uu] []
  obtain ⟨T2, X2, e2, st2⟩ := getS2 X1 hx hZ hown (host := "") (Or.inl (wd_52 hw)) Via.refl e1 (P1.ext O0.2) (g := (mkF m 27 #[rv x1, rv x2, iv 0, iv 1, .val .null, uu] [])) rfl (hb hby d0_27)
  refine Rch.go st2 ?_
  show Aw p e below _ T2 m 30 #[rv x1, rv x2, iv 0, iv 1, .val .null, uu] [(.int y3)]
  refine Rch.go (fun t k => XS.ifNo X2.here hx rfl (hb hby d0_30) rfl (XT.i0_eq_f P2) (XS.aloadN X2.here hx rfl (hb hby d0_33) rfl rfl (XS.iloadN X2.here hx rfl (hb hby d0_34) rfl  (XS.iloadN X2.here hx rfl (hb hby d0_35) rfl  k)))) ?_
  show Aw p e below _ T2 m 36 #[rv x1, rv x2, iv 0, iv 1, .val .null, uu] [(.int 1), (.int 0), (.ref x2)]
  obtain ⟨v3, T3, L3, X3, Q3, st3⟩ := callSt X2 hx hZ (m15_compress l Z a0 hw x2 kk4 h0 n0 Z0 O0 P3) e2 hown (wd_71 hw) (wd_72 hw) (wd_74 hw) (wd_73 hw) (by decide) (hb hby d0_36) 0 (by decide) (by decide) (by decide) (by decide) (by rw [hml]; rfl) [(.ref x2), (.int 0), (.int 1)] [] rfl (lenOf pd_10 rfl) rfl (Nat.le_of_eq rfl) (Ls := #[rv x1, rv x2, iv 0, iv 1, .val .null, uu])
  obtain ⟨b3_0, k3_0, rfl, M3, K3, zz3_0, F3_0, F3_1⟩ := Q3
  have N3 := Fr.app N0 M3
  refine Rch.go st3 ?_
  have g_b3_0 : n0 ≤ b3_0 := Nat.le_trans Z0 zz3_0
  show Aw p e below _ T3 m 39 #[rv x1, rv x2, iv 0, iv 1, .val .null, uu] [(.ref b3_0)]
  refine Rch.go (fun t k => XS.astore X3.here hx rfl (hb hby d0_39) rfl rfl (l' := #[rv x1, rv x2, iv 0, iv 1, .val .null, rv b3_0]) rfl (XS.aloadN X3.here hx rfl (hb hby d0_41) rfl rfl (XS.aload X3.here hx rfl (hb hby d0_42) rfl rfl (XS.iloadN X3.here hx rfl (hb hby d0_44) rfl  k)))) ?_
  show Aw p e below _ T3 m 45 #[rv x1, rv x2, iv 0, iv 1, .val .null, rv b3_0] [(.int 1), (.ref b3_0), (.ref x1)]
  have z4 := (Nat.le_trans Z0 K3.1)
  have o5 := (O0.keep K3 all0)
  obtain ⟨v6, T6, L6, X6, Q6, st6⟩ := callSt X3 hx hZ (m17_coderFromArrayLen l Z a0 hw b3_0 k3_0 T3.heap n0 z4 o5 F3_1) rfl hown (wd_78 hw) (wd_79 hw) (wd_80 hw) (wd_73 hw) (by decide) (hb hby d0_45) 1 (by decide) (by decide) (by decide) (by decide) (by rw [hml]; rfl) [(.ref b3_0), (.int 1)] [(.ref x1)] rfl (lenOf pd_11 rfl) rfl (Nat.le_of_eq rfl) (Ls := #[rv x1, rv x2, iv 0, iv 1, .val .null, rv b3_0])
  obtain ⟨rfl, M6, e6⟩ := Q6
  have N6 := Fr.app N3 M6
  refine Rch.go st6 ?_
  show Aw p e below _ T6 m 48 #[rv x1, rv x2, iv 0, iv 1, .val .null, rv b3_0] [(.int 0), (.ref x1)]
  have f8 := (P5.keep K3 nin0)
  have f9 := (P4.keep K3)
  obtain ⟨T7, h7, X7, e7, W7, st7⟩ := putFN X6 hx hZ hown (wd_21 hw) Via.refl e6 f8 f9 (Or.inr ⟨(wd_17 hw), rfl, hnm⟩) (wd_1 hw) (ty := .byte) (v' := (.int 0)) (by decide) rfl rfl (g := (mkF m 48 #[rv x1, rv x2, iv 0, iv 1, .val .null, rv b3_0] [(.int 0), (.ref x1)])) rfl rfl (hb hby d0_48)
  refine Rch.go st7 ?_
  have F7 := f8.same W7
  have N7 := Fr.snoc X7 N6 P6
  show Aw p e below _ T7 m 51 #[rv x1, rv x2, iv 0, iv 1, .val .null, rv b3_0] []
  refine Rch.go (fun t k => XS.aloadN X7.here hx rfl (hb hby d0_51) rfl rfl (XS.aload X7.here hx rfl (hb hby d0_52) rfl rfl k)) ?_
  show Aw p e below _ T7 m 54 #[rv x1, rv x2, iv 0, iv 1, .val .null, rv b3_0] [(.ref b3_0), (.ref x1)]
  have f11 := ((P7.keep K3 nin0).other W7 (Or.inr (slot_ne (Or.inr (wd_16 hw)) (Or.inr (wd_17 hw)) (by decide) (t := (.array .byte)) (t' := .byte) (by decide) (by decide))))
  have f12 := (f9.wr W7)
  obtain ⟨T10, h10, X10, e10, W10, st10⟩ := putF X7 hx hZ hown (host := "") (Or.inl (wd_20 hw)) Via.refl e7 f11 f12 (Or.inr ⟨(wd_16 hw), rfl, hnm⟩) (wd_1 hw) (ty := (.array .byte)) (by decide) rfl rfl (g := (mkF m 54 #[rv x1, rv x2, iv 0, iv 1, .val .null, rv b3_0] [(.ref b3_0), (.ref x1)])) rfl rfl (hb hby d0_54)
  refine Rch.go st10 ?_
  have F10 := f11.same W10
  have N10 := Fr.snoc X10 N7 P6
  show Aw p e below _ T10 m 57 #[rv x1, rv x2, iv 0, iv 1, .val .null, rv b3_0] []
  have f13 := ((F3_0.wr W7).wr W10)
  have lt14 := P4.lt
  have ne15 : x1 ≠ b3_0 := Nat.ne_of_lt (Nat.lt_of_lt_of_le lt14 zz3_0)
  have f16 := ((F3_1.other W7 (Ne.symm ne15)).other W10 (Ne.symm ne15))
  have f17 := (F7.other W10 (Or.inr (slot_ne (Or.inr (wd_17 hw)) (Or.inr (wd_16 hw)) (by decide) (t := .byte) (t' := (.array .byte)) (by decide) (by decide))))
  refine Rch.void X10 hx hret hlk (hb hby d0_57) (by decide) (by decide) ?_
  try rw [e10]
  exact ⟨b3_0, k3_0, rfl, N10, ((((Keep.refl _ _).trans K3 all0).wr W7 (Or.inl (List.mem_of_getElem? (i := 0) rfl))).wr W10 (Or.inl (List.mem_of_getElem? (i := 0) rfl))), (Nat.le_trans (Nat.le_refl _) zz3_0), f13, f16, f17, F10⟩
theorem ef_m13_init (m : MethodId) (x1 x2 : Addr) : entryFrame m #[(.ref x1), (.ref x2)] 2 = mkF m 0 #[rv x1, rv x2] [] := by first | rfl | (simp [entryFrame, mkF, argsToLocals, Value.category]; done)
theorem m13_init (l : Launch) (Z : State) (a0 : Array Value) (hw : HW Z a0) (x1 x2 : Addr) (kk3 : ClassId) (y4 : Int32) (h0 : Heap) (n0 : Nat) (Z0 : n0 ≤ h0.size) (O0 : Old Z n0 h0) (P1 : Arv Z h0 x2 kk3 .char (1 : Int32) [(.int 69)] (.int 0)) (P2 : Sta Z Z.heap "java/lang/String" "COMPACT_STRINGS" "Z" (.int y4)) (P3 : ¬ (y4 = (0 : Int32))) (P4 : Exa Z h0 x1 "java/lang/String") (P5 : Fld Z h0 x1 "java/lang/String" "coder" "B" (.int 0)) (P6 : n0 ≤ x1) (P7 : Fld Z h0 x1 "java/lang/String" "value" "[B" .null) :
    Ctr l Z [] (⟨"java/lang/String", "<init>", "([C)V"⟩ : MethodName) jdk_42_method_3_code 2 none #[(.ref x1), (.ref x2)] h0 ({ frames := 3, cells := 1, slots := 1, locals := 52 } : Room) (fun v h L => ∃ (b2_0 : Addr) (k2_0 : ClassId), v = none ∧ Fr n0 L ∧ Keep h0 h [x1] ∧ h0.size ≤ b2_0 ∧ Exa Z h b2_0 "[B" ∧ Arv Z h b2_0 k2_0 .byte (1 : Int32) [(.int 69)] (.int 0) ∧ Fld Z h x1 "java/lang/String" "coder" "B" (.int 0) ∧ Fld Z h x1 "java/lang/String" "value" "[B" (.ref b2_0)) := by
  refine Ctr.of (plainFor_of_name pn_java_lang_String) (fun m => ef_m13_init m x1 x2) ?_
  intro p e s m below meth c T0 hx hZ hby hml hown hnm hret hlk X0 e0
  have N0 := Fr.nil n0
  show Aw p e below _ T0 m 0 #[rv x1, rv x2] []
  refine Rch.go (fun t k => XS.aloadN X0.here hx rfl (hb hby d1_0) rfl rfl (XS.aloadN X0.here hx rfl (hb hby d1_1) rfl rfl (XS.iconst X0.here hx rfl (hb hby d1_2) (XS.aloadN X0.here hx rfl (hb hby d1_3) rfl rfl k)))) ?_
  show Aw p e below _ T0 m 4 #[rv x1, rv x2] [(.ref x2), (.int 0), (.ref x2), (.ref x1)]
  obtain ⟨c1, r1, q1, s1, u1, H1, G1⟩ := id P1
  refine Rch.go (fun t k => X0.arraylength hx (by rw [e0]; exact r1.1) (State.isArrayOf_alike hZ.alike r1.2.1) (g := (mkF m 4 #[rv x1, rv x2] [(.ref x2), (.int 0), (.ref x2), (.ref x1)])) rfl rfl (hb hby d1_4) t (by rw [len_of s1 u1]; exact k)) ?_
  show Aw p e below _ T0 m 5 #[rv x1, rv x2] [(.int 1), (.int 0), (.ref x2), (.ref x1)]
  refine Rch.go (fun t k => XS.aconstNull X0.here hx rfl (hb hby d1_5) k) ?_
  show Aw p e below _ T0 m 6 #[rv x1, rv x2] [.null, (.int 1), (.int 0), (.ref x2), (.ref x1)]
  obtain ⟨v2, T2, L2, X2, Q2, st2⟩ := callSp X0 hx hZ (m14_init l Z a0 hw x1 x2 y4 kk3 h0 n0 Z0 O0 P2 P3 P1 P4 P5 P6 P7) e0 hown rfl (wd_7 hw) (wd_8 hw) (wd_10 hw) (wd_2 hw) (by decide) (hb hby d1_6) 0 (by decide) (by decide) (by decide) (by decide) (by rw [hml]; rfl) x1 [(.ref x2), (.int 0), (.int 1), .null] [] rfl (lenOf pd_0 rfl) rfl (Nat.le_of_eq rfl) (Ls := #[rv x1, rv x2])
  obtain ⟨b2_0, k2_0, rfl, M2, K2, zz2_0, F2_0, F2_1, F2_2, F2_3⟩ := Q2
  have N2 := Fr.app N0 M2
  refine Rch.go st2 ?_
  have g_b2_0 : n0 ≤ b2_0 := Nat.le_trans Z0 zz2_0
  show Aw p e below _ T2 m 9 #[rv x1, rv x2] []
  refine Rch.void X2 hx hret hlk (hb hby d1_9) (by decide) (by decide) ?_
  exact ⟨b2_0, k2_0, rfl, N2, ((Keep.refl _ _).trans K2 (allS (Or.inl (List.mem_of_getElem? (i := 0) rfl)) all0)), (Nat.le_trans (Nat.le_refl _) zz2_0), F2_0, F2_1, F2_2, F2_3⟩
theorem d6_7 : decode jdk_43_method_13_code 7 = .ok (.iconst 0, 1) := by decide +kernel
theorem d6_8 : decode jdk_43_method_13_code 8 = .ok (.istore_n 2, 1) := by decide +kernel
theorem d6_9 : decode jdk_43_method_13_code 9 = .ok (.iload_n 2, 1) := by decide +kernel
theorem d6_10 : decode jdk_43_method_13_code 10 = .ok (.aload_n 0, 1) := by decide +kernel
theorem d6_11 : decode jdk_43_method_13_code 11 = .ok (.arraylength, 1) := by decide +kernel
theorem d6_12 : decode jdk_43_method_13_code 12 = .ok (.if_icmp .ge 20, 3) := by decide +kernel
theorem d6_15 : decode jdk_43_method_13_code 15 = .ok (.aload_n 0, 1) := by decide +kernel
theorem d6_16 : decode jdk_43_method_13_code 16 = .ok (.iload_n 2, 1) := by decide +kernel
theorem d6_17 : decode jdk_43_method_13_code 17 = .ok (.baload, 1) := by decide +kernel
theorem d6_18 : decode jdk_43_method_13_code 18 = .ok (.aload_n 1, 1) := by decide +kernel
theorem d6_19 : decode jdk_43_method_13_code 19 = .ok (.iload_n 2, 1) := by decide +kernel
theorem d6_20 : decode jdk_43_method_13_code 20 = .ok (.baload, 1) := by decide +kernel
theorem d6_21 : decode jdk_43_method_13_code 21 = .ok (.if_icmp .eq 5, 3) := by decide +kernel
theorem d6_26 : decode jdk_43_method_13_code 26 = .ok (.iinc 2 1, 3) := by decide +kernel
theorem d6_29 : decode jdk_43_method_13_code 29 = .ok (.goto (-20), 3) := by decide +kernel
theorem d6_32 : decode jdk_43_method_13_code 32 = .ok (.iconst 1, 1) := by decide +kernel
theorem d6_33 : decode jdk_43_method_13_code 33 = .ok (.ireturn, 1) := by decide +kernel
theorem ef_m20_equals (m : MethodId) (x1 x2 : Addr) : entryFrame m #[(.ref x1), (.ref x2)] 3 = mkF m 0 #[rv x1, rv x2, uu] [] := by first | rfl | (simp [entryFrame, mkF, argsToLocals, Value.category]; done)
theorem m20_equals (l : Launch) (Z : State) (a0 : Array Value) (hw : HW Z a0) (x1 x2 : Addr) (kk3 kk4 : ClassId) (h0 : Heap) (n0 : Nat) (Z0 : n0 ≤ h0.size) (O0 : Old Z n0 h0) (P1 : Arv Z Z.heap x1 kk3 .byte (1 : Int32) [(.int 69)] (.int 0)) (P2 : Arv Z h0 x2 kk4 .byte (1 : Int32) [(.int 69)] (.int 0)) :
    Ctr l Z [] (⟨s2', "equals", "([B[B)Z"⟩ : MethodName) jdk_43_method_13_code 3 (some .boolean) #[(.ref x1), (.ref x2)] h0 ({ frames := 0, cells := 0, slots := 0, locals := 0 } : Room) (fun v h L => v = some (.int 1) ∧ Fr n0 L ∧ h = h0) := by
  refine Ctr.of (plainFor_of_name pn_java_lang_StringLatin1) (fun m => ef_m20_equals m x1 x2) ?_
  intro p e s m below meth c T0 hx hZ hby hml hown hnm hret hlk X0 e0
  have N0 := Fr.nil n0
  show Aw p e below _ T0 m 0 #[rv x1, rv x2, uu] []
  refine Rch.go (fun t k => XS.aloadN X0.here hx rfl (hb hby d6_0) rfl rfl k) ?_
  show Aw p e below _ T0 m 1 #[rv x1, rv x2, uu] [(.ref x1)]
  obtain ⟨c1, r1, q1, s1, u1, H1, G1⟩ := id (P1.ext O0.2)
  refine Rch.go (fun t k => X0.arraylength hx (by rw [e0]; exact r1.1) (State.isArrayOf_alike hZ.alike r1.2.1) (g := (mkF m 1 #[rv x1, rv x2, uu] [(.ref x1)])) rfl rfl (hb hby d6_1) t (by rw [len_of s1 u1]; exact k)) ?_
  show Aw p e below _ T0 m 2 #[rv x1, rv x2, uu] [(.int 1)]
  refine Rch.go (fun t k => XS.aloadN X0.here hx rfl (hb hby d6_2) rfl rfl k) ?_
  show Aw p e below _ T0 m 3 #[rv x1, rv x2, uu] [(.ref x2), (.int 1)]
  obtain ⟨c2, r2, q2, s2, u2, H2, G2⟩ := id P2
  refine Rch.go (fun t k => X0.arraylength hx (by rw [e0]; exact r2.1) (State.isArrayOf_alike hZ.alike r2.2.1) (g := (mkF m 3 #[rv x1, rv x2, uu] [(.ref x2), (.int 1)])) rfl rfl (hb hby d6_3) t (by rw [len_of s2 u2]; exact k)) ?_
  show Aw p e below _ T0 m 4 #[rv x1, rv x2, uu] [(.int 1), (.int 1)]
  refine Rch.go (fun t k => XS.icmpNo X0.here hx rfl (hb hby d6_4) rfl (by decide) (XS.iconst X0.here hx rfl (hb hby d6_7) (XS.istoreN X0.here hx rfl (hb hby d6_8) rfl  (l' := #[rv x1, rv x2, iv 0]) rfl (XS.iloadN X0.here hx rfl (hb hby d6_9) rfl  (XS.aloadN X0.here hx rfl (hb hby d6_10) rfl rfl k))))) ?_
  show Aw p e below _ T0 m 11 #[rv x1, rv x2, iv 0] [(.ref x1), (.int 0)]
  obtain ⟨c3, r3, q3, s3, u3, H3, G3⟩ := id (P1.ext O0.2)
  refine Rch.go (fun t k => X0.arraylength hx (by rw [e0]; exact r3.1) (State.isArrayOf_alike hZ.alike r3.2.1) (g := (mkF m 11 #[rv x1, rv x2, iv 0] [(.ref x1), (.int 0)])) rfl rfl (hb hby d6_11) t (by rw [len_of s3 u3]; exact k)) ?_
  show Aw p e below _ T0 m 12 #[rv x1, rv x2, iv 0] [(.int 1), (.int 0)]
  refine Rch.go (fun t k => XS.icmpNo X0.here hx rfl (hb hby d6_12) rfl (by decide) (XS.aloadN X0.here hx rfl (hb hby d6_15) rfl rfl (XS.iloadN X0.here hx rfl (hb hby d6_16) rfl  k))) ?_
  show Aw p e below _ T0 m 17 #[rv x1, rv x2, iv 0] [(.int 0), (.ref x1)]
  obtain ⟨c4, r4, q4, s4, u4, H4, G4⟩ := id (P1.ext O0.2)
  refine Rch.go (fun t k => X0.baloadBytes hx (j := (0 : Int32)) (v := (.int 69)) (by rw [e0]; exact r4.1) (State.isArrayOf_alike hZ.alike r4.2.1) r4.2.2 (inb_of s4 (by decide)) (H4.at (inb_of s4 (by decide)) rfl) (g := (mkF m 17 #[rv x1, rv x2, iv 0] [(.int 0), (.ref x1)])) rfl rfl (hb hby d6_17) t k) ?_
  show Aw p e below _ T0 m 18 #[rv x1, rv x2, iv 0] [(.int 69)]
  refine Rch.go (fun t k => XS.aloadN X0.here hx rfl (hb hby d6_18) rfl rfl (XS.iloadN X0.here hx rfl (hb hby d6_19) rfl  k)) ?_
  show Aw p e below _ T0 m 20 #[rv x1, rv x2, iv 0] [(.int 0), (.ref x2), (.int 69)]
  obtain ⟨c5, r5, q5, s5, u5, H5, G5⟩ := id P2
  refine Rch.go (fun t k => X0.baloadBytes hx (j := (0 : Int32)) (v := (.int 69)) (by rw [e0]; exact r5.1) (State.isArrayOf_alike hZ.alike r5.2.1) r5.2.2 (inb_of s5 (by decide)) (H5.at (inb_of s5 (by decide)) rfl) (g := (mkF m 20 #[rv x1, rv x2, iv 0] [(.int 0), (.ref x2), (.int 69)])) rfl rfl (hb hby d6_20) t k) ?_
  show Aw p e below _ T0 m 21 #[rv x1, rv x2, iv 0] [(.int 69), (.int 69)]
  refine Rch.go (fun t k => XS.icmpYes X0.here hx rfl (pc0 := 21) (pc' := 26) rfl (hb hby d6_21) rfl (by decide) (by decide) (by decide) (XS.iinc X0.here hx rfl (hb hby d6_26) rfl (l' := #[rv x1, rv x2, iv 1]) rfl (XS.goto X0.here hx rfl (pc0 := 29) (pc' := 9) rfl (hb hby d6_29) (by decide) (by decide) (XS.iloadN X0.here hx rfl (hb hby d6_9) rfl  (XS.aloadN X0.here hx rfl (hb hby d6_10) rfl rfl k))))) ?_
  show Aw p e below _ T0 m 11 #[rv x1, rv x2, iv 1] [(.ref x1), (.int 1)]
  obtain ⟨c6, r6, q6, s6, u6, H6, G6⟩ := id (P1.ext O0.2)
  refine Rch.go (fun t k => X0.arraylength hx (by rw [e0]; exact r6.1) (State.isArrayOf_alike hZ.alike r6.2.1) (g := (mkF m 11 #[rv x1, rv x2, iv 1] [(.ref x1), (.int 1)])) rfl rfl (hb hby d6_11) t (by rw [len_of s6 u6]; exact k)) ?_
  show Aw p e below _ T0 m 12 #[rv x1, rv x2, iv 1] [(.int 1), (.int 1)]
  refine Rch.go (fun t k => XS.icmpYes X0.here hx rfl (pc0 := 12) (pc' := 32) rfl (hb hby d6_12) rfl (by decide) (by decide) (by decide) (XS.iconst X0.here hx rfl (hb hby d6_32) k)) ?_
  show Aw p e below _ T0 m 33 #[rv x1, rv x2, iv 1] [(.int 1)]
  refine Rch.val X0 hx (t := .boolean) hret hlk rfl (mayI (by simp)) (hb hby d6_33) (by decide) (by decide) ?_
  try rw [e0]
  exact ⟨rfl, N0, rfl⟩
theorem d5_50 : decode jdk_42_method_66_code 50 = .ok (.iconst 1, 1) := by decide +kernel
theorem d5_51 : decode jdk_42_method_66_code 51 = .ok (.goto 4, 3) := by decide +kernel
theorem ef_m19_equals (m : MethodId) (x1 x2 : Addr) : entryFrame m #[(.ref x1), (.ref x2)] 3 = mkF m 0 #[rv x1, rv x2, uu] [] := by first | rfl | (simp [entryFrame, mkF, argsToLocals, Value.category]; done)
theorem m19_equals (l : Launch) (Z : State) (a0 : Array Value) (hw : HW Z a0) (x1 x2 : Addr) (y3 : Int32) (x4 x5 : Addr) (kk6 kk7 : ClassId) (h0 : Heap) (n0 : Nat) (Z0 : n0 ≤ h0.size) (O0 : Old Z n0 h0) (P1 : x1 ≠ x2) (P2 : Exa Z h0 x2 "java/lang/String") (P3 : Sta Z Z.heap "java/lang/String" "COMPACT_STRINGS" "Z" (.int y3)) (P4 : ¬ (y3 = (0 : Int32))) (P5 : Fld Z Z.heap x1 "java/lang/String" "coder" "B" (.int 0)) (P6 : Fld Z h0 x2 "java/lang/String" "coder" "B" (.int 0)) (P7 : Fld Z Z.heap x1 "java/lang/String" "value" "[B" (.ref x4)) (P8 : Fld Z h0 x2 "java/lang/String" "value" "[B" (.ref x5)) (P9 : Arv Z Z.heap x4 kk6 .byte (1 : Int32) [(.int 69)] (.int 0)) (P10 : Arv Z h0 x5 kk7 .byte (1 : Int32) [(.int 69)] (.int 0)) :
    Ctr l Z [] (⟨"java/lang/String", "equals", s5'⟩ : MethodName) jdk_42_method_66_code 3 (some .boolean) #[(.ref x1), (.ref x2)] h0 ({ frames := 1, cells := 0, slots := 0, locals := 14 } : Room) (fun v h L => v = some (.int 1) ∧ Fr n0 L ∧ h = h0) := by
  refine Ctr.of (plainFor_of_name pn_java_lang_String) (fun m => ef_m19_equals m x1 x2) ?_
  intro p e s m below meth c T0 hx hZ hby hml hown hnm hret hlk X0 e0
  have N0 := Fr.nil n0
  show Aw p e below _ T0 m 0 #[rv x1, rv x2, uu] []
  refine Rch.go (fun t k => XS.aloadN X0.here hx rfl (hb hby d5_0) rfl rfl (XS.aloadN X0.here hx rfl (hb hby d5_1) rfl rfl (acmp X0 hx rfl (x := (.ref x1)) (y := (.ref x2)) rfl rfl (pc0 := 2) (pc' := 7) (same := false) rfl (hb hby d5_2) rfl (decide_eq_false (fun q => absurd (Value.ref.inj q) P1)) (by decide) (by decide) (XS.aloadN X0.here hx rfl (hb hby d5_7) rfl rfl k)))) ?_
  show Aw p e below _ T0 m 8 #[rv x1, rv x2, uu] [(.ref x2)]
  obtain ⟨T1, X1, e1, st1⟩ := instY X0 hx hZ hown (wd_51 hw) e0 (Ins.self P2) (g := (mkF m 8 #[rv x1, rv x2, uu] [(.ref x2)])) rfl rfl (hb hby d5_8)
  refine Rch.go st1 ?_
  show Aw p e below _ T1 m 11 #[rv x1, rv x2, uu] [(.int 1)]
  refine Rch.go (fun t k => XS.ifNo X1.here hx rfl (hb hby d5_11) rfl (by decide) (XS.aloadN X1.here hx rfl (hb hby d5_14) rfl rfl k)) ?_
  show Aw p e below _ T1 m 15 #[rv x1, rv x2, uu] [(.ref x2)]
  obtain ⟨T2, X2, e2, st2⟩ := castY X1 hx hZ hown (wd_51 hw) e1 (Ins.self P2) (g := (mkF m 15 #[rv x1, rv x2, uu] [(.ref x2)])) rfl rfl (hb hby d5_15)
  refine Rch.go st2 ?_
  show Aw p e below _ T2 m 18 #[rv x1, rv x2, uu] [(.ref x2)]
  refine Rch.go (fun t k => XS.astoreN X2.here hx rfl (hb hby d5_18) rfl rfl (l' := #[rv x1, rv x2, rv x2]) rfl k) ?_
  show Aw p e below _ T2 m 19 #[rv x1, rv x2, rv x2] []
  obtain ⟨T3, X3, e3, st3⟩ := getS2 X2 hx hZ hown (host := "") (Or.inl (wd_52 hw)) Via.refl e2 (P3.ext O0.2) (g := (mkF m 19 #[rv x1, rv x2, rv x2] [])) rfl (hb hby d5_19)
  refine Rch.go st3 ?_
  show Aw p e below _ T3 m 22 #[rv x1, rv x2, rv x2] [(.int y3)]
  refine Rch.go (fun t k => XS.ifNo X3.here hx rfl (hb hby d5_22) rfl (XT.i0_eq_f P4) (XS.aloadN X3.here hx rfl (hb hby d5_25) rfl rfl k)) ?_
  show Aw p e below _ T3 m 26 #[rv x1, rv x2, rv x2] [(.ref x1)]
  obtain ⟨T4, X4, e4, st4⟩ := getF X3 hx hZ hown (host := "") (Or.inl (wd_21 hw)) Via.refl e3 (P5.ext O0.2) (g := (mkF m 26 #[rv x1, rv x2, rv x2] [(.ref x1)])) rfl rfl (hb hby d5_26)
  refine Rch.go st4 ?_
  show Aw p e below _ T4 m 29 #[rv x1, rv x2, rv x2] [(.int 0)]
  refine Rch.go (fun t k => XS.aloadN X4.here hx rfl (hb hby d5_29) rfl rfl k) ?_
  show Aw p e below _ T4 m 30 #[rv x1, rv x2, rv x2] [(.ref x2), (.int 0)]
  obtain ⟨T5, X5, e5, st5⟩ := getF X4 hx hZ hown (host := "") (Or.inl (wd_21 hw)) Via.refl e4 P6 (g := (mkF m 30 #[rv x1, rv x2, rv x2] [(.ref x2), (.int 0)])) rfl rfl (hb hby d5_30)
  refine Rch.go st5 ?_
  show Aw p e below _ T5 m 33 #[rv x1, rv x2, rv x2] [(.int 0), (.int 0)]
  refine Rch.go (fun t k => XS.icmpNo X5.here hx rfl (hb hby d5_33) rfl (by decide) (XS.aloadN X5.here hx rfl (hb hby d5_36) rfl rfl k)) ?_
  show Aw p e below _ T5 m 37 #[rv x1, rv x2, rv x2] [(.ref x1)]
  obtain ⟨T6, X6, e6, st6⟩ := getF X5 hx hZ hown (host := "") (Or.inl (wd_20 hw)) Via.refl e5 (P7.ext O0.2) (g := (mkF m 37 #[rv x1, rv x2, rv x2] [(.ref x1)])) rfl rfl (hb hby d5_37)
  refine Rch.go st6 ?_
  show Aw p e below _ T6 m 40 #[rv x1, rv x2, rv x2] [(.ref x4)]
  refine Rch.go (fun t k => XS.aloadN X6.here hx rfl (hb hby d5_40) rfl rfl k) ?_
  show Aw p e below _ T6 m 41 #[rv x1, rv x2, rv x2] [(.ref x2), (.ref x4)]
  obtain ⟨T7, X7, e7, st7⟩ := getF X6 hx hZ hown (host := "") (Or.inl (wd_20 hw)) Via.refl e6 P8 (g := (mkF m 41 #[rv x1, rv x2, rv x2] [(.ref x2), (.ref x4)])) rfl rfl (hb hby d5_41)
  refine Rch.go st7 ?_
  show Aw p e below _ T7 m 44 #[rv x1, rv x2, rv x2] [(.ref x5), (.ref x4)]
  obtain ⟨v8, T8, L8, X8, Q8, st8⟩ := callSt X7 hx hZ (m20_equals l Z a0 hw x4 x5 kk6 kk7 h0 n0 Z0 O0 P9 P10) e7 hown (wd_53 hw) (wd_54 hw) (wd_56 hw) (wd_55 hw) (by decide) (hb hby d5_44) 0 (by decide) (by decide) (by decide) (by decide) (by rw [hml]; rfl) [(.ref x4), (.ref x5)] [] rfl (lenOf pd_5 rfl) rfl (Nat.le_of_eq rfl) (Ls := #[rv x1, rv x2, rv x2])
  obtain ⟨rfl, M8, e8⟩ := Q8
  have N8 := Fr.app N0 M8
  refine Rch.go st8 ?_
  show Aw p e below _ T8 m 47 #[rv x1, rv x2, rv x2] [(.int 1)]
  refine Rch.go (fun t k => XS.ifNo X8.here hx rfl (hb hby d5_47) rfl (by decide) (XS.iconst X8.here hx rfl (hb hby d5_50) (XS.goto X8.here hx rfl (pc0 := 51) (pc' := 55) rfl (hb hby d5_51) (by decide) (by decide) k))) ?_
  show Aw p e below _ T8 m 55 #[rv x1, rv x2, rv x2] [(.int 1)]
  refine Rch.val X8 hx (t := .boolean) hret hlk rfl (mayI (by simp)) (hb hby d5_55) (by decide) (by decide) ?_
  try rw [e8]
  exact ⟨rfl, N8, rfl⟩
theorem d3_31 : decode prog_61_method_4_code 31 = .ok (.aload 4, 2) := by decide +kernel
theorem d3_33 : decode prog_61_method_4_code 33 = .ok (.areturn, 1) := by decide +kernel
theorem ef_m18_of (m : MethodId) (x1 : Addr) : entryFrame m #[(.ref x1)] 5 = mkF m 0 #[rv x1, uu, uu, uu, uu] [] := by first | rfl | (simp [entryFrame, mkF, argsToLocals, Value.category]; done)
theorem m18_of (l : Launch) (Z : State) (a0 : Array Value) (hw : HW Z a0) (x1 x2 : Addr) (kk3 : ClassId) (x4 x5 x6 x7 : Addr) (y8 : Int32) (x9 x10 : Addr) (kk11 kk12 : ClassId) (h0 : Heap) (n0 : Nat) (Z0 : n0 ≤ h0.size) (O0 : Old Z n0 h0) (P1 : Sta Z Z.heap s1' "$VALUES" s3' (.ref x2)) (P2 : Arv Z Z.heap x2 kk3 (.object s1') (3 : Int32) [(.ref x4), (.ref x5), (.ref x6)] .null) (P3 : Exa Z Z.heap x2 s3') (P4 : Fld Z Z.heap x4 s1' "text" "Ljava/lang/String;" (.ref x7)) (P5 : Exa Z Z.heap x7 "java/lang/String") (P6 : x7 ≠ x1) (P7 : Exa Z h0 x1 "java/lang/String") (P8 : Sta Z Z.heap "java/lang/String" "COMPACT_STRINGS" "Z" (.int y8)) (P9 : ¬ (y8 = (0 : Int32))) (P10 : Fld Z Z.heap x7 "java/lang/String" "coder" "B" (.int 0)) (P11 : Fld Z h0 x1 "java/lang/String" "coder" "B" (.int 0)) (P12 : Fld Z Z.heap x7 "java/lang/String" "value" "[B" (.ref x9)) (P13 : Fld Z h0 x1 "java/lang/String" "value" "[B" (.ref x10)) (P14 : Arv Z Z.heap x9 kk11 .byte (1 : Int32) [(.int 69)] (.int 0)) (P15 : Arv Z h0 x10 kk12 .byte (1 : Int32) [(.int 69)] (.int 0)) :
    Ctr l Z [] (⟨s1', "of", s8'⟩ : MethodName) prog_61_method_4_code 5 (some (.object s1')) #[(.ref x1)] h0 ({ frames := 2, cells := 1, slots := 3, locals := 28 } : Room) (fun v h L => v = some (.ref x4) ∧ Fr n0 L ∧ Keep h0 h []) := by
  refine Ctr.of (plainFor_of_name pn_com_example_knit_theories_knittheories_model_Gather) (fun m => ef_m18_of m x1) ?_
  intro p e s m below meth c T0 hx hZ hby hml hown hnm hret hlk X0 e0
  have N0 := Fr.nil n0
  show Aw p e below _ T0 m 0 #[rv x1, uu, uu, uu, uu] []
  obtain ⟨v1, T1, L1, X1, Q1, st1⟩ := callSt X0 hx hZ (m2_values l Z a0 hw x2 kk3 x4 x5 x6 h0 n0 Z0 O0 P1 P2 P3) e0 hown (wd_26 hw) (wd_27 hw) (wd_28 hw) (wd_24 hw) (by decide) (hb hby d3_0) 0 (by decide) (by decide) (by decide) (by decide) (by rw [hml]; rfl) [] [] rfl (lenOf pd_1 rfl) rfl (Nat.le_of_eq rfl) (Ls := #[rv x1, uu, uu, uu, uu])
  obtain ⟨b1_0, rfl, M1, K1, zz1_0, F1_0, F1_1⟩ := Q1
  have N1 := Fr.app N0 M1
  refine Rch.go st1 ?_
  have g_b1_0 : n0 ≤ b1_0 := Nat.le_trans Z0 zz1_0
  show Aw p e below _ T1 m 3 #[rv x1, uu, uu, uu, uu] [(.ref b1_0)]
  refine Rch.go (fun t k => XS.astoreN X1.here hx rfl (hb hby d3_3) rfl rfl (l' := #[rv x1, rv b1_0, uu, uu, uu]) rfl (XS.aloadN X1.here hx rfl (hb hby d3_4) rfl rfl k)) ?_
  show Aw p e below _ T1 m 5 #[rv x1, rv b1_0, uu, uu, uu] [(.ref b1_0)]
  obtain ⟨c2, r2, q2, s2, u2, H2, G2⟩ := id F1_1
  refine Rch.go (fun t k => X1.arraylength hx r2.1 (State.isArrayOf_alike hZ.alike r2.2.1) (g := (mkF m 5 #[rv x1, rv b1_0, uu, uu, uu] [(.ref b1_0)])) rfl rfl (hb hby d3_5) t (by rw [len_of s2 u2]; exact k)) ?_
  show Aw p e below _ T1 m 6 #[rv x1, rv b1_0, uu, uu, uu] [(.int 3)]
  refine Rch.go (fun t k => XS.istoreN X1.here hx rfl (hb hby d3_6) rfl  (l' := #[rv x1, rv b1_0, iv 3, uu, uu]) rfl (XS.iconst X1.here hx rfl (hb hby d3_7) (XS.istoreN X1.here hx rfl (hb hby d3_8) rfl  (l' := #[rv x1, rv b1_0, iv 3, iv 0, uu]) rfl (XS.iloadN X1.here hx rfl (hb hby d3_9) rfl  (XS.iloadN X1.here hx rfl (hb hby d3_10) rfl  (XS.icmpNo X1.here hx rfl (hb hby d3_11) rfl (by decide) (XS.aloadN X1.here hx rfl (hb hby d3_14) rfl rfl (XS.iloadN X1.here hx rfl (hb hby d3_15) rfl  k)))))))) ?_
  show Aw p e below _ T1 m 16 #[rv x1, rv b1_0, iv 3, iv 0, uu] [(.int 0), (.ref b1_0)]
  obtain ⟨c3, r3, q3, s3, u3, H3, G3⟩ := id F1_1
  refine Rch.go (fun t k => X1.aaload hx (j := (0 : Int32)) (v := (.ref x4)) r3.1 (State.isArrayOf_alike hZ.alike r3.2.1) rfl r3.2.2 (inb_of s3 (by decide)) (H3.at (inb_of s3 (by decide)) rfl) (g := (mkF m 16 #[rv x1, rv b1_0, iv 3, iv 0, uu] [(.int 0), (.ref b1_0)])) rfl rfl (hb hby d3_16) t k) ?_
  show Aw p e below _ T1 m 17 #[rv x1, rv b1_0, iv 3, iv 0, uu] [(.ref x4)]
  refine Rch.go (fun t k => XS.astore X1.here hx rfl (hb hby d3_17) rfl rfl (l' := #[rv x1, rv b1_0, iv 3, iv 0, rv x4]) rfl (XS.aload X1.here hx rfl (hb hby d3_19) rfl rfl k)) ?_
  show Aw p e below _ T1 m 21 #[rv x1, rv b1_0, iv 3, iv 0, rv x4] [(.ref x4)]
  have o5 := (O0.keep K1 all0)
  obtain ⟨T4, X4, e4, st4⟩ := getF X1 hx hZ hown (host := "") (Or.inl (wd_44 hw)) Via.refl rfl (P4.ext o5.2) (g := (mkF m 21 #[rv x1, rv b1_0, iv 3, iv 0, rv x4] [(.ref x4)])) rfl rfl (hb hby d3_21)
  refine Rch.go st4 ?_
  show Aw p e below _ T4 m 24 #[rv x1, rv b1_0, iv 3, iv 0, rv x4] [(.ref x7)]
  refine Rch.go (fun t k => XS.aloadN X4.here hx rfl (hb hby d3_24) rfl rfl k) ?_
  show Aw p e below _ T4 m 25 #[rv x1, rv b1_0, iv 3, iv 0, rv x4] [(.ref x1), (.ref x7)]
  have f6 := (P7.keep K1)
  have f7 := (P11.keep K1 nin0)
  have f8 := (P13.keep K1 nin0)
  have f9 := (P15.keep K1 nin0)
  have z10 := (Nat.le_trans Z0 K1.1)
  obtain ⟨v11, T11, L11, X11, Q11, st11⟩ := callVi X4 hx hZ (m19_equals l Z a0 hw x7 x1 y8 x9 x10 kk11 kk12 T1.heap n0 z10 o5 P6 f6 P8 P9 P10 f7 P12 f8 P14 f9) e4 hown (wd_46 hw) (wd_47 hw) (wd_49 hw) (notFace_of_selects (args := #[]) (mvT hZ (wd_49 hw))) (wd_48 hw) (wd_50 hw) (wd_2 hw) (by decide) (hb hby d3_25) 0 (by decide) (by decide) (by decide) (by decide) (by rw [hml]; rfl) x7 (P5.ext o5.2) [(.ref x1)] [] rfl (lenOf pd_2 rfl) rfl (Nat.le_of_eq rfl) (Ls := #[rv x1, rv b1_0, iv 3, iv 0, rv x4])
  obtain ⟨rfl, M11, e11⟩ := Q11
  have N11 := Fr.app N1 M11
  refine Rch.go st11 ?_
  show Aw p e below _ T11 m 28 #[rv x1, rv b1_0, iv 3, iv 0, rv x4] [(.int 1)]
  refine Rch.go (fun t k => XS.ifNo X11.here hx rfl (hb hby d3_28) rfl (by decide) (XS.aload X11.here hx rfl (hb hby d3_31) rfl rfl k)) ?_
  show Aw p e below _ T11 m 33 #[rv x1, rv b1_0, iv 3, iv 0, rv x4] [(.ref x4)]
  refine Rch.val X11 hx (t := (.object s1')) hret hlk rfl (Or.inr (Or.inr (Or.inr (Or.inr ⟨rfl, rfl, rfl⟩)))) (hb hby d3_33) (by decide) (by decide) ?_
  try rw [e11]
  exact ⟨rfl, N11, ((Keep.refl _ _).trans K1 all0)⟩
theorem ef_m21_length (m : MethodId) (x1 : Addr) : entryFrame m #[(.ref x1)] 1 = mkF m 0 #[rv x1] [] := by first | rfl | (simp [entryFrame, mkF, argsToLocals, Value.category]; done)
theorem m21_length (l : Launch) (Z : State) (a0 : Array Value) (hw : HW Z a0) (x1 x2 : Addr) (kk3 : ClassId) (y4 : Int32) (h0 : Heap) (n0 : Nat) (Z0 : n0 ≤ h0.size) (O0 : Old Z n0 h0) (P1 : Fld Z h0 x1 "java/lang/String" "value" "[B" (.ref x2)) (P2 : Arv Z h0 x2 kk3 .byte (1 : Int32) [(.int 69)] (.int 0)) (P3 : Exa Z h0 x1 "java/lang/String") (P4 : Sta Z Z.heap "java/lang/String" "COMPACT_STRINGS" "Z" (.int y4)) (P5 : ¬ (y4 = (0 : Int32))) (P6 : Fld Z h0 x1 "java/lang/String" "coder" "B" (.int 0)) :
    Ctr l Z [] (⟨"java/lang/String", "length", "()I"⟩ : MethodName) jdk_42_method_54_code 1 (some .int) #[(.ref x1)] h0 ({ frames := 1, cells := 0, slots := 0, locals := 13 } : Room) (fun v h L => v = some (.int 1) ∧ Fr n0 L ∧ h = h0) := by
  refine Ctr.of (plainFor_of_name pn_java_lang_String) (fun m => ef_m21_length m x1) ?_
  intro p e s m below meth c T0 hx hZ hby hml hown hnm hret hlk X0 e0
  have N0 := Fr.nil n0
  show Aw p e below _ T0 m 0 #[rv x1] []
  refine Rch.go (fun t k => XS.aloadN X0.here hx rfl (hb hby d7_0) rfl rfl k) ?_
  show Aw p e below _ T0 m 1 #[rv x1] [(.ref x1)]
  obtain ⟨T1, X1, e1, st1⟩ := getF X0 hx hZ hown (host := "") (Or.inl (wd_20 hw)) Via.refl e0 P1 (g := (mkF m 1 #[rv x1] [(.ref x1)])) rfl rfl (hb hby d7_1)
  refine Rch.go st1 ?_
  show Aw p e below _ T1 m 4 #[rv x1] [(.ref x2)]
  obtain ⟨c2, r2, q2, s2, u2, H2, G2⟩ := id P2
  refine Rch.go (fun t k => X1.arraylength hx (by rw [e1]; exact r2.1) (State.isArrayOf_alike hZ.alike r2.2.1) (g := (mkF m 4 #[rv x1] [(.ref x2)])) rfl rfl (hb hby d7_4) t (by rw [len_of s2 u2]; exact k)) ?_
  show Aw p e below _ T1 m 5 #[rv x1] [(.int 1)]
  refine Rch.go (fun t k => XS.aloadN X1.here hx rfl (hb hby d7_5) rfl rfl k) ?_
  show Aw p e below _ T1 m 6 #[rv x1] [(.ref x1), (.int 1)]
  obtain ⟨v3, T3, L3, X3, Q3, st3⟩ := callVi X1 hx hZ (m12_coder l Z a0 hw x1 y4 h0 n0 Z0 O0 P4 P5 P6) e1 hown (wd_62 hw) (wd_63 hw) (wd_65 hw) (notFace_of_selects (args := #[]) (mvT hZ (wd_65 hw))) (wd_64 hw) (wd_66 hw) (wd_2 hw) (by decide) (hb hby d7_6) 1 (by decide) (by decide) (by decide) (by decide) (by rw [hml]; rfl) x1 P3 [] [(.int 1)] rfl (lenOf pd_6 rfl) rfl (Nat.le_of_eq rfl) (Ls := #[rv x1])
  obtain ⟨rfl, M3, e3⟩ := Q3
  have N3 := Fr.app N0 M3
  refine Rch.go st3 ?_
  show Aw p e below _ T3 m 9 #[rv x1] [(.int 0), (.int 1)]
  refine Rch.go (fun t k => XS.ishr X3.here hx rfl (hb hby d7_9) rfl k) ?_
  show Aw p e below _ T3 m 10 #[rv x1] [(.int 1)]
  refine Rch.val X3 hx (t := .int) hret hlk rfl (mayI (by simp)) (hb hby d7_10) (by decide) (by decide) ?_
  try rw [e3]
  exact ⟨rfl, N3, rfl⟩
theorem wd_81 {Z a0} (hw : HW Z a0) : (Cond.methodLink s7' (28 : Nat) ⟨"java/lang/String", "charAt", "(I)C"⟩).before a0 Z = true := hw.at 81 rfl
theorem d12_0 : decode jdk_42_method_56_code 0 = .ok (.aload_n 0, 1) := by decide +kernel
theorem d12_1 : decode jdk_42_method_56_code 1 = .ok (.invokevirtual 492, 3) := by decide +kernel
theorem wd_86 {Z a0} (hw : HW Z a0) : (Cond.methodLink "java/lang/String" (492 : Nat) ⟨"java/lang/String", "isLatin1", "()Z"⟩).before a0 Z = true := hw.at 86 rfl
theorem d13_0 : decode jdk_42_method_154_code 0 = .ok (.getstatic 38, 3) := by decide +kernel
theorem d13_3 : decode jdk_42_method_154_code 3 = .ok (.ifCond .eq 14, 3) := by decide +kernel
theorem d13_6 : decode jdk_42_method_154_code 6 = .ok (.aload_n 0, 1) := by decide +kernel
theorem d13_7 : decode jdk_42_method_154_code 7 = .ok (.getfield 15, 3) := by decide +kernel
theorem d13_10 : decode jdk_42_method_154_code 10 = .ok (.ifCond .ne 7, 3) := by decide +kernel
theorem d13_13 : decode jdk_42_method_154_code 13 = .ok (.iconst 1, 1) := by decide +kernel
theorem d13_14 : decode jdk_42_method_154_code 14 = .ok (.goto 4, 3) := by decide +kernel
theorem d13_18 : decode jdk_42_method_154_code 18 = .ok (.ireturn, 1) := by decide +kernel
theorem ef_m23_isLatin1 (m : MethodId) (x1 : Addr) : entryFrame m #[(.ref x1)] 1 = mkF m 0 #[rv x1] [] := by first | rfl | (simp [entryFrame, mkF, argsToLocals, Value.category]; done)
theorem m23_isLatin1 (l : Launch) (Z : State) (a0 : Array Value) (hw : HW Z a0) (x1 : Addr) (y2 : Int32) (h0 : Heap) (n0 : Nat) (Z0 : n0 ≤ h0.size) (O0 : Old Z n0 h0) (P1 : Sta Z Z.heap "java/lang/String" "COMPACT_STRINGS" "Z" (.int y2)) (P2 : ¬ (y2 = (0 : Int32))) (P3 : Fld Z h0 x1 "java/lang/String" "coder" "B" (.int 0)) :
    Ctr l Z [] (⟨"java/lang/String", "isLatin1", "()Z"⟩ : MethodName) jdk_42_method_154_code 1 (some .boolean) #[(.ref x1)] h0 ({ frames := 0, cells := 0, slots := 0, locals := 0 } : Room) (fun v h L => v = some (.int 1) ∧ Fr n0 L ∧ h = h0) := by
  refine Ctr.of (plainFor_of_name pn_java_lang_String) (fun m => ef_m23_isLatin1 m x1) ?_
  intro p e s m below meth c T0 hx hZ hby hml hown hnm hret hlk X0 e0
  have N0 := Fr.nil n0
  show Aw p e below _ T0 m 0 #[rv x1] []
  obtain ⟨T1, X1, e1, st1⟩ := getS2 X0 hx hZ hown (host := "") (Or.inl (wd_52 hw)) Via.refl e0 (P1.ext O0.2) (g := (mkF m 0 #[rv x1] [])) rfl (hb hby d13_0)
  refine Rch.go st1 ?_
  show Aw p e below _ T1 m 3 #[rv x1] [(.int y2)]
  refine Rch.go (fun t k => XS.ifNo X1.here hx rfl (hb hby d13_3) rfl (XT.i0_eq_f P2) (XS.aloadN X1.here hx rfl (hb hby d13_6) rfl rfl k)) ?_
  show Aw p e below _ T1 m 7 #[rv x1] [(.ref x1)]
  obtain ⟨T2, X2, e2, st2⟩ := getF X1 hx hZ hown (host := "") (Or.inl (wd_21 hw)) Via.refl e1 P3 (g := (mkF m 7 #[rv x1] [(.ref x1)])) rfl rfl (hb hby d13_7)
  refine Rch.go st2 ?_
  show Aw p e below _ T2 m 10 #[rv x1] [(.int 0)]
  refine Rch.go (fun t k => XS.ifNo X2.here hx rfl (hb hby d13_10) rfl (by decide) (XS.iconst X2.here hx rfl (hb hby d13_13) (XS.goto X2.here hx rfl (pc0 := 14) (pc' := 18) rfl (hb hby d13_14) (by decide) (by decide) k))) ?_
  show Aw p e below _ T2 m 18 #[rv x1] [(.int 1)]
  refine Rch.val X2 hx (t := .boolean) hret hlk rfl (mayI (by simp)) (hb hby d13_18) (by decide) (by decide) ?_
  try rw [e2]
  exact ⟨rfl, N0, rfl⟩
theorem wd_90 {Z a0} (hw : HW Z a0) : (Cond.code ⟨"java/lang/String", "isLatin1", "()Z"⟩ jdk_42_method_154_code (1 : Nat) (Option.some FieldType.boolean)).before a0 Z = true := hw.at 90 rfl
theorem pd_12 : parseMethodDescriptor "()Z" = some ⟨[], some .boolean⟩ := by decide +kernel
theorem wd_89 {Z a0} (hw : HW Z a0) : (Cond.selects "java/lang/String" ⟨"java/lang/String", "isLatin1", "()Z"⟩ ⟨"java/lang/String", "isLatin1", "()Z"⟩).before a0 Z = true := hw.at 89 rfl
theorem wd_87 {Z a0} (hw : HW Z a0) : (Cond.declares ⟨"java/lang/String", "isLatin1", "()Z"⟩).before a0 Z = true := hw.at 87 rfl
theorem wd_88 {Z a0} (hw : HW Z a0) : (Cond.instanceMethod ⟨"java/lang/String", "isLatin1", "()Z"⟩).before a0 Z = true := hw.at 88 rfl
theorem d12_4 : decode jdk_42_method_56_code 4 = .ok (.ifCond .eq 12, 3) := by decide +kernel
theorem d12_7 : decode jdk_42_method_56_code 7 = .ok (.aload_n 0, 1) := by decide +kernel
theorem d12_8 : decode jdk_42_method_56_code 8 = .ok (.getfield 9, 3) := by decide +kernel
theorem d12_11 : decode jdk_42_method_56_code 11 = .ok (.iload_n 1, 1) := by decide +kernel
theorem d12_12 : decode jdk_42_method_56_code 12 = .ok (.invokestatic 495, 3) := by decide +kernel
theorem wd_91 {Z a0} (hw : HW Z a0) : (Cond.methodLink "java/lang/String" (495 : Nat) ⟨s2', "charAt", "([BI)C"⟩).before a0 Z = true := hw.at 91 rfl
theorem d14_0 : decode jdk_43_method_2_code 0 = .ok (.iload_n 1, 1) := by decide +kernel
theorem d14_1 : decode jdk_43_method_2_code 1 = .ok (.aload_n 0, 1) := by decide +kernel
theorem d14_2 : decode jdk_43_method_2_code 2 = .ok (.arraylength, 1) := by decide +kernel
theorem d14_3 : decode jdk_43_method_2_code 3 = .ok (.invokestatic 9, 3) := by decide +kernel
theorem wd_94 {Z a0} (hw : HW Z a0) : (Cond.methodLink s2' (9 : Nat) ⟨"java/lang/String", "checkIndex", "(II)V"⟩).before a0 Z = true := hw.at 94 rfl
theorem d15_0 : decode jdk_42_method_155_code 0 = .ok (.iload_n 0, 1) := by decide +kernel
theorem d15_1 : decode jdk_42_method_155_code 1 = .ok (.iload_n 1, 1) := by decide +kernel
theorem d15_2 : decode jdk_42_method_155_code 2 = .ok (.getstatic 1053, 3) := by decide +kernel
theorem wd_97 {Z a0} (hw : HW Z a0) : (Cond.fieldLink "java/lang/String" (1053 : Nat) s6' "SIOOBE_FORMATTER" "Ljava/util/function/BiFunction;").before a0 Z = true := hw.at 97 rfl
theorem d15_5 : decode jdk_42_method_155_code 5 = .ok (.invokestatic 1059, 3) := by decide +kernel
theorem wd_99 {Z a0} (hw : HW Z a0) : (Cond.methodLink "java/lang/String" (1059 : Nat) ⟨s6', "checkIndex", "(IILjava/util/function/BiFunction;)I"⟩).before a0 Z = true := hw.at 99 rfl
theorem d16_0 : decode jdk_41_method_11_code 0 = .ok (.iload_n 0, 1) := by decide +kernel
theorem d16_1 : decode jdk_41_method_11_code 1 = .ok (.ifCond .lt 8, 3) := by decide +kernel
theorem d16_4 : decode jdk_41_method_11_code 4 = .ok (.iload_n 0, 1) := by decide +kernel
theorem d16_5 : decode jdk_41_method_11_code 5 = .ok (.iload_n 1, 1) := by decide +kernel
theorem d16_6 : decode jdk_41_method_11_code 6 = .ok (.if_icmp .lt 10, 3) := by decide +kernel
theorem d16_16 : decode jdk_41_method_11_code 16 = .ok (.iload_n 0, 1) := by decide +kernel
theorem d16_17 : decode jdk_41_method_11_code 17 = .ok (.ireturn, 1) := by decide +kernel
theorem pn_jdk_internal_util_Preconditions : plainName s6' = true := by first | (simp [plainName, overriddenIn]; done) | decide +kernel
theorem ef_m26_checkIndex (m : MethodId) (vv1 : Value) (q_vv1 : vv1.isRef = true) : entryFrame m #[(.int 0), (.int 1), vv1] 3 = mkF m 0 #[iv 0, iv 1, .val vv1] [] := by rcases ref_cases q_vv1 with rfl | ⟨_, rfl⟩ <;> first | rfl | (simp [entryFrame, mkF, argsToLocals, Value.category]; done)
theorem m26_checkIndex (l : Launch) (Z : State) (a0 : Array Value) (hw : HW Z a0) (vv1 : Value) (h0 : Heap) (n0 : Nat) (Z0 : n0 ≤ h0.size) (O0 : Old Z n0 h0) (P1 : vv1.isRef = true) :
    Ctr l Z [] (⟨s6', "checkIndex", "(IILjava/util/function/BiFunction;)I"⟩ : MethodName) jdk_41_method_11_code 3 (some .int) #[(.int 0), (.int 1), vv1] h0 ({ frames := 0, cells := 0, slots := 0, locals := 0 } : Room) (fun v h L => v = some (.int 0) ∧ Fr n0 L ∧ h = h0) := by
  refine Ctr.of (plainFor_of_name pn_jdk_internal_util_Preconditions) (fun m => ef_m26_checkIndex m vv1 P1) ?_
  intro p e s m below meth c T0 hx hZ hby hml hown hnm hret hlk X0 e0
  have N0 := Fr.nil n0
  show Aw p e below _ T0 m 0 #[iv 0, iv 1, .val vv1] []
  refine Rch.go (fun t k => XS.iloadN X0.here hx rfl (hb hby d16_0) rfl  (XS.ifNo X0.here hx rfl (hb hby d16_1) rfl (by decide) (XS.iloadN X0.here hx rfl (hb hby d16_4) rfl  (XS.iloadN X0.here hx rfl (hb hby d16_5) rfl  (XS.icmpYes X0.here hx rfl (pc0 := 6) (pc' := 16) rfl (hb hby d16_6) rfl (by decide) (by decide) (by decide) (XS.iloadN X0.here hx rfl (hb hby d16_16) rfl  k)))))) ?_
  show Aw p e below _ T0 m 17 #[iv 0, iv 1, .val vv1] [(.int 0)]
  refine Rch.val X0 hx (t := .int) hret hlk rfl (mayI (by simp)) (hb hby d16_17) (by decide) (by decide) ?_
  try rw [e0]
  exact ⟨rfl, N0, rfl⟩
theorem wd_101 {Z a0} (hw : HW Z a0) : (Cond.code ⟨s6', "checkIndex", "(IILjava/util/function/BiFunction;)I"⟩ jdk_41_method_11_code (3 : Nat) (Option.some FieldType.int)).before a0 Z = true := hw.at 101 rfl
theorem wd_98 {Z a0} (hw : HW Z a0) : (Cond.initialized s6').before a0 Z = true := hw.at 98 rfl
theorem pd_13 : parseMethodDescriptor "(IILjava/util/function/BiFunction;)I" = some ⟨[.int, .int, (.object "java/util/function/BiFunction")], some .int⟩ := by decide +kernel
theorem wd_100 {Z a0} (hw : HW Z a0) : (Cond.static ⟨s6', "checkIndex", "(IILjava/util/function/BiFunction;)I"⟩).before a0 Z = true := hw.at 100 rfl
theorem d15_8 : decode jdk_42_method_155_code 8 = .ok (.pop, 1) := by decide +kernel
theorem d15_9 : decode jdk_42_method_155_code 9 = .ok (.return_, 1) := by decide +kernel
theorem ef_m25_checkIndex (m : MethodId) : entryFrame m #[(.int 0), (.int 1)] 2 = mkF m 0 #[iv 0, iv 1] [] := by first | rfl | (simp [entryFrame, mkF, argsToLocals, Value.category]; done)
theorem m25_checkIndex (l : Launch) (Z : State) (a0 : Array Value) (hw : HW Z a0) (vv1 : Value) (h0 : Heap) (n0 : Nat) (Z0 : n0 ≤ h0.size) (O0 : Old Z n0 h0) (P1 : vv1.isRef = true) (P2 : Sta Z Z.heap s6' "SIOOBE_FORMATTER" "Ljava/util/function/BiFunction;" vv1) :
    Ctr l Z [] (⟨"java/lang/String", "checkIndex", "(II)V"⟩ : MethodName) jdk_42_method_155_code 2 none #[(.int 0), (.int 1)] h0 ({ frames := 1, cells := 0, slots := 0, locals := 14 } : Room) (fun v h L => v = none ∧ Fr n0 L ∧ h = h0) := by
  refine Ctr.of (plainFor_of_name pn_java_lang_String) (fun m => ef_m25_checkIndex m ) ?_
  intro p e s m below meth c T0 hx hZ hby hml hown hnm hret hlk X0 e0
  have N0 := Fr.nil n0
  show Aw p e below _ T0 m 0 #[iv 0, iv 1] []
  refine Rch.go (fun t k => XS.iloadN X0.here hx rfl (hb hby d15_0) rfl  (XS.iloadN X0.here hx rfl (hb hby d15_1) rfl  k)) ?_
  show Aw p e below _ T0 m 2 #[iv 0, iv 1] [(.int 1), (.int 0)]
  obtain ⟨T1, X1, e1, st1⟩ := getS2 X0 hx hZ hown (host := "") (Or.inl (wd_97 hw)) Via.refl e0 (P2.ext O0.2) (g := (mkF m 2 #[iv 0, iv 1] [(.int 1), (.int 0)])) rfl (hb hby d15_2)
  refine Rch.go st1 ?_
  show Aw p e below _ T1 m 5 #[iv 0, iv 1] [vv1, (.int 1), (.int 0)]
  obtain ⟨v2, T2, L2, X2, Q2, st2⟩ := callSt X1 hx hZ (m26_checkIndex l Z a0 hw vv1 h0 n0 Z0 O0 P1) e1 hown (wd_99 hw) (wd_100 hw) (wd_101 hw) (wd_98 hw) (by decide) (hb hby d15_5) 0 (by decide) (by decide) (by decide) (by decide) (by rw [hml]; rfl) [(.int 0), (.int 1), vv1] [] rfl (lenOf pd_13 rfl) rfl (Nat.le_of_eq rfl) (Ls := #[iv 0, iv 1])
  obtain ⟨rfl, M2, e2⟩ := Q2
  have N2 := Fr.app N0 M2
  refine Rch.go st2 ?_
  show Aw p e below _ T2 m 8 #[iv 0, iv 1] [(.int 0)]
  refine Rch.go (fun t k => XS.pop X2.here hx rfl (hb hby d15_8) rfl rfl k) ?_
  show Aw p e below _ T2 m 9 #[iv 0, iv 1] []
  refine Rch.void X2 hx hret hlk (hb hby d15_9) (by decide) (by decide) ?_
  try rw [e2]
  exact ⟨rfl, N2, rfl⟩
theorem wd_96 {Z a0} (hw : HW Z a0) : (Cond.code ⟨"java/lang/String", "checkIndex", "(II)V"⟩ jdk_42_method_155_code (2 : Nat) (Option.none : Option FieldType)).before a0 Z = true := hw.at 96 rfl
theorem pd_14 : parseMethodDescriptor "(II)V" = some ⟨[.int, .int], none⟩ := by decide +kernel
theorem wd_95 {Z a0} (hw : HW Z a0) : (Cond.static ⟨"java/lang/String", "checkIndex", "(II)V"⟩).before a0 Z = true := hw.at 95 rfl
theorem d14_6 : decode jdk_43_method_2_code 6 = .ok (.aload_n 0, 1) := by decide +kernel
theorem d14_7 : decode jdk_43_method_2_code 7 = .ok (.iload_n 1, 1) := by decide +kernel
theorem d14_8 : decode jdk_43_method_2_code 8 = .ok (.baload, 1) := by decide +kernel
theorem d14_9 : decode jdk_43_method_2_code 9 = .ok (.sipush 255, 3) := by decide +kernel
theorem d14_12 : decode jdk_43_method_2_code 12 = .ok (.iand, 1) := by decide +kernel
theorem d14_13 : decode jdk_43_method_2_code 13 = .ok (.i2c, 1) := by decide +kernel
theorem d14_14 : decode jdk_43_method_2_code 14 = .ok (.ireturn, 1) := by decide +kernel
theorem ef_m24_charAt (m : MethodId) (x1 : Addr) : entryFrame m #[(.ref x1), (.int 0)] 2 = mkF m 0 #[rv x1, iv 0] [] := by first | rfl | (simp [entryFrame, mkF, argsToLocals, Value.category]; done)
theorem m24_charAt (l : Launch) (Z : State) (a0 : Array Value) (hw : HW Z a0) (x1 : Addr) (kk2 : ClassId) (vv3 : Value) (h0 : Heap) (n0 : Nat) (Z0 : n0 ≤ h0.size) (O0 : Old Z n0 h0) (P1 : Arv Z h0 x1 kk2 .byte (1 : Int32) [(.int 69)] (.int 0)) (P2 : vv3.isRef = true) (P3 : Sta Z Z.heap s6' "SIOOBE_FORMATTER" "Ljava/util/function/BiFunction;" vv3) :
    Ctr l Z [] (⟨s2', "charAt", "([BI)C"⟩ : MethodName) jdk_43_method_2_code 2 (some .char) #[(.ref x1), (.int 0)] h0 ({ frames := 2, cells := 0, slots := 0, locals := 27 } : Room) (fun v h L => v = some (.int 69) ∧ Fr n0 L ∧ h = h0) := by
  refine Ctr.of (plainFor_of_name pn_java_lang_StringLatin1) (fun m => ef_m24_charAt m x1) ?_
  intro p e s m below meth c T0 hx hZ hby hml hown hnm hret hlk X0 e0
  have N0 := Fr.nil n0
  show Aw p e below _ T0 m 0 #[rv x1, iv 0] []
  refine Rch.go (fun t k => XS.iloadN X0.here hx rfl (hb hby d14_0) rfl  (XS.aloadN X0.here hx rfl (hb hby d14_1) rfl rfl k)) ?_
  show Aw p e below _ T0 m 2 #[rv x1, iv 0] [(.ref x1), (.int 0)]
  obtain ⟨c1, r1, q1, s1, u1, H1, G1⟩ := id P1
  refine Rch.go (fun t k => X0.arraylength hx (by rw [e0]; exact r1.1) (State.isArrayOf_alike hZ.alike r1.2.1) (g := (mkF m 2 #[rv x1, iv 0] [(.ref x1), (.int 0)])) rfl rfl (hb hby d14_2) t (by rw [len_of s1 u1]; exact k)) ?_
  show Aw p e below _ T0 m 3 #[rv x1, iv 0] [(.int 1), (.int 0)]
  obtain ⟨v2, T2, L2, X2, Q2, st2⟩ := callSt X0 hx hZ (m25_checkIndex l Z a0 hw vv3 h0 n0 Z0 O0 P2 P3) e0 hown (wd_94 hw) (wd_95 hw) (wd_96 hw) (wd_2 hw) (by decide) (hb hby d14_3) 0 (by decide) (by decide) (by decide) (by decide) (by rw [hml]; rfl) [(.int 0), (.int 1)] [] rfl (lenOf pd_14 rfl) rfl (Nat.le_of_eq rfl) (Ls := #[rv x1, iv 0])
  obtain ⟨rfl, M2, e2⟩ := Q2
  have N2 := Fr.app N0 M2
  refine Rch.go st2 ?_
  show Aw p e below _ T2 m 6 #[rv x1, iv 0] []
  refine Rch.go (fun t k => XS.aloadN X2.here hx rfl (hb hby d14_6) rfl rfl (XS.iloadN X2.here hx rfl (hb hby d14_7) rfl  k)) ?_
  show Aw p e below _ T2 m 8 #[rv x1, iv 0] [(.int 0), (.ref x1)]
  obtain ⟨c3, r3, q3, s3, u3, H3, G3⟩ := id P1
  refine Rch.go (fun t k => X2.baloadBytes hx (j := (0 : Int32)) (v := (.int 69)) (by rw [e2]; exact r3.1) (State.isArrayOf_alike hZ.alike r3.2.1) r3.2.2 (inb_of s3 (by decide)) (H3.at (inb_of s3 (by decide)) rfl) (g := (mkF m 8 #[rv x1, iv 0] [(.int 0), (.ref x1)])) rfl rfl (hb hby d14_8) t k) ?_
  show Aw p e below _ T2 m 9 #[rv x1, iv 0] [(.int 69)]
  refine Rch.go (fun t k => XS.sipush X2.here hx rfl (hb hby d14_9) (XS.iand X2.here hx rfl (hb hby d14_12) rfl (XS.i2c X2.here hx rfl (hb hby d14_13) rfl k))) ?_
  show Aw p e below _ T2 m 14 #[rv x1, iv 0] [(.int 69)]
  refine Rch.val X2 hx (t := .char) hret hlk rfl (mayI (by simp)) (hb hby d14_14) (by decide) (by decide) ?_
  try rw [e2]
  exact ⟨rfl, N2, rfl⟩
theorem wd_93 {Z a0} (hw : HW Z a0) : (Cond.code ⟨s2', "charAt", "([BI)C"⟩ jdk_43_method_2_code (2 : Nat) (Option.some FieldType.char)).before a0 Z = true := hw.at 93 rfl
theorem pd_15 : parseMethodDescriptor "([BI)C" = some ⟨[(.array .byte), .int], some .char⟩ := by decide +kernel
theorem wd_92 {Z a0} (hw : HW Z a0) : (Cond.static ⟨s2', "charAt", "([BI)C"⟩).before a0 Z = true := hw.at 92 rfl
theorem d12_15 : decode jdk_42_method_56_code 15 = .ok (.ireturn, 1) := by decide +kernel
theorem ef_m22_charAt (m : MethodId) (x1 : Addr) : entryFrame m #[(.ref x1), (.int 0)] 2 = mkF m 0 #[rv x1, iv 0] [] := by first | rfl | (simp [entryFrame, mkF, argsToLocals, Value.category]; done)
theorem m22_charAt (l : Launch) (Z : State) (a0 : Array Value) (hw : HW Z a0) (x1 : Addr) (y2 : Int32) (x3 : Addr) (kk4 : ClassId) (vv5 : Value) (h0 : Heap) (n0 : Nat) (Z0 : n0 ≤ h0.size) (O0 : Old Z n0 h0) (P1 : Exa Z h0 x1 "java/lang/String") (P2 : Sta Z Z.heap "java/lang/String" "COMPACT_STRINGS" "Z" (.int y2)) (P3 : ¬ (y2 = (0 : Int32))) (P4 : Fld Z h0 x1 "java/lang/String" "coder" "B" (.int 0)) (P5 : Fld Z h0 x1 "java/lang/String" "value" "[B" (.ref x3)) (P6 : Arv Z h0 x3 kk4 .byte (1 : Int32) [(.int 69)] (.int 0)) (P7 : vv5.isRef = true) (P8 : Sta Z Z.heap s6' "SIOOBE_FORMATTER" "Ljava/util/function/BiFunction;" vv5) :
    Ctr l Z [] (⟨"java/lang/String", "charAt", "(I)C"⟩ : MethodName) jdk_42_method_56_code 2 (some .char) #[(.ref x1), (.int 0)] h0 ({ frames := 3, cells := 0, slots := 0, locals := 40 } : Room) (fun v h L => v = some (.int 69) ∧ Fr n0 L ∧ h = h0) := by
  refine Ctr.of (plainFor_of_name pn_java_lang_String) (fun m => ef_m22_charAt m x1) ?_
  intro p e s m below meth c T0 hx hZ hby hml hown hnm hret hlk X0 e0
  have N0 := Fr.nil n0
  show Aw p e below _ T0 m 0 #[rv x1, iv 0] []
  refine Rch.go (fun t k => XS.aloadN X0.here hx rfl (hb hby d12_0) rfl rfl k) ?_
  show Aw p e below _ T0 m 1 #[rv x1, iv 0] [(.ref x1)]
  obtain ⟨v1, T1, L1, X1, Q1, st1⟩ := callVi X0 hx hZ (m23_isLatin1 l Z a0 hw x1 y2 h0 n0 Z0 O0 P2 P3 P4) e0 hown (wd_86 hw) (wd_87 hw) (wd_89 hw) (notFace_of_selects (args := #[]) (mvT hZ (wd_89 hw))) (wd_88 hw) (wd_90 hw) (wd_2 hw) (by decide) (hb hby d12_1) 0 (by decide) (by decide) (by decide) (by decide) (by rw [hml]; rfl) x1 P1 [] [] rfl (lenOf pd_12 rfl) rfl (Nat.le_of_eq rfl) (Ls := #[rv x1, iv 0])
  obtain ⟨rfl, M1, e1⟩ := Q1
  have N1 := Fr.app N0 M1
  refine Rch.go st1 ?_
  show Aw p e below _ T1 m 4 #[rv x1, iv 0] [(.int 1)]
  refine Rch.go (fun t k => XS.ifNo X1.here hx rfl (hb hby d12_4) rfl (by decide) (XS.aloadN X1.here hx rfl (hb hby d12_7) rfl rfl k)) ?_
  show Aw p e below _ T1 m 8 #[rv x1, iv 0] [(.ref x1)]
  obtain ⟨T2, X2, e2, st2⟩ := getF X1 hx hZ hown (host := "") (Or.inl (wd_20 hw)) Via.refl e1 P5 (g := (mkF m 8 #[rv x1, iv 0] [(.ref x1)])) rfl rfl (hb hby d12_8)
  refine Rch.go st2 ?_
  show Aw p e below _ T2 m 11 #[rv x1, iv 0] [(.ref x3)]
  refine Rch.go (fun t k => XS.iloadN X2.here hx rfl (hb hby d12_11) rfl  k) ?_
  show Aw p e below _ T2 m 12 #[rv x1, iv 0] [(.int 0), (.ref x3)]
  obtain ⟨v3, T3, L3, X3, Q3, st3⟩ := callSt X2 hx hZ (m24_charAt l Z a0 hw x3 kk4 vv5 h0 n0 Z0 O0 P6 P7 P8) e2 hown (wd_91 hw) (wd_92 hw) (wd_93 hw) (wd_55 hw) (by decide) (hb hby d12_12) 0 (by decide) (by decide) (by decide) (by decide) (by rw [hml]; rfl) [(.ref x3), (.int 0)] [] rfl (lenOf pd_15 rfl) rfl (Nat.le_of_eq rfl) (Ls := #[rv x1, iv 0])
  obtain ⟨rfl, M3, e3⟩ := Q3
  have N3 := Fr.app N1 M3
  refine Rch.go st3 ?_
  show Aw p e below _ T3 m 15 #[rv x1, iv 0] [(.int 69)]
  refine Rch.val X3 hx (t := .char) hret hlk rfl (mayI (by simp)) (hb hby d12_15) (by decide) (by decide) ?_
  try rw [e3]
  exact ⟨rfl, N3, rfl⟩
theorem wd_85 {Z a0} (hw : HW Z a0) : (Cond.code ⟨"java/lang/String", "charAt", "(I)C"⟩ jdk_42_method_56_code (2 : Nat) (Option.some FieldType.char)).before a0 Z = true := hw.at 85 rfl
theorem wd_84 {Z a0} (hw : HW Z a0) : (Cond.selects "java/lang/String" ⟨"java/lang/String", "charAt", "(I)C"⟩ ⟨"java/lang/String", "charAt", "(I)C"⟩).before a0 Z = true := hw.at 84 rfl
theorem wd_82 {Z a0} (hw : HW Z a0) : (Cond.declares ⟨"java/lang/String", "charAt", "(I)C"⟩).before a0 Z = true := hw.at 82 rfl
theorem wd_83 {Z a0} (hw : HW Z a0) : (Cond.instanceMethod ⟨"java/lang/String", "charAt", "(I)C"⟩).before a0 Z = true := hw.at 83 rfl
theorem wd_103 {Z a0} (hw : HW Z a0) : (Cond.fieldLink s7' (31 : Nat) s1' "AT_MOST" s9').before a0 Z = true := hw.at 103 rfl
theorem ef_m30_compress (m : MethodId) (x1 x2 : Addr) : entryFrame m #[(.ref x1), (.int 0), (.ref x2), (.int 0), (.int 1)] 7 = mkF m 0 #[rv x1, iv 0, rv x2, iv 0, iv 1, uu, uu] [] := by first | rfl | (simp [entryFrame, mkF, argsToLocals, Value.category]; done)
theorem m30_compress (l : Launch) (Z : State) (a0 : Array Value) (hw : HW Z a0) (x1 x2 : Addr) (kk3 kk4 : ClassId) (h0 : Heap) (n0 : Nat) (Z0 : n0 ≤ h0.size) (O0 : Old Z n0 h0) (P1 : Arv Z h0 x1 kk3 .char (1 : Int32) [(.int 101)] (.int 0)) (P2 : Arv Z h0 x2 kk4 .byte (1 : Int32) [(.int 0)] (.int 0)) (P3 : n0 ≤ x2) :
    Ctr l Z [] (⟨s4', "compress", "([CI[BII)I"⟩ : MethodName) jdk_52_method_21_code 7 (some .int) #[(.ref x1), (.int 0), (.ref x2), (.int 0), (.int 1)] h0 ({ frames := 0, cells := 0, slots := 0, locals := 0 } : Room) (fun v h L => v = some (.int 1) ∧ Fr n0 L ∧ Keep h0 h [x2] ∧ Arv Z h x2 kk4 .byte (1 : Int32) [(.int 101)] (.int 0)) := by
  refine Ctr.of (plainFor_of_name pn_java_lang_StringUTF16) (fun m => ef_m30_compress m x1 x2) ?_
  intro p e s m below meth c T0 hx hZ hby hml hown hnm hret hlk X0 e0
  have N0 := Fr.nil n0
  show Aw p e below _ T0 m 0 #[rv x1, iv 0, rv x2, iv 0, iv 1, uu, uu] []
  refine Rch.go (fun t k => XS.iconst X0.here hx rfl (hb hby d10_0) (XS.istore X0.here hx rfl (hb hby d10_1) rfl  (l' := #[rv x1, iv 0, rv x2, iv 0, iv 1, iv 0, uu]) rfl (XS.iload X0.here hx rfl (hb hby d10_3) rfl  (XS.iload X0.here hx rfl (hb hby d10_5) rfl  (XS.icmpNo X0.here hx rfl (hb hby d10_7) rfl (by decide) (XS.aloadN X0.here hx rfl (hb hby d10_10) rfl rfl (XS.iloadN X0.here hx rfl (hb hby d10_11) rfl  k))))))) ?_
  show Aw p e below _ T0 m 12 #[rv x1, iv 0, rv x2, iv 0, iv 1, iv 0, uu] [(.int 0), (.ref x1)]
  obtain ⟨c1, r1, q1, s1, u1, H1, G1⟩ := id P1
  refine Rch.go (fun t k => X0.caload hx (j := (0 : Int32)) (v := (.int 101)) (by rw [e0]; exact r1.1) (State.isArrayOf_alike hZ.alike r1.2.1) r1.2.2 (inb_of s1 (by decide)) (H1.at (inb_of s1 (by decide)) rfl) (g := (mkF m 12 #[rv x1, iv 0, rv x2, iv 0, iv 1, iv 0, uu] [(.int 0), (.ref x1)])) rfl rfl (hb hby d10_12) t k) ?_
  show Aw p e below _ T0 m 13 #[rv x1, iv 0, rv x2, iv 0, iv 1, iv 0, uu] [(.int 101)]
  refine Rch.go (fun t k => XS.istore X0.here hx rfl (hb hby d10_13) rfl  (l' := #[rv x1, iv 0, rv x2, iv 0, iv 1, iv 0, iv 101]) rfl (XS.iload X0.here hx rfl (hb hby d10_15) rfl  (XS.sipush X0.here hx rfl (hb hby d10_17) (XS.icmpYes X0.here hx rfl (pc0 := 20) (pc' := 26) rfl (hb hby d10_20) rfl (by decide) (by decide) (by decide) (XS.aloadN X0.here hx rfl (hb hby d10_26) rfl rfl (XS.iloadN X0.here hx rfl (hb hby d10_27) rfl  (XS.iload X0.here hx rfl (hb hby d10_28) rfl  (XS.i2b X0.here hx rfl (hb hby d10_30) rfl k)))))))) ?_
  show Aw p e below _ T0 m 31 #[rv x1, iv 0, rv x2, iv 0, iv 1, iv 0, iv 101] [(.int 101), (.int 0), (.ref x2)]
  obtain ⟨c2, r2, q2, s2, u2, H2, G2⟩ := id P2
  obtain ⟨T3, h3, X3, e3, W3, st3⟩ := stB X0 hx hZ e0 r2 (j := (0 : Int32)) (inb_of s2 (by decide)) (g := (mkF m 31 #[rv x1, iv 0, rv x2, iv 0, iv 1, iv 0, iv 101] [(.int 101), (.int 0), (.ref x2)])) rfl rfl (hb hby d10_31)
  refine Rch.go st3 ?_
  have V3 : Arv Z h3 x2 kk4 .byte (1 : Int32) [(.int 101)] (.int 0) := Arv.set r2 q2 s2 u2 H2 G2 (fits_nar_byte _) W3 0 rfl (Nat.le_of_ble_eq_true rfl)
  have N3 := Fr.snoc X3 N0 P3
  show Aw p e below _ T3 m 32 #[rv x1, iv 0, rv x2, iv 0, iv 1, iv 0, iv 101] []
  refine Rch.go (fun t k => XS.iinc X3.here hx rfl (hb hby d10_32) rfl (l' := #[rv x1, iv 1, rv x2, iv 0, iv 1, iv 0, iv 101]) rfl (XS.iinc X3.here hx rfl (hb hby d10_35) rfl (l' := #[rv x1, iv 1, rv x2, iv 1, iv 1, iv 0, iv 101]) rfl (XS.iinc X3.here hx rfl (hb hby d10_38) rfl (l' := #[rv x1, iv 1, rv x2, iv 1, iv 1, iv 1, iv 101]) rfl (XS.goto X3.here hx rfl (pc0 := 41) (pc' := 3) rfl (hb hby d10_41) (by decide) (by decide) (XS.iload X3.here hx rfl (hb hby d10_3) rfl  (XS.iload X3.here hx rfl (hb hby d10_5) rfl  (XS.icmpYes X3.here hx rfl (pc0 := 7) (pc' := 44) rfl (hb hby d10_7) rfl (by decide) (by decide) (by decide) (XS.iload X3.here hx rfl (hb hby d10_44) rfl  k)))))))) ?_
  show Aw p e below _ T3 m 46 #[rv x1, iv 1, rv x2, iv 1, iv 1, iv 1, iv 101] [(.int 1)]
  refine Rch.val X3 hx (t := .int) hret hlk rfl (mayI (by simp)) (hb hby d10_46) (by decide) (by decide) ?_
  try rw [e3]
  exact ⟨rfl, N3, ((Keep.refl _ _).wr W3 (Or.inl (List.mem_of_getElem? (i := 0) rfl))), V3⟩
theorem ef_m29_compress (m : MethodId) (x1 : Addr) : entryFrame m #[(.ref x1), (.int 0), (.int 1)] 6 = mkF m 0 #[rv x1, iv 0, iv 1, uu, uu, uu] [] := by first | rfl | (simp [entryFrame, mkF, argsToLocals, Value.category]; done)
theorem m29_compress (l : Launch) (Z : State) (a0 : Array Value) (hw : HW Z a0) (x1 : Addr) (kk2 : ClassId) (h0 : Heap) (n0 : Nat) (Z0 : n0 ≤ h0.size) (O0 : Old Z n0 h0) (P1 : Arv Z h0 x1 kk2 .char (1 : Int32) [(.int 101)] (.int 0)) :
    Ctr l Z [] (⟨s4', "compress", "([CII)[B"⟩ : MethodName) jdk_52_method_16_code 6 (some (.array .byte)) #[(.ref x1), (.int 0), (.int 1)] h0 ({ frames := 1, cells := 1, slots := 1, locals := 18 } : Room) (fun v h L => ∃ (b1 : Addr) (k1 : ClassId), v = some (.ref b1) ∧ Fr n0 L ∧ Keep h0 h [] ∧ h0.size ≤ b1 ∧ Exa Z h b1 "[B" ∧ Arv Z h b1 k1 .byte (1 : Int32) [(.int 101)] (.int 0)) := by
  refine Ctr.of (plainFor_of_name pn_java_lang_StringUTF16) (fun m => ef_m29_compress m x1) ?_
  intro p e s m below meth c T0 hx hZ hby hml hown hnm hret hlk X0 e0
  have N0 := Fr.nil n0
  show Aw p e below _ T0 m 0 #[rv x1, iv 0, iv 1, uu, uu, uu] []
  refine Rch.go (fun t k => XS.iloadN X0.here hx rfl (hb hby d9_0) rfl  k) ?_
  show Aw p e below _ T0 m 1 #[rv x1, iv 0, iv 1, uu, uu, uu] [(.int 1)]
  obtain ⟨T1, h1, k1, X1, e1, E1, A1, B1, st1⟩ := newPE (aty := .byte) X0 hx hZ (wd_15 hw) e0 (g := (mkF m 1 #[rv x1, iv 0, iv 1, uu, uu, uu] [(.int 1)])) rfl (hb hby d9_1) rfl (by decide) (cap := 1) (by decide) (by decide) (by decide) (by decide) (ad := "[B") (by decide +kernel)
  obtain ⟨b1, g1⟩ : ∃ z, z = h0.size := ⟨_, rfl⟩
  rw [← g1] at A1 B1 st1
  refine Rch.go st1 ?_
  have g_b1 : n0 ≤ b1 := Nat.le_trans Z0 (Nat.le_of_eq g1.symm)
  have V1 : Arv Z h1 b1 k1 .byte (1 : Int32) [(.int 0)] (.int 0) := (Arv.new A1 (by decide)).pad (pad_rep [] (.int 0) 1)
  show Aw p e below _ T1 m 3 #[rv x1, iv 0, iv 1, uu, uu, uu] [(.ref b1)]
  refine Rch.go (fun t k => XS.astoreN X1.here hx rfl (hb hby d9_3) rfl rfl (l' := #[rv x1, iv 0, iv 1, rv b1, uu, uu]) rfl (XS.aloadN X1.here hx rfl (hb hby d9_4) rfl rfl (XS.iloadN X1.here hx rfl (hb hby d9_5) rfl  (XS.aloadN X1.here hx rfl (hb hby d9_6) rfl rfl (XS.iconst X1.here hx rfl (hb hby d9_7) (XS.iloadN X1.here hx rfl (hb hby d9_8) rfl  k)))))) ?_
  show Aw p e below _ T1 m 9 #[rv x1, iv 0, iv 1, rv b1, uu, uu] [(.int 1), (.int 0), (.ref b1), (.int 0), (.ref x1)]
  have f2 := (P1.ext E1)
  have z3 := (Nat.le_trans Z0 E1.1)
  have o4 := (O0.ext E1)
  obtain ⟨v5, T5, L5, X5, Q5, st5⟩ := callSt X1 hx hZ (m30_compress l Z a0 hw x1 b1 kk2 k1 h1 n0 z3 o4 f2 V1 g_b1) e1 hown (wd_75 hw) (wd_76 hw) (wd_77 hw) (wd_73 hw) (by decide) (hb hby d9_9) 0 (by decide) (by decide) (by decide) (by decide) (by rw [hml]; rfl) [(.ref x1), (.int 0), (.ref b1), (.int 0), (.int 1)] [] rfl (lenOf pd_9 rfl) rfl (Nat.le_of_eq rfl) (Ls := #[rv x1, iv 0, iv 1, rv b1, uu, uu])
  obtain ⟨rfl, M5, K5, F5_0⟩ := Q5
  have N5 := Fr.app N0 M5
  refine Rch.go st5 ?_
  show Aw p e below _ T5 m 12 #[rv x1, iv 0, iv 1, rv b1, uu, uu] [(.int 1)]
  refine Rch.go (fun t k => XS.istore X5.here hx rfl (hb hby d9_12) rfl  (l' := #[rv x1, iv 0, iv 1, rv b1, iv 1, uu]) rfl (XS.iload X5.here hx rfl (hb hby d9_14) rfl  (XS.iloadN X5.here hx rfl (hb hby d9_16) rfl  (XS.icmpYes X5.here hx rfl (pc0 := 17) (pc' := 57) rfl (hb hby d9_17) rfl (by decide) (by decide) (by decide) (XS.aloadN X5.here hx rfl (hb hby d9_57) rfl rfl k))))) ?_
  show Aw p e below _ T5 m 58 #[rv x1, iv 0, iv 1, rv b1, iv 1, uu] [(.ref b1)]
  have f6 := (B1.keep K5)
  refine Rch.val X5 hx (t := (.array .byte)) hret hlk rfl (Or.inr (Or.inr (Or.inr (Or.inr ⟨rfl, rfl, rfl⟩)))) (hb hby d9_58) (by decide) (by decide) ?_
  exact ⟨b1, k1, rfl, N5, (((Keep.refl _ _).ext E1).trans K5 (allS (Or.inr (Nat.le_trans (Nat.le_refl _) (Nat.le_of_eq g1.symm))) all0)), (Nat.le_trans (Nat.le_refl _) (Nat.le_of_eq g1.symm)), f6, F5_0⟩
theorem ef_m31_coderFromArrayLen (m : MethodId) (x1 : Addr) : entryFrame m #[(.ref x1), (.int 1)] 2 = mkF m 0 #[rv x1, iv 1] [] := by first | rfl | (simp [entryFrame, mkF, argsToLocals, Value.category]; done)
theorem m31_coderFromArrayLen (l : Launch) (Z : State) (a0 : Array Value) (hw : HW Z a0) (x1 : Addr) (kk2 : ClassId) (h0 : Heap) (n0 : Nat) (Z0 : n0 ≤ h0.size) (O0 : Old Z n0 h0) (P1 : Arv Z h0 x1 kk2 .byte (1 : Int32) [(.int 101)] (.int 0)) :
    Ctr l Z [] (⟨s4', "coderFromArrayLen", "([BI)B"⟩ : MethodName) jdk_52_method_15_code 2 (some .byte) #[(.ref x1), (.int 1)] h0 ({ frames := 0, cells := 0, slots := 0, locals := 0 } : Room) (fun v h L => v = some (.int 0) ∧ Fr n0 L ∧ h = h0) := by
  refine Ctr.of (plainFor_of_name pn_java_lang_StringUTF16) (fun m => ef_m31_coderFromArrayLen m x1) ?_
  intro p e s m below meth c T0 hx hZ hby hml hown hnm hret hlk X0 e0
  have N0 := Fr.nil n0
  show Aw p e below _ T0 m 0 #[rv x1, iv 1] []
  refine Rch.go (fun t k => XS.iloadN X0.here hx rfl (hb hby d11_0) rfl  (XS.aloadN X0.here hx rfl (hb hby d11_1) rfl rfl k)) ?_
  show Aw p e below _ T0 m 2 #[rv x1, iv 1] [(.ref x1), (.int 1)]
  obtain ⟨c1, r1, q1, s1, u1, H1, G1⟩ := id P1
  refine Rch.go (fun t k => X0.arraylength hx (by rw [e0]; exact r1.1) (State.isArrayOf_alike hZ.alike r1.2.1) (g := (mkF m 2 #[rv x1, iv 1] [(.ref x1), (.int 1)])) rfl rfl (hb hby d11_2) t (by rw [len_of s1 u1]; exact k)) ?_
  show Aw p e below _ T0 m 3 #[rv x1, iv 1] [(.int 1), (.int 1)]
  refine Rch.go (fun t k => XS.isub X0.here hx rfl (hb hby d11_3) rfl (XS.bipush X0.here hx rfl (hb hby d11_4) (XS.iushr X0.here hx rfl (hb hby d11_6) rfl (XS.i2b X0.here hx rfl (hb hby d11_7) rfl k)))) ?_
  show Aw p e below _ T0 m 8 #[rv x1, iv 1] [(.int 0)]
  refine Rch.val X0 hx (t := .byte) hret hlk rfl (mayI (by simp)) (hb hby d11_8) (by decide) (by decide) ?_
  try rw [e0]
  exact ⟨rfl, N0, rfl⟩
theorem ef_m28_init (m : MethodId) (x1 x2 : Addr) : entryFrame m #[(.ref x1), (.ref x2), (.int 0), (.int 1), .null] 6 = mkF m 0 #[rv x1, rv x2, iv 0, iv 1, .val .null, uu] [] := by first | rfl | (simp [entryFrame, mkF, argsToLocals, Value.category]; done)
theorem m28_init (l : Launch) (Z : State) (a0 : Array Value) (hw : HW Z a0) (x1 x2 : Addr) (y3 : Int32) (kk4 : ClassId) (h0 : Heap) (n0 : Nat) (Z0 : n0 ≤ h0.size) (O0 : Old Z n0 h0) (P1 : Sta Z Z.heap "java/lang/String" "COMPACT_STRINGS" "Z" (.int y3)) (P2 : ¬ (y3 = (0 : Int32))) (P3 : Arv Z h0 x2 kk4 .char (1 : Int32) [(.int 101)] (.int 0)) (P4 : Exa Z h0 x1 "java/lang/String") (P5 : Fld Z h0 x1 "java/lang/String" "coder" "B" (.int 0)) (P6 : n0 ≤ x1) (P7 : Fld Z h0 x1 "java/lang/String" "value" "[B" .null) :
    Ctr l Z [] (⟨"java/lang/String", "<init>", "([CIILjava/lang/Void;)V"⟩ : MethodName) jdk_42_method_149_code 6 none #[(.ref x1), (.ref x2), (.int 0), (.int 1), .null] h0 ({ frames := 2, cells := 1, slots := 1, locals := 35 } : Room) (fun v h L => ∃ (b3_0 : Addr) (k3_0 : ClassId), v = none ∧ Fr n0 L ∧ Keep h0 h [x1] ∧ h0.size ≤ b3_0 ∧ Exa Z h b3_0 "[B" ∧ Arv Z h b3_0 k3_0 .byte (1 : Int32) [(.int 101)] (.int 0) ∧ Fld Z h x1 "java/lang/String" "coder" "B" (.int 0) ∧ Fld Z h x1 "java/lang/String" "value" "[B" (.ref b3_0)) := by
  refine Ctr.of (plainFor_of_name pn_java_lang_String) (fun m => ef_m28_init m x1 x2) ?_
  intro p e s m below meth c T0 hx hZ hby hml hown hnm hret hlk X0 e0
  have N0 := Fr.nil n0
  show Aw p e below _ T0 m 0 #[rv x1, rv x2, iv 0, iv 1, .val .null, uu] []
  refine Rch.go (fun t k => XS.aloadN X0.here hx rfl (hb hby d0_0) rfl rfl k) ?_
  show Aw p e below _ T0 m 1 #[rv x1, rv x2, iv 0, iv 1, .val .null, uu] [(.ref x1)]
  obtain ⟨T1, X1, e1, st1⟩ := initO X0 hx hZ hown (wd_11 hw) (wd_12 hw) (wd_13 hw) e0 (g := (mkF m 1 #[rv x1, rv x2, iv 0, iv 1, .val .null, uu] [(.ref x1)])) rfl (by rw [hml]; rfl) rfl (hb hby d0_1) (by decide) (W := 0) (by show 2 * 0 + _ ≤ _; exact Nat.le_of_eq rfl) (by decide)
  refine Rch.go st1 ?_
  show Aw p e below _ T1 m 4 #[rv x1, rv x2, iv 0, iv 1, .val .null, uu] []
  refine Rch.go (fun t k => XS.iloadN X1.here hx rfl (hb hby d0_4) rfl  (XS.ifYes X1.here hx rfl (pc0 := 5) (pc' := 27) rfl (hb hby d0_5) rfl (by decide) (by decide) (by decide) k)) ?_
  show Aw p e below _ T1 m 27 #[rv x1, rv x2, iv 0, iv 1, .val .null, uu] []
  obtain ⟨T2, X2, e2, st2⟩ := getS2 X1 hx hZ hown (host := "") (Or.inl (wd_52 hw)) Via.refl e1 (P1.ext O0.2) (g := (mkF m 27 #[rv x1, rv x2, iv 0, iv 1, .val .null, uu] [])) rfl (hb hby d0_27)
  refine Rch.go st2 ?_
  show Aw p e below _ T2 m 30 #[rv x1, rv x2, iv 0, iv 1, .val .null, uu] [(.int y3)]
  refine Rch.go (fun t k => XS.ifNo X2.here hx rfl (hb hby d0_30) rfl (XT.i0_eq_f P2) (XS.aloadN X2.here hx rfl (hb hby d0_33) rfl rfl (XS.iloadN X2.here hx rfl (hb hby d0_34) rfl  (XS.iloadN X2.here hx rfl (hb hby d0_35) rfl  k)))) ?_
  show Aw p e below _ T2 m 36 #[rv x1, rv x2, iv 0, iv 1, .val .null, uu] [(.int 1), (.int 0), (.ref x2)]
  obtain ⟨v3, T3, L3, X3, Q3, st3⟩ := callSt X2 hx hZ (m29_compress l Z a0 hw x2 kk4 h0 n0 Z0 O0 P3) e2 hown (wd_71 hw) (wd_72 hw) (wd_74 hw) (wd_73 hw) (by decide) (hb hby d0_36) 0 (by decide) (by decide) (by decide) (by decide) (by rw [hml]; rfl) [(.ref x2), (.int 0), (.int 1)] [] rfl (lenOf pd_10 rfl) rfl (Nat.le_of_eq rfl) (Ls := #[rv x1, rv x2, iv 0, iv 1, .val .null, uu])
  obtain ⟨b3_0, k3_0, rfl, M3, K3, zz3_0, F3_0, F3_1⟩ := Q3
  have N3 := Fr.app N0 M3
  refine Rch.go st3 ?_
  have g_b3_0 : n0 ≤ b3_0 := Nat.le_trans Z0 zz3_0
  show Aw p e below _ T3 m 39 #[rv x1, rv x2, iv 0, iv 1, .val .null, uu] [(.ref b3_0)]
  refine Rch.go (fun t k => XS.astore X3.here hx rfl (hb hby d0_39) rfl rfl (l' := #[rv x1, rv x2, iv 0, iv 1, .val .null, rv b3_0]) rfl (XS.aloadN X3.here hx rfl (hb hby d0_41) rfl rfl (XS.aload X3.here hx rfl (hb hby d0_42) rfl rfl (XS.iloadN X3.here hx rfl (hb hby d0_44) rfl  k)))) ?_
  show Aw p e below _ T3 m 45 #[rv x1, rv x2, iv 0, iv 1, .val .null, rv b3_0] [(.int 1), (.ref b3_0), (.ref x1)]
  have z4 := (Nat.le_trans Z0 K3.1)
  have o5 := (O0.keep K3 all0)
  obtain ⟨v6, T6, L6, X6, Q6, st6⟩ := callSt X3 hx hZ (m31_coderFromArrayLen l Z a0 hw b3_0 k3_0 T3.heap n0 z4 o5 F3_1) rfl hown (wd_78 hw) (wd_79 hw) (wd_80 hw) (wd_73 hw) (by decide) (hb hby d0_45) 1 (by decide) (by decide) (by decide) (by decide) (by rw [hml]; rfl) [(.ref b3_0), (.int 1)] [(.ref x1)] rfl (lenOf pd_11 rfl) rfl (Nat.le_of_eq rfl) (Ls := #[rv x1, rv x2, iv 0, iv 1, .val .null, rv b3_0])
  obtain ⟨rfl, M6, e6⟩ := Q6
  have N6 := Fr.app N3 M6
  refine Rch.go st6 ?_
  show Aw p e below _ T6 m 48 #[rv x1, rv x2, iv 0, iv 1, .val .null, rv b3_0] [(.int 0), (.ref x1)]
  have f8 := (P5.keep K3 nin0)
  have f9 := (P4.keep K3)
  obtain ⟨T7, h7, X7, e7, W7, st7⟩ := putFN X6 hx hZ hown (wd_21 hw) Via.refl e6 f8 f9 (Or.inr ⟨(wd_17 hw), rfl, hnm⟩) (wd_1 hw) (ty := .byte) (v' := (.int 0)) (by decide) rfl rfl (g := (mkF m 48 #[rv x1, rv x2, iv 0, iv 1, .val .null, rv b3_0] [(.int 0), (.ref x1)])) rfl rfl (hb hby d0_48)
  refine Rch.go st7 ?_
  have F7 := f8.same W7
  have N7 := Fr.snoc X7 N6 P6
  show Aw p e below _ T7 m 51 #[rv x1, rv x2, iv 0, iv 1, .val .null, rv b3_0] []
  refine Rch.go (fun t k => XS.aloadN X7.here hx rfl (hb hby d0_51) rfl rfl (XS.aload X7.here hx rfl (hb hby d0_52) rfl rfl k)) ?_
  show Aw p e below _ T7 m 54 #[rv x1, rv x2, iv 0, iv 1, .val .null, rv b3_0] [(.ref b3_0), (.ref x1)]
  have f11 := ((P7.keep K3 nin0).other W7 (Or.inr (slot_ne (Or.inr (wd_16 hw)) (Or.inr (wd_17 hw)) (by decide) (t := (.array .byte)) (t' := .byte) (by decide) (by decide))))
  have f12 := (f9.wr W7)
  obtain ⟨T10, h10, X10, e10, W10, st10⟩ := putF X7 hx hZ hown (host := "") (Or.inl (wd_20 hw)) Via.refl e7 f11 f12 (Or.inr ⟨(wd_16 hw), rfl, hnm⟩) (wd_1 hw) (ty := (.array .byte)) (by decide) rfl rfl (g := (mkF m 54 #[rv x1, rv x2, iv 0, iv 1, .val .null, rv b3_0] [(.ref b3_0), (.ref x1)])) rfl rfl (hb hby d0_54)
  refine Rch.go st10 ?_
  have F10 := f11.same W10
  have N10 := Fr.snoc X10 N7 P6
  show Aw p e below _ T10 m 57 #[rv x1, rv x2, iv 0, iv 1, .val .null, rv b3_0] []
  have f13 := ((F3_0.wr W7).wr W10)
  have lt14 := P4.lt
  have ne15 : x1 ≠ b3_0 := Nat.ne_of_lt (Nat.lt_of_lt_of_le lt14 zz3_0)
  have f16 := ((F3_1.other W7 (Ne.symm ne15)).other W10 (Ne.symm ne15))
  have f17 := (F7.other W10 (Or.inr (slot_ne (Or.inr (wd_17 hw)) (Or.inr (wd_16 hw)) (by decide) (t := .byte) (t' := (.array .byte)) (by decide) (by decide))))
  refine Rch.void X10 hx hret hlk (hb hby d0_57) (by decide) (by decide) ?_
  try rw [e10]
  exact ⟨b3_0, k3_0, rfl, N10, ((((Keep.refl _ _).trans K3 all0).wr W7 (Or.inl (List.mem_of_getElem? (i := 0) rfl))).wr W10 (Or.inl (List.mem_of_getElem? (i := 0) rfl))), (Nat.le_trans (Nat.le_refl _) zz3_0), f13, f16, f17, F10⟩
theorem ef_m27_init (m : MethodId) (x1 x2 : Addr) : entryFrame m #[(.ref x1), (.ref x2)] 2 = mkF m 0 #[rv x1, rv x2] [] := by first | rfl | (simp [entryFrame, mkF, argsToLocals, Value.category]; done)
theorem m27_init (l : Launch) (Z : State) (a0 : Array Value) (hw : HW Z a0) (x1 x2 : Addr) (kk3 : ClassId) (y4 : Int32) (h0 : Heap) (n0 : Nat) (Z0 : n0 ≤ h0.size) (O0 : Old Z n0 h0) (P1 : Arv Z h0 x2 kk3 .char (1 : Int32) [(.int 101)] (.int 0)) (P2 : Sta Z Z.heap "java/lang/String" "COMPACT_STRINGS" "Z" (.int y4)) (P3 : ¬ (y4 = (0 : Int32))) (P4 : Exa Z h0 x1 "java/lang/String") (P5 : Fld Z h0 x1 "java/lang/String" "coder" "B" (.int 0)) (P6 : n0 ≤ x1) (P7 : Fld Z h0 x1 "java/lang/String" "value" "[B" .null) :
    Ctr l Z [] (⟨"java/lang/String", "<init>", "([C)V"⟩ : MethodName) jdk_42_method_3_code 2 none #[(.ref x1), (.ref x2)] h0 ({ frames := 3, cells := 1, slots := 1, locals := 52 } : Room) (fun v h L => ∃ (b2_0 : Addr) (k2_0 : ClassId), v = none ∧ Fr n0 L ∧ Keep h0 h [x1] ∧ h0.size ≤ b2_0 ∧ Exa Z h b2_0 "[B" ∧ Arv Z h b2_0 k2_0 .byte (1 : Int32) [(.int 101)] (.int 0) ∧ Fld Z h x1 "java/lang/String" "coder" "B" (.int 0) ∧ Fld Z h x1 "java/lang/String" "value" "[B" (.ref b2_0)) := by
  refine Ctr.of (plainFor_of_name pn_java_lang_String) (fun m => ef_m27_init m x1 x2) ?_
  intro p e s m below meth c T0 hx hZ hby hml hown hnm hret hlk X0 e0
  have N0 := Fr.nil n0
  show Aw p e below _ T0 m 0 #[rv x1, rv x2] []
  refine Rch.go (fun t k => XS.aloadN X0.here hx rfl (hb hby d1_0) rfl rfl (XS.aloadN X0.here hx rfl (hb hby d1_1) rfl rfl (XS.iconst X0.here hx rfl (hb hby d1_2) (XS.aloadN X0.here hx rfl (hb hby d1_3) rfl rfl k)))) ?_
  show Aw p e below _ T0 m 4 #[rv x1, rv x2] [(.ref x2), (.int 0), (.ref x2), (.ref x1)]
  obtain ⟨c1, r1, q1, s1, u1, H1, G1⟩ := id P1
  refine Rch.go (fun t k => X0.arraylength hx (by rw [e0]; exact r1.1) (State.isArrayOf_alike hZ.alike r1.2.1) (g := (mkF m 4 #[rv x1, rv x2] [(.ref x2), (.int 0), (.ref x2), (.ref x1)])) rfl rfl (hb hby d1_4) t (by rw [len_of s1 u1]; exact k)) ?_
  show Aw p e below _ T0 m 5 #[rv x1, rv x2] [(.int 1), (.int 0), (.ref x2), (.ref x1)]
  refine Rch.go (fun t k => XS.aconstNull X0.here hx rfl (hb hby d1_5) k) ?_
  show Aw p e below _ T0 m 6 #[rv x1, rv x2] [.null, (.int 1), (.int 0), (.ref x2), (.ref x1)]
  obtain ⟨v2, T2, L2, X2, Q2, st2⟩ := callSp X0 hx hZ (m28_init l Z a0 hw x1 x2 y4 kk3 h0 n0 Z0 O0 P2 P3 P1 P4 P5 P6 P7) e0 hown rfl (wd_7 hw) (wd_8 hw) (wd_10 hw) (wd_2 hw) (by decide) (hb hby d1_6) 0 (by decide) (by decide) (by decide) (by decide) (by rw [hml]; rfl) x1 [(.ref x2), (.int 0), (.int 1), .null] [] rfl (lenOf pd_0 rfl) rfl (Nat.le_of_eq rfl) (Ls := #[rv x1, rv x2])
  obtain ⟨b2_0, k2_0, rfl, M2, K2, zz2_0, F2_0, F2_1, F2_2, F2_3⟩ := Q2
  have N2 := Fr.app N0 M2
  refine Rch.go st2 ?_
  have g_b2_0 : n0 ≤ b2_0 := Nat.le_trans Z0 zz2_0
  show Aw p e below _ T2 m 9 #[rv x1, rv x2] []
  refine Rch.void X2 hx hret hlk (hb hby d1_9) (by decide) (by decide) ?_
  exact ⟨b2_0, k2_0, rfl, N2, ((Keep.refl _ _).trans K2 (allS (Or.inl (List.mem_of_getElem? (i := 0) rfl)) all0)), (Nat.le_trans (Nat.le_refl _) zz2_0), F2_0, F2_1, F2_2, F2_3⟩
theorem d6_24 : decode jdk_43_method_13_code 24 = .ok (.iconst 0, 1) := by decide +kernel
theorem d6_25 : decode jdk_43_method_13_code 25 = .ok (.ireturn, 1) := by decide +kernel
theorem ef_m34_equals (m : MethodId) (x1 x2 : Addr) : entryFrame m #[(.ref x1), (.ref x2)] 3 = mkF m 0 #[rv x1, rv x2, uu] [] := by first | rfl | (simp [entryFrame, mkF, argsToLocals, Value.category]; done)
theorem m34_equals (l : Launch) (Z : State) (a0 : Array Value) (hw : HW Z a0) (x1 x2 : Addr) (kk3 kk4 : ClassId) (h0 : Heap) (n0 : Nat) (Z0 : n0 ≤ h0.size) (O0 : Old Z n0 h0) (P1 : Arv Z Z.heap x1 kk3 .byte (1 : Int32) [(.int 69)] (.int 0)) (P2 : Arv Z h0 x2 kk4 .byte (1 : Int32) [(.int 101)] (.int 0)) :
    Ctr l Z [] (⟨s2', "equals", "([B[B)Z"⟩ : MethodName) jdk_43_method_13_code 3 (some .boolean) #[(.ref x1), (.ref x2)] h0 ({ frames := 0, cells := 0, slots := 0, locals := 0 } : Room) (fun v h L => v = some (.int 0) ∧ Fr n0 L ∧ h = h0) := by
  refine Ctr.of (plainFor_of_name pn_java_lang_StringLatin1) (fun m => ef_m34_equals m x1 x2) ?_
  intro p e s m below meth c T0 hx hZ hby hml hown hnm hret hlk X0 e0
  have N0 := Fr.nil n0
  show Aw p e below _ T0 m 0 #[rv x1, rv x2, uu] []
  refine Rch.go (fun t k => XS.aloadN X0.here hx rfl (hb hby d6_0) rfl rfl k) ?_
  show Aw p e below _ T0 m 1 #[rv x1, rv x2, uu] [(.ref x1)]
  obtain ⟨c1, r1, q1, s1, u1, H1, G1⟩ := id (P1.ext O0.2)
  refine Rch.go (fun t k => X0.arraylength hx (by rw [e0]; exact r1.1) (State.isArrayOf_alike hZ.alike r1.2.1) (g := (mkF m 1 #[rv x1, rv x2, uu] [(.ref x1)])) rfl rfl (hb hby d6_1) t (by rw [len_of s1 u1]; exact k)) ?_
  show Aw p e below _ T0 m 2 #[rv x1, rv x2, uu] [(.int 1)]
  refine Rch.go (fun t k => XS.aloadN X0.here hx rfl (hb hby d6_2) rfl rfl k) ?_
  show Aw p e below _ T0 m 3 #[rv x1, rv x2, uu] [(.ref x2), (.int 1)]
  obtain ⟨c2, r2, q2, s2, u2, H2, G2⟩ := id P2
  refine Rch.go (fun t k => X0.arraylength hx (by rw [e0]; exact r2.1) (State.isArrayOf_alike hZ.alike r2.2.1) (g := (mkF m 3 #[rv x1, rv x2, uu] [(.ref x2), (.int 1)])) rfl rfl (hb hby d6_3) t (by rw [len_of s2 u2]; exact k)) ?_
  show Aw p e below _ T0 m 4 #[rv x1, rv x2, uu] [(.int 1), (.int 1)]
  refine Rch.go (fun t k => XS.icmpNo X0.here hx rfl (hb hby d6_4) rfl (by decide) (XS.iconst X0.here hx rfl (hb hby d6_7) (XS.istoreN X0.here hx rfl (hb hby d6_8) rfl  (l' := #[rv x1, rv x2, iv 0]) rfl (XS.iloadN X0.here hx rfl (hb hby d6_9) rfl  (XS.aloadN X0.here hx rfl (hb hby d6_10) rfl rfl k))))) ?_
  show Aw p e below _ T0 m 11 #[rv x1, rv x2, iv 0] [(.ref x1), (.int 0)]
  obtain ⟨c3, r3, q3, s3, u3, H3, G3⟩ := id (P1.ext O0.2)
  refine Rch.go (fun t k => X0.arraylength hx (by rw [e0]; exact r3.1) (State.isArrayOf_alike hZ.alike r3.2.1) (g := (mkF m 11 #[rv x1, rv x2, iv 0] [(.ref x1), (.int 0)])) rfl rfl (hb hby d6_11) t (by rw [len_of s3 u3]; exact k)) ?_
  show Aw p e below _ T0 m 12 #[rv x1, rv x2, iv 0] [(.int 1), (.int 0)]
  refine Rch.go (fun t k => XS.icmpNo X0.here hx rfl (hb hby d6_12) rfl (by decide) (XS.aloadN X0.here hx rfl (hb hby d6_15) rfl rfl (XS.iloadN X0.here hx rfl (hb hby d6_16) rfl  k))) ?_
  show Aw p e below _ T0 m 17 #[rv x1, rv x2, iv 0] [(.int 0), (.ref x1)]
  obtain ⟨c4, r4, q4, s4, u4, H4, G4⟩ := id (P1.ext O0.2)
  refine Rch.go (fun t k => X0.baloadBytes hx (j := (0 : Int32)) (v := (.int 69)) (by rw [e0]; exact r4.1) (State.isArrayOf_alike hZ.alike r4.2.1) r4.2.2 (inb_of s4 (by decide)) (H4.at (inb_of s4 (by decide)) rfl) (g := (mkF m 17 #[rv x1, rv x2, iv 0] [(.int 0), (.ref x1)])) rfl rfl (hb hby d6_17) t k) ?_
  show Aw p e below _ T0 m 18 #[rv x1, rv x2, iv 0] [(.int 69)]
  refine Rch.go (fun t k => XS.aloadN X0.here hx rfl (hb hby d6_18) rfl rfl (XS.iloadN X0.here hx rfl (hb hby d6_19) rfl  k)) ?_
  show Aw p e below _ T0 m 20 #[rv x1, rv x2, iv 0] [(.int 0), (.ref x2), (.int 69)]
  obtain ⟨c5, r5, q5, s5, u5, H5, G5⟩ := id P2
  refine Rch.go (fun t k => X0.baloadBytes hx (j := (0 : Int32)) (v := (.int 101)) (by rw [e0]; exact r5.1) (State.isArrayOf_alike hZ.alike r5.2.1) r5.2.2 (inb_of s5 (by decide)) (H5.at (inb_of s5 (by decide)) rfl) (g := (mkF m 20 #[rv x1, rv x2, iv 0] [(.int 0), (.ref x2), (.int 69)])) rfl rfl (hb hby d6_20) t k) ?_
  show Aw p e below _ T0 m 21 #[rv x1, rv x2, iv 0] [(.int 101), (.int 69)]
  refine Rch.go (fun t k => XS.icmpNo X0.here hx rfl (hb hby d6_21) rfl (by decide) (XS.iconst X0.here hx rfl (hb hby d6_24) k)) ?_
  show Aw p e below _ T0 m 25 #[rv x1, rv x2, iv 0] [(.int 0)]
  refine Rch.val X0 hx (t := .boolean) hret hlk rfl (mayI (by simp)) (hb hby d6_25) (by decide) (by decide) ?_
  try rw [e0]
  exact ⟨rfl, N0, rfl⟩
theorem ef_m33_equals (m : MethodId) (x1 x2 : Addr) : entryFrame m #[(.ref x1), (.ref x2)] 3 = mkF m 0 #[rv x1, rv x2, uu] [] := by first | rfl | (simp [entryFrame, mkF, argsToLocals, Value.category]; done)
theorem m33_equals (l : Launch) (Z : State) (a0 : Array Value) (hw : HW Z a0) (x1 x2 : Addr) (y3 : Int32) (x4 x5 : Addr) (kk6 kk7 : ClassId) (h0 : Heap) (n0 : Nat) (Z0 : n0 ≤ h0.size) (O0 : Old Z n0 h0) (P1 : x1 ≠ x2) (P2 : Exa Z h0 x2 "java/lang/String") (P3 : Sta Z Z.heap "java/lang/String" "COMPACT_STRINGS" "Z" (.int y3)) (P4 : ¬ (y3 = (0 : Int32))) (P5 : Fld Z Z.heap x1 "java/lang/String" "coder" "B" (.int 0)) (P6 : Fld Z h0 x2 "java/lang/String" "coder" "B" (.int 0)) (P7 : Fld Z Z.heap x1 "java/lang/String" "value" "[B" (.ref x4)) (P8 : Fld Z h0 x2 "java/lang/String" "value" "[B" (.ref x5)) (P9 : Arv Z Z.heap x4 kk6 .byte (1 : Int32) [(.int 69)] (.int 0)) (P10 : Arv Z h0 x5 kk7 .byte (1 : Int32) [(.int 101)] (.int 0)) :
    Ctr l Z [] (⟨"java/lang/String", "equals", s5'⟩ : MethodName) jdk_42_method_66_code 3 (some .boolean) #[(.ref x1), (.ref x2)] h0 ({ frames := 1, cells := 0, slots := 0, locals := 14 } : Room) (fun v h L => v = some (.int 0) ∧ Fr n0 L ∧ h = h0) := by
  refine Ctr.of (plainFor_of_name pn_java_lang_String) (fun m => ef_m33_equals m x1 x2) ?_
  intro p e s m below meth c T0 hx hZ hby hml hown hnm hret hlk X0 e0
  have N0 := Fr.nil n0
  show Aw p e below _ T0 m 0 #[rv x1, rv x2, uu] []
  refine Rch.go (fun t k => XS.aloadN X0.here hx rfl (hb hby d5_0) rfl rfl (XS.aloadN X0.here hx rfl (hb hby d5_1) rfl rfl (acmp X0 hx rfl (x := (.ref x1)) (y := (.ref x2)) rfl rfl (pc0 := 2) (pc' := 7) (same := false) rfl (hb hby d5_2) rfl (decide_eq_false (fun q => absurd (Value.ref.inj q) P1)) (by decide) (by decide) (XS.aloadN X0.here hx rfl (hb hby d5_7) rfl rfl k)))) ?_
  show Aw p e below _ T0 m 8 #[rv x1, rv x2, uu] [(.ref x2)]
  obtain ⟨T1, X1, e1, st1⟩ := instY X0 hx hZ hown (wd_51 hw) e0 (Ins.self P2) (g := (mkF m 8 #[rv x1, rv x2, uu] [(.ref x2)])) rfl rfl (hb hby d5_8)
  refine Rch.go st1 ?_
  show Aw p e below _ T1 m 11 #[rv x1, rv x2, uu] [(.int 1)]
  refine Rch.go (fun t k => XS.ifNo X1.here hx rfl (hb hby d5_11) rfl (by decide) (XS.aloadN X1.here hx rfl (hb hby d5_14) rfl rfl k)) ?_
  show Aw p e below _ T1 m 15 #[rv x1, rv x2, uu] [(.ref x2)]
  obtain ⟨T2, X2, e2, st2⟩ := castY X1 hx hZ hown (wd_51 hw) e1 (Ins.self P2) (g := (mkF m 15 #[rv x1, rv x2, uu] [(.ref x2)])) rfl rfl (hb hby d5_15)
  refine Rch.go st2 ?_
  show Aw p e below _ T2 m 18 #[rv x1, rv x2, uu] [(.ref x2)]
  refine Rch.go (fun t k => XS.astoreN X2.here hx rfl (hb hby d5_18) rfl rfl (l' := #[rv x1, rv x2, rv x2]) rfl k) ?_
  show Aw p e below _ T2 m 19 #[rv x1, rv x2, rv x2] []
  obtain ⟨T3, X3, e3, st3⟩ := getS2 X2 hx hZ hown (host := "") (Or.inl (wd_52 hw)) Via.refl e2 (P3.ext O0.2) (g := (mkF m 19 #[rv x1, rv x2, rv x2] [])) rfl (hb hby d5_19)
  refine Rch.go st3 ?_
  show Aw p e below _ T3 m 22 #[rv x1, rv x2, rv x2] [(.int y3)]
  refine Rch.go (fun t k => XS.ifNo X3.here hx rfl (hb hby d5_22) rfl (XT.i0_eq_f P4) (XS.aloadN X3.here hx rfl (hb hby d5_25) rfl rfl k)) ?_
  show Aw p e below _ T3 m 26 #[rv x1, rv x2, rv x2] [(.ref x1)]
  obtain ⟨T4, X4, e4, st4⟩ := getF X3 hx hZ hown (host := "") (Or.inl (wd_21 hw)) Via.refl e3 (P5.ext O0.2) (g := (mkF m 26 #[rv x1, rv x2, rv x2] [(.ref x1)])) rfl rfl (hb hby d5_26)
  refine Rch.go st4 ?_
  show Aw p e below _ T4 m 29 #[rv x1, rv x2, rv x2] [(.int 0)]
  refine Rch.go (fun t k => XS.aloadN X4.here hx rfl (hb hby d5_29) rfl rfl k) ?_
  show Aw p e below _ T4 m 30 #[rv x1, rv x2, rv x2] [(.ref x2), (.int 0)]
  obtain ⟨T5, X5, e5, st5⟩ := getF X4 hx hZ hown (host := "") (Or.inl (wd_21 hw)) Via.refl e4 P6 (g := (mkF m 30 #[rv x1, rv x2, rv x2] [(.ref x2), (.int 0)])) rfl rfl (hb hby d5_30)
  refine Rch.go st5 ?_
  show Aw p e below _ T5 m 33 #[rv x1, rv x2, rv x2] [(.int 0), (.int 0)]
  refine Rch.go (fun t k => XS.icmpNo X5.here hx rfl (hb hby d5_33) rfl (by decide) (XS.aloadN X5.here hx rfl (hb hby d5_36) rfl rfl k)) ?_
  show Aw p e below _ T5 m 37 #[rv x1, rv x2, rv x2] [(.ref x1)]
  obtain ⟨T6, X6, e6, st6⟩ := getF X5 hx hZ hown (host := "") (Or.inl (wd_20 hw)) Via.refl e5 (P7.ext O0.2) (g := (mkF m 37 #[rv x1, rv x2, rv x2] [(.ref x1)])) rfl rfl (hb hby d5_37)
  refine Rch.go st6 ?_
  show Aw p e below _ T6 m 40 #[rv x1, rv x2, rv x2] [(.ref x4)]
  refine Rch.go (fun t k => XS.aloadN X6.here hx rfl (hb hby d5_40) rfl rfl k) ?_
  show Aw p e below _ T6 m 41 #[rv x1, rv x2, rv x2] [(.ref x2), (.ref x4)]
  obtain ⟨T7, X7, e7, st7⟩ := getF X6 hx hZ hown (host := "") (Or.inl (wd_20 hw)) Via.refl e6 P8 (g := (mkF m 41 #[rv x1, rv x2, rv x2] [(.ref x2), (.ref x4)])) rfl rfl (hb hby d5_41)
  refine Rch.go st7 ?_
  show Aw p e below _ T7 m 44 #[rv x1, rv x2, rv x2] [(.ref x5), (.ref x4)]
  obtain ⟨v8, T8, L8, X8, Q8, st8⟩ := callSt X7 hx hZ (m34_equals l Z a0 hw x4 x5 kk6 kk7 h0 n0 Z0 O0 P9 P10) e7 hown (wd_53 hw) (wd_54 hw) (wd_56 hw) (wd_55 hw) (by decide) (hb hby d5_44) 0 (by decide) (by decide) (by decide) (by decide) (by rw [hml]; rfl) [(.ref x4), (.ref x5)] [] rfl (lenOf pd_5 rfl) rfl (Nat.le_of_eq rfl) (Ls := #[rv x1, rv x2, rv x2])
  obtain ⟨rfl, M8, e8⟩ := Q8
  have N8 := Fr.app N0 M8
  refine Rch.go st8 ?_
  show Aw p e below _ T8 m 47 #[rv x1, rv x2, rv x2] [(.int 0)]
  refine Rch.go (fun t k => XS.ifYes X8.here hx rfl (pc0 := 47) (pc' := 54) rfl (hb hby d5_47) rfl (by decide) (by decide) (by decide) (XS.iconst X8.here hx rfl (hb hby d5_54) k)) ?_
  show Aw p e below _ T8 m 55 #[rv x1, rv x2, rv x2] [(.int 0)]
  refine Rch.val X8 hx (t := .boolean) hret hlk rfl (mayI (by simp)) (hb hby d5_55) (by decide) (by decide) ?_
  try rw [e8]
  exact ⟨rfl, N8, rfl⟩
theorem ef_m36_equals (m : MethodId) (x1 x2 : Addr) : entryFrame m #[(.ref x1), (.ref x2)] 3 = mkF m 0 #[rv x1, rv x2, uu] [] := by first | rfl | (simp [entryFrame, mkF, argsToLocals, Value.category]; done)
theorem m36_equals (l : Launch) (Z : State) (a0 : Array Value) (hw : HW Z a0) (x1 x2 : Addr) (kk3 kk4 : ClassId) (h0 : Heap) (n0 : Nat) (Z0 : n0 ≤ h0.size) (O0 : Old Z n0 h0) (P1 : Arv Z Z.heap x1 kk3 .byte (1 : Int32) [(.int 101)] (.int 0)) (P2 : Arv Z h0 x2 kk4 .byte (1 : Int32) [(.int 101)] (.int 0)) :
    Ctr l Z [] (⟨s2', "equals", "([B[B)Z"⟩ : MethodName) jdk_43_method_13_code 3 (some .boolean) #[(.ref x1), (.ref x2)] h0 ({ frames := 0, cells := 0, slots := 0, locals := 0 } : Room) (fun v h L => v = some (.int 1) ∧ Fr n0 L ∧ h = h0) := by
  refine Ctr.of (plainFor_of_name pn_java_lang_StringLatin1) (fun m => ef_m36_equals m x1 x2) ?_
  intro p e s m below meth c T0 hx hZ hby hml hown hnm hret hlk X0 e0
  have N0 := Fr.nil n0
  show Aw p e below _ T0 m 0 #[rv x1, rv x2, uu] []
  refine Rch.go (fun t k => XS.aloadN X0.here hx rfl (hb hby d6_0) rfl rfl k) ?_
  show Aw p e below _ T0 m 1 #[rv x1, rv x2, uu] [(.ref x1)]
  obtain ⟨c1, r1, q1, s1, u1, H1, G1⟩ := id (P1.ext O0.2)
  refine Rch.go (fun t k => X0.arraylength hx (by rw [e0]; exact r1.1) (State.isArrayOf_alike hZ.alike r1.2.1) (g := (mkF m 1 #[rv x1, rv x2, uu] [(.ref x1)])) rfl rfl (hb hby d6_1) t (by rw [len_of s1 u1]; exact k)) ?_
  show Aw p e below _ T0 m 2 #[rv x1, rv x2, uu] [(.int 1)]
  refine Rch.go (fun t k => XS.aloadN X0.here hx rfl (hb hby d6_2) rfl rfl k) ?_
  show Aw p e below _ T0 m 3 #[rv x1, rv x2, uu] [(.ref x2), (.int 1)]
  obtain ⟨c2, r2, q2, s2, u2, H2, G2⟩ := id P2
  refine Rch.go (fun t k => X0.arraylength hx (by rw [e0]; exact r2.1) (State.isArrayOf_alike hZ.alike r2.2.1) (g := (mkF m 3 #[rv x1, rv x2, uu] [(.ref x2), (.int 1)])) rfl rfl (hb hby d6_3) t (by rw [len_of s2 u2]; exact k)) ?_
  show Aw p e below _ T0 m 4 #[rv x1, rv x2, uu] [(.int 1), (.int 1)]
  refine Rch.go (fun t k => XS.icmpNo X0.here hx rfl (hb hby d6_4) rfl (by decide) (XS.iconst X0.here hx rfl (hb hby d6_7) (XS.istoreN X0.here hx rfl (hb hby d6_8) rfl  (l' := #[rv x1, rv x2, iv 0]) rfl (XS.iloadN X0.here hx rfl (hb hby d6_9) rfl  (XS.aloadN X0.here hx rfl (hb hby d6_10) rfl rfl k))))) ?_
  show Aw p e below _ T0 m 11 #[rv x1, rv x2, iv 0] [(.ref x1), (.int 0)]
  obtain ⟨c3, r3, q3, s3, u3, H3, G3⟩ := id (P1.ext O0.2)
  refine Rch.go (fun t k => X0.arraylength hx (by rw [e0]; exact r3.1) (State.isArrayOf_alike hZ.alike r3.2.1) (g := (mkF m 11 #[rv x1, rv x2, iv 0] [(.ref x1), (.int 0)])) rfl rfl (hb hby d6_11) t (by rw [len_of s3 u3]; exact k)) ?_
  show Aw p e below _ T0 m 12 #[rv x1, rv x2, iv 0] [(.int 1), (.int 0)]
  refine Rch.go (fun t k => XS.icmpNo X0.here hx rfl (hb hby d6_12) rfl (by decide) (XS.aloadN X0.here hx rfl (hb hby d6_15) rfl rfl (XS.iloadN X0.here hx rfl (hb hby d6_16) rfl  k))) ?_
  show Aw p e below _ T0 m 17 #[rv x1, rv x2, iv 0] [(.int 0), (.ref x1)]
  obtain ⟨c4, r4, q4, s4, u4, H4, G4⟩ := id (P1.ext O0.2)
  refine Rch.go (fun t k => X0.baloadBytes hx (j := (0 : Int32)) (v := (.int 101)) (by rw [e0]; exact r4.1) (State.isArrayOf_alike hZ.alike r4.2.1) r4.2.2 (inb_of s4 (by decide)) (H4.at (inb_of s4 (by decide)) rfl) (g := (mkF m 17 #[rv x1, rv x2, iv 0] [(.int 0), (.ref x1)])) rfl rfl (hb hby d6_17) t k) ?_
  show Aw p e below _ T0 m 18 #[rv x1, rv x2, iv 0] [(.int 101)]
  refine Rch.go (fun t k => XS.aloadN X0.here hx rfl (hb hby d6_18) rfl rfl (XS.iloadN X0.here hx rfl (hb hby d6_19) rfl  k)) ?_
  show Aw p e below _ T0 m 20 #[rv x1, rv x2, iv 0] [(.int 0), (.ref x2), (.int 101)]
  obtain ⟨c5, r5, q5, s5, u5, H5, G5⟩ := id P2
  refine Rch.go (fun t k => X0.baloadBytes hx (j := (0 : Int32)) (v := (.int 101)) (by rw [e0]; exact r5.1) (State.isArrayOf_alike hZ.alike r5.2.1) r5.2.2 (inb_of s5 (by decide)) (H5.at (inb_of s5 (by decide)) rfl) (g := (mkF m 20 #[rv x1, rv x2, iv 0] [(.int 0), (.ref x2), (.int 101)])) rfl rfl (hb hby d6_20) t k) ?_
  show Aw p e below _ T0 m 21 #[rv x1, rv x2, iv 0] [(.int 101), (.int 101)]
  refine Rch.go (fun t k => XS.icmpYes X0.here hx rfl (pc0 := 21) (pc' := 26) rfl (hb hby d6_21) rfl (by decide) (by decide) (by decide) (XS.iinc X0.here hx rfl (hb hby d6_26) rfl (l' := #[rv x1, rv x2, iv 1]) rfl (XS.goto X0.here hx rfl (pc0 := 29) (pc' := 9) rfl (hb hby d6_29) (by decide) (by decide) (XS.iloadN X0.here hx rfl (hb hby d6_9) rfl  (XS.aloadN X0.here hx rfl (hb hby d6_10) rfl rfl k))))) ?_
  show Aw p e below _ T0 m 11 #[rv x1, rv x2, iv 1] [(.ref x1), (.int 1)]
  obtain ⟨c6, r6, q6, s6, u6, H6, G6⟩ := id (P1.ext O0.2)
  refine Rch.go (fun t k => X0.arraylength hx (by rw [e0]; exact r6.1) (State.isArrayOf_alike hZ.alike r6.2.1) (g := (mkF m 11 #[rv x1, rv x2, iv 1] [(.ref x1), (.int 1)])) rfl rfl (hb hby d6_11) t (by rw [len_of s6 u6]; exact k)) ?_
  show Aw p e below _ T0 m 12 #[rv x1, rv x2, iv 1] [(.int 1), (.int 1)]
  refine Rch.go (fun t k => XS.icmpYes X0.here hx rfl (pc0 := 12) (pc' := 32) rfl (hb hby d6_12) rfl (by decide) (by decide) (by decide) (XS.iconst X0.here hx rfl (hb hby d6_32) k)) ?_
  show Aw p e below _ T0 m 33 #[rv x1, rv x2, iv 1] [(.int 1)]
  refine Rch.val X0 hx (t := .boolean) hret hlk rfl (mayI (by simp)) (hb hby d6_33) (by decide) (by decide) ?_
  try rw [e0]
  exact ⟨rfl, N0, rfl⟩
theorem ef_m35_equals (m : MethodId) (x1 x2 : Addr) : entryFrame m #[(.ref x1), (.ref x2)] 3 = mkF m 0 #[rv x1, rv x2, uu] [] := by first | rfl | (simp [entryFrame, mkF, argsToLocals, Value.category]; done)
theorem m35_equals (l : Launch) (Z : State) (a0 : Array Value) (hw : HW Z a0) (x1 x2 : Addr) (y3 : Int32) (x4 x5 : Addr) (kk6 kk7 : ClassId) (h0 : Heap) (n0 : Nat) (Z0 : n0 ≤ h0.size) (O0 : Old Z n0 h0) (P1 : x1 ≠ x2) (P2 : Exa Z h0 x2 "java/lang/String") (P3 : Sta Z Z.heap "java/lang/String" "COMPACT_STRINGS" "Z" (.int y3)) (P4 : ¬ (y3 = (0 : Int32))) (P5 : Fld Z Z.heap x1 "java/lang/String" "coder" "B" (.int 0)) (P6 : Fld Z h0 x2 "java/lang/String" "coder" "B" (.int 0)) (P7 : Fld Z Z.heap x1 "java/lang/String" "value" "[B" (.ref x4)) (P8 : Fld Z h0 x2 "java/lang/String" "value" "[B" (.ref x5)) (P9 : Arv Z Z.heap x4 kk6 .byte (1 : Int32) [(.int 101)] (.int 0)) (P10 : Arv Z h0 x5 kk7 .byte (1 : Int32) [(.int 101)] (.int 0)) :
    Ctr l Z [] (⟨"java/lang/String", "equals", s5'⟩ : MethodName) jdk_42_method_66_code 3 (some .boolean) #[(.ref x1), (.ref x2)] h0 ({ frames := 1, cells := 0, slots := 0, locals := 14 } : Room) (fun v h L => v = some (.int 1) ∧ Fr n0 L ∧ h = h0) := by
  refine Ctr.of (plainFor_of_name pn_java_lang_String) (fun m => ef_m35_equals m x1 x2) ?_
  intro p e s m below meth c T0 hx hZ hby hml hown hnm hret hlk X0 e0
  have N0 := Fr.nil n0
  show Aw p e below _ T0 m 0 #[rv x1, rv x2, uu] []
  refine Rch.go (fun t k => XS.aloadN X0.here hx rfl (hb hby d5_0) rfl rfl (XS.aloadN X0.here hx rfl (hb hby d5_1) rfl rfl (acmp X0 hx rfl (x := (.ref x1)) (y := (.ref x2)) rfl rfl (pc0 := 2) (pc' := 7) (same := false) rfl (hb hby d5_2) rfl (decide_eq_false (fun q => absurd (Value.ref.inj q) P1)) (by decide) (by decide) (XS.aloadN X0.here hx rfl (hb hby d5_7) rfl rfl k)))) ?_
  show Aw p e below _ T0 m 8 #[rv x1, rv x2, uu] [(.ref x2)]
  obtain ⟨T1, X1, e1, st1⟩ := instY X0 hx hZ hown (wd_51 hw) e0 (Ins.self P2) (g := (mkF m 8 #[rv x1, rv x2, uu] [(.ref x2)])) rfl rfl (hb hby d5_8)
  refine Rch.go st1 ?_
  show Aw p e below _ T1 m 11 #[rv x1, rv x2, uu] [(.int 1)]
  refine Rch.go (fun t k => XS.ifNo X1.here hx rfl (hb hby d5_11) rfl (by decide) (XS.aloadN X1.here hx rfl (hb hby d5_14) rfl rfl k)) ?_
  show Aw p e below _ T1 m 15 #[rv x1, rv x2, uu] [(.ref x2)]
  obtain ⟨T2, X2, e2, st2⟩ := castY X1 hx hZ hown (wd_51 hw) e1 (Ins.self P2) (g := (mkF m 15 #[rv x1, rv x2, uu] [(.ref x2)])) rfl rfl (hb hby d5_15)
  refine Rch.go st2 ?_
  show Aw p e below _ T2 m 18 #[rv x1, rv x2, uu] [(.ref x2)]
  refine Rch.go (fun t k => XS.astoreN X2.here hx rfl (hb hby d5_18) rfl rfl (l' := #[rv x1, rv x2, rv x2]) rfl k) ?_
  show Aw p e below _ T2 m 19 #[rv x1, rv x2, rv x2] []
  obtain ⟨T3, X3, e3, st3⟩ := getS2 X2 hx hZ hown (host := "") (Or.inl (wd_52 hw)) Via.refl e2 (P3.ext O0.2) (g := (mkF m 19 #[rv x1, rv x2, rv x2] [])) rfl (hb hby d5_19)
  refine Rch.go st3 ?_
  show Aw p e below _ T3 m 22 #[rv x1, rv x2, rv x2] [(.int y3)]
  refine Rch.go (fun t k => XS.ifNo X3.here hx rfl (hb hby d5_22) rfl (XT.i0_eq_f P4) (XS.aloadN X3.here hx rfl (hb hby d5_25) rfl rfl k)) ?_
  show Aw p e below _ T3 m 26 #[rv x1, rv x2, rv x2] [(.ref x1)]
  obtain ⟨T4, X4, e4, st4⟩ := getF X3 hx hZ hown (host := "") (Or.inl (wd_21 hw)) Via.refl e3 (P5.ext O0.2) (g := (mkF m 26 #[rv x1, rv x2, rv x2] [(.ref x1)])) rfl rfl (hb hby d5_26)
  refine Rch.go st4 ?_
  show Aw p e below _ T4 m 29 #[rv x1, rv x2, rv x2] [(.int 0)]
  refine Rch.go (fun t k => XS.aloadN X4.here hx rfl (hb hby d5_29) rfl rfl k) ?_
  show Aw p e below _ T4 m 30 #[rv x1, rv x2, rv x2] [(.ref x2), (.int 0)]
  obtain ⟨T5, X5, e5, st5⟩ := getF X4 hx hZ hown (host := "") (Or.inl (wd_21 hw)) Via.refl e4 P6 (g := (mkF m 30 #[rv x1, rv x2, rv x2] [(.ref x2), (.int 0)])) rfl rfl (hb hby d5_30)
  refine Rch.go st5 ?_
  show Aw p e below _ T5 m 33 #[rv x1, rv x2, rv x2] [(.int 0), (.int 0)]
  refine Rch.go (fun t k => XS.icmpNo X5.here hx rfl (hb hby d5_33) rfl (by decide) (XS.aloadN X5.here hx rfl (hb hby d5_36) rfl rfl k)) ?_
  show Aw p e below _ T5 m 37 #[rv x1, rv x2, rv x2] [(.ref x1)]
  obtain ⟨T6, X6, e6, st6⟩ := getF X5 hx hZ hown (host := "") (Or.inl (wd_20 hw)) Via.refl e5 (P7.ext O0.2) (g := (mkF m 37 #[rv x1, rv x2, rv x2] [(.ref x1)])) rfl rfl (hb hby d5_37)
  refine Rch.go st6 ?_
  show Aw p e below _ T6 m 40 #[rv x1, rv x2, rv x2] [(.ref x4)]
  refine Rch.go (fun t k => XS.aloadN X6.here hx rfl (hb hby d5_40) rfl rfl k) ?_
  show Aw p e below _ T6 m 41 #[rv x1, rv x2, rv x2] [(.ref x2), (.ref x4)]
  obtain ⟨T7, X7, e7, st7⟩ := getF X6 hx hZ hown (host := "") (Or.inl (wd_20 hw)) Via.refl e6 P8 (g := (mkF m 41 #[rv x1, rv x2, rv x2] [(.ref x2), (.ref x4)])) rfl rfl (hb hby d5_41)
  refine Rch.go st7 ?_
  show Aw p e below _ T7 m 44 #[rv x1, rv x2, rv x2] [(.ref x5), (.ref x4)]
  obtain ⟨v8, T8, L8, X8, Q8, st8⟩ := callSt X7 hx hZ (m36_equals l Z a0 hw x4 x5 kk6 kk7 h0 n0 Z0 O0 P9 P10) e7 hown (wd_53 hw) (wd_54 hw) (wd_56 hw) (wd_55 hw) (by decide) (hb hby d5_44) 0 (by decide) (by decide) (by decide) (by decide) (by rw [hml]; rfl) [(.ref x4), (.ref x5)] [] rfl (lenOf pd_5 rfl) rfl (Nat.le_of_eq rfl) (Ls := #[rv x1, rv x2, rv x2])
  obtain ⟨rfl, M8, e8⟩ := Q8
  have N8 := Fr.app N0 M8
  refine Rch.go st8 ?_
  show Aw p e below _ T8 m 47 #[rv x1, rv x2, rv x2] [(.int 1)]
  refine Rch.go (fun t k => XS.ifNo X8.here hx rfl (hb hby d5_47) rfl (by decide) (XS.iconst X8.here hx rfl (hb hby d5_50) (XS.goto X8.here hx rfl (pc0 := 51) (pc' := 55) rfl (hb hby d5_51) (by decide) (by decide) k))) ?_
  show Aw p e below _ T8 m 55 #[rv x1, rv x2, rv x2] [(.int 1)]
  refine Rch.val X8 hx (t := .boolean) hret hlk rfl (mayI (by simp)) (hb hby d5_55) (by decide) (by decide) ?_
  try rw [e8]
  exact ⟨rfl, N8, rfl⟩
theorem ef_m32_of (m : MethodId) (x1 : Addr) : entryFrame m #[(.ref x1)] 5 = mkF m 0 #[rv x1, uu, uu, uu, uu] [] := by first | rfl | (simp [entryFrame, mkF, argsToLocals, Value.category]; done)
theorem m32_of (l : Launch) (Z : State) (a0 : Array Value) (hw : HW Z a0) (x1 x2 : Addr) (kk3 : ClassId) (x4 x5 x6 x7 : Addr) (y8 : Int32) (x9 x10 : Addr) (kk11 kk12 : ClassId) (x13 x14 : Addr) (kk15 : ClassId) (h0 : Heap) (n0 : Nat) (Z0 : n0 ≤ h0.size) (O0 : Old Z n0 h0) (P1 : Sta Z Z.heap s1' "$VALUES" s3' (.ref x2)) (P2 : Arv Z Z.heap x2 kk3 (.object s1') (3 : Int32) [(.ref x4), (.ref x5), (.ref x6)] .null) (P3 : Exa Z Z.heap x2 s3') (P4 : Fld Z Z.heap x4 s1' "text" "Ljava/lang/String;" (.ref x7)) (P5 : Exa Z Z.heap x7 "java/lang/String") (P6 : x7 ≠ x1) (P7 : Exa Z h0 x1 "java/lang/String") (P8 : Sta Z Z.heap "java/lang/String" "COMPACT_STRINGS" "Z" (.int y8)) (P9 : ¬ (y8 = (0 : Int32))) (P10 : Fld Z Z.heap x7 "java/lang/String" "coder" "B" (.int 0)) (P11 : Fld Z h0 x1 "java/lang/String" "coder" "B" (.int 0)) (P12 : Fld Z Z.heap x7 "java/lang/String" "value" "[B" (.ref x9)) (P13 : Fld Z h0 x1 "java/lang/String" "value" "[B" (.ref x10)) (P14 : Arv Z Z.heap x9 kk11 .byte (1 : Int32) [(.int 69)] (.int 0)) (P15 : Arv Z h0 x10 kk12 .byte (1 : Int32) [(.int 101)] (.int 0)) (P16 : Fld Z Z.heap x5 s1' "text" "Ljava/lang/String;" (.ref x13)) (P17 : Exa Z Z.heap x13 "java/lang/String") (P18 : x13 ≠ x1) (P19 : Fld Z Z.heap x13 "java/lang/String" "coder" "B" (.int 0)) (P20 : Fld Z Z.heap x13 "java/lang/String" "value" "[B" (.ref x14)) (P21 : Arv Z Z.heap x14 kk15 .byte (1 : Int32) [(.int 101)] (.int 0)) :
    Ctr l Z [] (⟨s1', "of", s8'⟩ : MethodName) prog_61_method_4_code 5 (some (.object s1')) #[(.ref x1)] h0 ({ frames := 2, cells := 1, slots := 3, locals := 28 } : Room) (fun v h L => v = some (.ref x5) ∧ Fr n0 L ∧ Keep h0 h []) := by
  refine Ctr.of (plainFor_of_name pn_com_example_knit_theories_knittheories_model_Gather) (fun m => ef_m32_of m x1) ?_
  intro p e s m below meth c T0 hx hZ hby hml hown hnm hret hlk X0 e0
  have N0 := Fr.nil n0
  show Aw p e below _ T0 m 0 #[rv x1, uu, uu, uu, uu] []
  obtain ⟨v1, T1, L1, X1, Q1, st1⟩ := callSt X0 hx hZ (m2_values l Z a0 hw x2 kk3 x4 x5 x6 h0 n0 Z0 O0 P1 P2 P3) e0 hown (wd_26 hw) (wd_27 hw) (wd_28 hw) (wd_24 hw) (by decide) (hb hby d3_0) 0 (by decide) (by decide) (by decide) (by decide) (by rw [hml]; rfl) [] [] rfl (lenOf pd_1 rfl) rfl (Nat.le_of_eq rfl) (Ls := #[rv x1, uu, uu, uu, uu])
  obtain ⟨b1_0, rfl, M1, K1, zz1_0, F1_0, F1_1⟩ := Q1
  have N1 := Fr.app N0 M1
  refine Rch.go st1 ?_
  have g_b1_0 : n0 ≤ b1_0 := Nat.le_trans Z0 zz1_0
  show Aw p e below _ T1 m 3 #[rv x1, uu, uu, uu, uu] [(.ref b1_0)]
  refine Rch.go (fun t k => XS.astoreN X1.here hx rfl (hb hby d3_3) rfl rfl (l' := #[rv x1, rv b1_0, uu, uu, uu]) rfl (XS.aloadN X1.here hx rfl (hb hby d3_4) rfl rfl k)) ?_
  show Aw p e below _ T1 m 5 #[rv x1, rv b1_0, uu, uu, uu] [(.ref b1_0)]
  obtain ⟨c2, r2, q2, s2, u2, H2, G2⟩ := id F1_1
  refine Rch.go (fun t k => X1.arraylength hx r2.1 (State.isArrayOf_alike hZ.alike r2.2.1) (g := (mkF m 5 #[rv x1, rv b1_0, uu, uu, uu] [(.ref b1_0)])) rfl rfl (hb hby d3_5) t (by rw [len_of s2 u2]; exact k)) ?_
  show Aw p e below _ T1 m 6 #[rv x1, rv b1_0, uu, uu, uu] [(.int 3)]
  refine Rch.go (fun t k => XS.istoreN X1.here hx rfl (hb hby d3_6) rfl  (l' := #[rv x1, rv b1_0, iv 3, uu, uu]) rfl (XS.iconst X1.here hx rfl (hb hby d3_7) (XS.istoreN X1.here hx rfl (hb hby d3_8) rfl  (l' := #[rv x1, rv b1_0, iv 3, iv 0, uu]) rfl (XS.iloadN X1.here hx rfl (hb hby d3_9) rfl  (XS.iloadN X1.here hx rfl (hb hby d3_10) rfl  (XS.icmpNo X1.here hx rfl (hb hby d3_11) rfl (by decide) (XS.aloadN X1.here hx rfl (hb hby d3_14) rfl rfl (XS.iloadN X1.here hx rfl (hb hby d3_15) rfl  k)))))))) ?_
  show Aw p e below _ T1 m 16 #[rv x1, rv b1_0, iv 3, iv 0, uu] [(.int 0), (.ref b1_0)]
  obtain ⟨c3, r3, q3, s3, u3, H3, G3⟩ := id F1_1
  refine Rch.go (fun t k => X1.aaload hx (j := (0 : Int32)) (v := (.ref x4)) r3.1 (State.isArrayOf_alike hZ.alike r3.2.1) rfl r3.2.2 (inb_of s3 (by decide)) (H3.at (inb_of s3 (by decide)) rfl) (g := (mkF m 16 #[rv x1, rv b1_0, iv 3, iv 0, uu] [(.int 0), (.ref b1_0)])) rfl rfl (hb hby d3_16) t k) ?_
  show Aw p e below _ T1 m 17 #[rv x1, rv b1_0, iv 3, iv 0, uu] [(.ref x4)]
  refine Rch.go (fun t k => XS.astore X1.here hx rfl (hb hby d3_17) rfl rfl (l' := #[rv x1, rv b1_0, iv 3, iv 0, rv x4]) rfl (XS.aload X1.here hx rfl (hb hby d3_19) rfl rfl k)) ?_
  show Aw p e below _ T1 m 21 #[rv x1, rv b1_0, iv 3, iv 0, rv x4] [(.ref x4)]
  have o5 := (O0.keep K1 all0)
  obtain ⟨T4, X4, e4, st4⟩ := getF X1 hx hZ hown (host := "") (Or.inl (wd_44 hw)) Via.refl rfl (P4.ext o5.2) (g := (mkF m 21 #[rv x1, rv b1_0, iv 3, iv 0, rv x4] [(.ref x4)])) rfl rfl (hb hby d3_21)
  refine Rch.go st4 ?_
  show Aw p e below _ T4 m 24 #[rv x1, rv b1_0, iv 3, iv 0, rv x4] [(.ref x7)]
  refine Rch.go (fun t k => XS.aloadN X4.here hx rfl (hb hby d3_24) rfl rfl k) ?_
  show Aw p e below _ T4 m 25 #[rv x1, rv b1_0, iv 3, iv 0, rv x4] [(.ref x1), (.ref x7)]
  have f6 := (P7.keep K1)
  have f7 := (P11.keep K1 nin0)
  have f8 := (P13.keep K1 nin0)
  have f9 := (P15.keep K1 nin0)
  have z10 := (Nat.le_trans Z0 K1.1)
  obtain ⟨v11, T11, L11, X11, Q11, st11⟩ := callVi X4 hx hZ (m33_equals l Z a0 hw x7 x1 y8 x9 x10 kk11 kk12 T1.heap n0 z10 o5 P6 f6 P8 P9 P10 f7 P12 f8 P14 f9) e4 hown (wd_46 hw) (wd_47 hw) (wd_49 hw) (notFace_of_selects (args := #[]) (mvT hZ (wd_49 hw))) (wd_48 hw) (wd_50 hw) (wd_2 hw) (by decide) (hb hby d3_25) 0 (by decide) (by decide) (by decide) (by decide) (by rw [hml]; rfl) x7 (P5.ext o5.2) [(.ref x1)] [] rfl (lenOf pd_2 rfl) rfl (Nat.le_of_eq rfl) (Ls := #[rv x1, rv b1_0, iv 3, iv 0, rv x4])
  obtain ⟨rfl, M11, e11⟩ := Q11
  have N11 := Fr.app N1 M11
  refine Rch.go st11 ?_
  show Aw p e below _ T11 m 28 #[rv x1, rv b1_0, iv 3, iv 0, rv x4] [(.int 0)]
  refine Rch.go (fun t k => XS.ifYes X11.here hx rfl (pc0 := 28) (pc' := 34) rfl (hb hby d3_28) rfl (by decide) (by decide) (by decide) (XS.iinc X11.here hx rfl (hb hby d3_34) rfl (l' := #[rv x1, rv b1_0, iv 3, iv 1, rv x4]) rfl (XS.goto X11.here hx rfl (pc0 := 37) (pc' := 9) rfl (hb hby d3_37) (by decide) (by decide) (XS.iloadN X11.here hx rfl (hb hby d3_9) rfl  (XS.iloadN X11.here hx rfl (hb hby d3_10) rfl  (XS.icmpNo X11.here hx rfl (hb hby d3_11) rfl (by decide) (XS.aloadN X11.here hx rfl (hb hby d3_14) rfl rfl (XS.iloadN X11.here hx rfl (hb hby d3_15) rfl  k)))))))) ?_
  show Aw p e below _ T11 m 16 #[rv x1, rv b1_0, iv 3, iv 1, rv x4] [(.int 1), (.ref b1_0)]
  obtain ⟨c12, r12, q12, s12, u12, H12, G12⟩ := id F1_1
  refine Rch.go (fun t k => X11.aaload hx (j := (1 : Int32)) (v := (.ref x5)) (by rw [e11]; exact r12.1) (State.isArrayOf_alike hZ.alike r12.2.1) rfl r12.2.2 (inb_of s12 (by decide)) (H12.at (inb_of s12 (by decide)) rfl) (g := (mkF m 16 #[rv x1, rv b1_0, iv 3, iv 1, rv x4] [(.int 1), (.ref b1_0)])) rfl rfl (hb hby d3_16) t k) ?_
  show Aw p e below _ T11 m 17 #[rv x1, rv b1_0, iv 3, iv 1, rv x4] [(.ref x5)]
  refine Rch.go (fun t k => XS.astore X11.here hx rfl (hb hby d3_17) rfl rfl (l' := #[rv x1, rv b1_0, iv 3, iv 1, rv x5]) rfl (XS.aload X11.here hx rfl (hb hby d3_19) rfl rfl k)) ?_
  show Aw p e below _ T11 m 21 #[rv x1, rv b1_0, iv 3, iv 1, rv x5] [(.ref x5)]
  obtain ⟨T13, X13, e13, st13⟩ := getF X11 hx hZ hown (host := "") (Or.inl (wd_44 hw)) Via.refl e11 (P16.ext o5.2) (g := (mkF m 21 #[rv x1, rv b1_0, iv 3, iv 1, rv x5] [(.ref x5)])) rfl rfl (hb hby d3_21)
  refine Rch.go st13 ?_
  show Aw p e below _ T13 m 24 #[rv x1, rv b1_0, iv 3, iv 1, rv x5] [(.ref x13)]
  refine Rch.go (fun t k => XS.aloadN X13.here hx rfl (hb hby d3_24) rfl rfl k) ?_
  show Aw p e below _ T13 m 25 #[rv x1, rv b1_0, iv 3, iv 1, rv x5] [(.ref x1), (.ref x13)]
  obtain ⟨v14, T14, L14, X14, Q14, st14⟩ := callVi X13 hx hZ (m35_equals l Z a0 hw x13 x1 y8 x14 x10 kk15 kk12 T1.heap n0 z10 o5 P18 f6 P8 P9 P19 f7 P20 f8 P21 f9) e13 hown (wd_46 hw) (wd_47 hw) (wd_49 hw) (notFace_of_selects (args := #[]) (mvT hZ (wd_49 hw))) (wd_48 hw) (wd_50 hw) (wd_2 hw) (by decide) (hb hby d3_25) 0 (by decide) (by decide) (by decide) (by decide) (by rw [hml]; rfl) x13 (P17.ext o5.2) [(.ref x1)] [] rfl (lenOf pd_2 rfl) rfl (Nat.le_of_eq rfl) (Ls := #[rv x1, rv b1_0, iv 3, iv 1, rv x5])
  obtain ⟨rfl, M14, e14⟩ := Q14
  have N14 := Fr.app N11 M14
  refine Rch.go st14 ?_
  show Aw p e below _ T14 m 28 #[rv x1, rv b1_0, iv 3, iv 1, rv x5] [(.int 1)]
  refine Rch.go (fun t k => XS.ifNo X14.here hx rfl (hb hby d3_28) rfl (by decide) (XS.aload X14.here hx rfl (hb hby d3_31) rfl rfl k)) ?_
  show Aw p e below _ T14 m 33 #[rv x1, rv b1_0, iv 3, iv 1, rv x5] [(.ref x5)]
  refine Rch.val X14 hx (t := (.object s1')) hret hlk rfl (Or.inr (Or.inr (Or.inr (Or.inr ⟨rfl, rfl, rfl⟩)))) (hb hby d3_33) (by decide) (by decide) ?_
  try rw [e14]
  exact ⟨rfl, N14, ((Keep.refl _ _).trans K1 all0)⟩
theorem ef_m37_length (m : MethodId) (x1 : Addr) : entryFrame m #[(.ref x1)] 1 = mkF m 0 #[rv x1] [] := by first | rfl | (simp [entryFrame, mkF, argsToLocals, Value.category]; done)
theorem m37_length (l : Launch) (Z : State) (a0 : Array Value) (hw : HW Z a0) (x1 x2 : Addr) (kk3 : ClassId) (y4 : Int32) (h0 : Heap) (n0 : Nat) (Z0 : n0 ≤ h0.size) (O0 : Old Z n0 h0) (P1 : Fld Z h0 x1 "java/lang/String" "value" "[B" (.ref x2)) (P2 : Arv Z h0 x2 kk3 .byte (1 : Int32) [(.int 101)] (.int 0)) (P3 : Exa Z h0 x1 "java/lang/String") (P4 : Sta Z Z.heap "java/lang/String" "COMPACT_STRINGS" "Z" (.int y4)) (P5 : ¬ (y4 = (0 : Int32))) (P6 : Fld Z h0 x1 "java/lang/String" "coder" "B" (.int 0)) :
    Ctr l Z [] (⟨"java/lang/String", "length", "()I"⟩ : MethodName) jdk_42_method_54_code 1 (some .int) #[(.ref x1)] h0 ({ frames := 1, cells := 0, slots := 0, locals := 13 } : Room) (fun v h L => v = some (.int 1) ∧ Fr n0 L ∧ h = h0) := by
  refine Ctr.of (plainFor_of_name pn_java_lang_String) (fun m => ef_m37_length m x1) ?_
  intro p e s m below meth c T0 hx hZ hby hml hown hnm hret hlk X0 e0
  have N0 := Fr.nil n0
  show Aw p e below _ T0 m 0 #[rv x1] []
  refine Rch.go (fun t k => XS.aloadN X0.here hx rfl (hb hby d7_0) rfl rfl k) ?_
  show Aw p e below _ T0 m 1 #[rv x1] [(.ref x1)]
  obtain ⟨T1, X1, e1, st1⟩ := getF X0 hx hZ hown (host := "") (Or.inl (wd_20 hw)) Via.refl e0 P1 (g := (mkF m 1 #[rv x1] [(.ref x1)])) rfl rfl (hb hby d7_1)
  refine Rch.go st1 ?_
  show Aw p e below _ T1 m 4 #[rv x1] [(.ref x2)]
  obtain ⟨c2, r2, q2, s2, u2, H2, G2⟩ := id P2
  refine Rch.go (fun t k => X1.arraylength hx (by rw [e1]; exact r2.1) (State.isArrayOf_alike hZ.alike r2.2.1) (g := (mkF m 4 #[rv x1] [(.ref x2)])) rfl rfl (hb hby d7_4) t (by rw [len_of s2 u2]; exact k)) ?_
  show Aw p e below _ T1 m 5 #[rv x1] [(.int 1)]
  refine Rch.go (fun t k => XS.aloadN X1.here hx rfl (hb hby d7_5) rfl rfl k) ?_
  show Aw p e below _ T1 m 6 #[rv x1] [(.ref x1), (.int 1)]
  obtain ⟨v3, T3, L3, X3, Q3, st3⟩ := callVi X1 hx hZ (m12_coder l Z a0 hw x1 y4 h0 n0 Z0 O0 P4 P5 P6) e1 hown (wd_62 hw) (wd_63 hw) (wd_65 hw) (notFace_of_selects (args := #[]) (mvT hZ (wd_65 hw))) (wd_64 hw) (wd_66 hw) (wd_2 hw) (by decide) (hb hby d7_6) 1 (by decide) (by decide) (by decide) (by decide) (by rw [hml]; rfl) x1 P3 [] [(.int 1)] rfl (lenOf pd_6 rfl) rfl (Nat.le_of_eq rfl) (Ls := #[rv x1])
  obtain ⟨rfl, M3, e3⟩ := Q3
  have N3 := Fr.app N0 M3
  refine Rch.go st3 ?_
  show Aw p e below _ T3 m 9 #[rv x1] [(.int 0), (.int 1)]
  refine Rch.go (fun t k => XS.ishr X3.here hx rfl (hb hby d7_9) rfl k) ?_
  show Aw p e below _ T3 m 10 #[rv x1] [(.int 1)]
  refine Rch.val X3 hx (t := .int) hret hlk rfl (mayI (by simp)) (hb hby d7_10) (by decide) (by decide) ?_
  try rw [e3]
  exact ⟨rfl, N3, rfl⟩
theorem ef_m39_charAt (m : MethodId) (x1 : Addr) : entryFrame m #[(.ref x1), (.int 0)] 2 = mkF m 0 #[rv x1, iv 0] [] := by first | rfl | (simp [entryFrame, mkF, argsToLocals, Value.category]; done)
theorem m39_charAt (l : Launch) (Z : State) (a0 : Array Value) (hw : HW Z a0) (x1 : Addr) (kk2 : ClassId) (vv3 : Value) (h0 : Heap) (n0 : Nat) (Z0 : n0 ≤ h0.size) (O0 : Old Z n0 h0) (P1 : Arv Z h0 x1 kk2 .byte (1 : Int32) [(.int 101)] (.int 0)) (P2 : vv3.isRef = true) (P3 : Sta Z Z.heap s6' "SIOOBE_FORMATTER" "Ljava/util/function/BiFunction;" vv3) :
    Ctr l Z [] (⟨s2', "charAt", "([BI)C"⟩ : MethodName) jdk_43_method_2_code 2 (some .char) #[(.ref x1), (.int 0)] h0 ({ frames := 2, cells := 0, slots := 0, locals := 27 } : Room) (fun v h L => v = some (.int 101) ∧ Fr n0 L ∧ h = h0) := by
  refine Ctr.of (plainFor_of_name pn_java_lang_StringLatin1) (fun m => ef_m39_charAt m x1) ?_
  intro p e s m below meth c T0 hx hZ hby hml hown hnm hret hlk X0 e0
  have N0 := Fr.nil n0
  show Aw p e below _ T0 m 0 #[rv x1, iv 0] []
  refine Rch.go (fun t k => XS.iloadN X0.here hx rfl (hb hby d14_0) rfl  (XS.aloadN X0.here hx rfl (hb hby d14_1) rfl rfl k)) ?_
  show Aw p e below _ T0 m 2 #[rv x1, iv 0] [(.ref x1), (.int 0)]
  obtain ⟨c1, r1, q1, s1, u1, H1, G1⟩ := id P1
  refine Rch.go (fun t k => X0.arraylength hx (by rw [e0]; exact r1.1) (State.isArrayOf_alike hZ.alike r1.2.1) (g := (mkF m 2 #[rv x1, iv 0] [(.ref x1), (.int 0)])) rfl rfl (hb hby d14_2) t (by rw [len_of s1 u1]; exact k)) ?_
  show Aw p e below _ T0 m 3 #[rv x1, iv 0] [(.int 1), (.int 0)]
  obtain ⟨v2, T2, L2, X2, Q2, st2⟩ := callSt X0 hx hZ (m25_checkIndex l Z a0 hw vv3 h0 n0 Z0 O0 P2 P3) e0 hown (wd_94 hw) (wd_95 hw) (wd_96 hw) (wd_2 hw) (by decide) (hb hby d14_3) 0 (by decide) (by decide) (by decide) (by decide) (by rw [hml]; rfl) [(.int 0), (.int 1)] [] rfl (lenOf pd_14 rfl) rfl (Nat.le_of_eq rfl) (Ls := #[rv x1, iv 0])
  obtain ⟨rfl, M2, e2⟩ := Q2
  have N2 := Fr.app N0 M2
  refine Rch.go st2 ?_
  show Aw p e below _ T2 m 6 #[rv x1, iv 0] []
  refine Rch.go (fun t k => XS.aloadN X2.here hx rfl (hb hby d14_6) rfl rfl (XS.iloadN X2.here hx rfl (hb hby d14_7) rfl  k)) ?_
  show Aw p e below _ T2 m 8 #[rv x1, iv 0] [(.int 0), (.ref x1)]
  obtain ⟨c3, r3, q3, s3, u3, H3, G3⟩ := id P1
  refine Rch.go (fun t k => X2.baloadBytes hx (j := (0 : Int32)) (v := (.int 101)) (by rw [e2]; exact r3.1) (State.isArrayOf_alike hZ.alike r3.2.1) r3.2.2 (inb_of s3 (by decide)) (H3.at (inb_of s3 (by decide)) rfl) (g := (mkF m 8 #[rv x1, iv 0] [(.int 0), (.ref x1)])) rfl rfl (hb hby d14_8) t k) ?_
  show Aw p e below _ T2 m 9 #[rv x1, iv 0] [(.int 101)]
  refine Rch.go (fun t k => XS.sipush X2.here hx rfl (hb hby d14_9) (XS.iand X2.here hx rfl (hb hby d14_12) rfl (XS.i2c X2.here hx rfl (hb hby d14_13) rfl k))) ?_
  show Aw p e below _ T2 m 14 #[rv x1, iv 0] [(.int 101)]
  refine Rch.val X2 hx (t := .char) hret hlk rfl (mayI (by simp)) (hb hby d14_14) (by decide) (by decide) ?_
  try rw [e2]
  exact ⟨rfl, N2, rfl⟩
theorem ef_m38_charAt (m : MethodId) (x1 : Addr) : entryFrame m #[(.ref x1), (.int 0)] 2 = mkF m 0 #[rv x1, iv 0] [] := by first | rfl | (simp [entryFrame, mkF, argsToLocals, Value.category]; done)
theorem m38_charAt (l : Launch) (Z : State) (a0 : Array Value) (hw : HW Z a0) (x1 : Addr) (y2 : Int32) (x3 : Addr) (kk4 : ClassId) (vv5 : Value) (h0 : Heap) (n0 : Nat) (Z0 : n0 ≤ h0.size) (O0 : Old Z n0 h0) (P1 : Exa Z h0 x1 "java/lang/String") (P2 : Sta Z Z.heap "java/lang/String" "COMPACT_STRINGS" "Z" (.int y2)) (P3 : ¬ (y2 = (0 : Int32))) (P4 : Fld Z h0 x1 "java/lang/String" "coder" "B" (.int 0)) (P5 : Fld Z h0 x1 "java/lang/String" "value" "[B" (.ref x3)) (P6 : Arv Z h0 x3 kk4 .byte (1 : Int32) [(.int 101)] (.int 0)) (P7 : vv5.isRef = true) (P8 : Sta Z Z.heap s6' "SIOOBE_FORMATTER" "Ljava/util/function/BiFunction;" vv5) :
    Ctr l Z [] (⟨"java/lang/String", "charAt", "(I)C"⟩ : MethodName) jdk_42_method_56_code 2 (some .char) #[(.ref x1), (.int 0)] h0 ({ frames := 3, cells := 0, slots := 0, locals := 40 } : Room) (fun v h L => v = some (.int 101) ∧ Fr n0 L ∧ h = h0) := by
  refine Ctr.of (plainFor_of_name pn_java_lang_String) (fun m => ef_m38_charAt m x1) ?_
  intro p e s m below meth c T0 hx hZ hby hml hown hnm hret hlk X0 e0
  have N0 := Fr.nil n0
  show Aw p e below _ T0 m 0 #[rv x1, iv 0] []
  refine Rch.go (fun t k => XS.aloadN X0.here hx rfl (hb hby d12_0) rfl rfl k) ?_
  show Aw p e below _ T0 m 1 #[rv x1, iv 0] [(.ref x1)]
  obtain ⟨v1, T1, L1, X1, Q1, st1⟩ := callVi X0 hx hZ (m23_isLatin1 l Z a0 hw x1 y2 h0 n0 Z0 O0 P2 P3 P4) e0 hown (wd_86 hw) (wd_87 hw) (wd_89 hw) (notFace_of_selects (args := #[]) (mvT hZ (wd_89 hw))) (wd_88 hw) (wd_90 hw) (wd_2 hw) (by decide) (hb hby d12_1) 0 (by decide) (by decide) (by decide) (by decide) (by rw [hml]; rfl) x1 P1 [] [] rfl (lenOf pd_12 rfl) rfl (Nat.le_of_eq rfl) (Ls := #[rv x1, iv 0])
  obtain ⟨rfl, M1, e1⟩ := Q1
  have N1 := Fr.app N0 M1
  refine Rch.go st1 ?_
  show Aw p e below _ T1 m 4 #[rv x1, iv 0] [(.int 1)]
  refine Rch.go (fun t k => XS.ifNo X1.here hx rfl (hb hby d12_4) rfl (by decide) (XS.aloadN X1.here hx rfl (hb hby d12_7) rfl rfl k)) ?_
  show Aw p e below _ T1 m 8 #[rv x1, iv 0] [(.ref x1)]
  obtain ⟨T2, X2, e2, st2⟩ := getF X1 hx hZ hown (host := "") (Or.inl (wd_20 hw)) Via.refl e1 P5 (g := (mkF m 8 #[rv x1, iv 0] [(.ref x1)])) rfl rfl (hb hby d12_8)
  refine Rch.go st2 ?_
  show Aw p e below _ T2 m 11 #[rv x1, iv 0] [(.ref x3)]
  refine Rch.go (fun t k => XS.iloadN X2.here hx rfl (hb hby d12_11) rfl  k) ?_
  show Aw p e below _ T2 m 12 #[rv x1, iv 0] [(.int 0), (.ref x3)]
  obtain ⟨v3, T3, L3, X3, Q3, st3⟩ := callSt X2 hx hZ (m39_charAt l Z a0 hw x3 kk4 vv5 h0 n0 Z0 O0 P6 P7 P8) e2 hown (wd_91 hw) (wd_92 hw) (wd_93 hw) (wd_55 hw) (by decide) (hb hby d12_12) 0 (by decide) (by decide) (by decide) (by decide) (by rw [hml]; rfl) [(.ref x3), (.int 0)] [] rfl (lenOf pd_15 rfl) rfl (Nat.le_of_eq rfl) (Ls := #[rv x1, iv 0])
  obtain ⟨rfl, M3, e3⟩ := Q3
  have N3 := Fr.app N1 M3
  refine Rch.go st3 ?_
  show Aw p e below _ T3 m 15 #[rv x1, iv 0] [(.int 101)]
  refine Rch.val X3 hx (t := .char) hret hlk rfl (mayI (by simp)) (hb hby d12_15) (by decide) (by decide) ?_
  try rw [e3]
  exact ⟨rfl, N3, rfl⟩
theorem wd_102 {Z a0} (hw : HW Z a0) : (Cond.fieldLink s7' (35 : Nat) s1' "BELOW" s9').before a0 Z = true := hw.at 102 rfl
theorem ef_m43_compress (m : MethodId) (x1 x2 : Addr) : entryFrame m #[(.ref x1), (.int 0), (.ref x2), (.int 0), (.int 1)] 7 = mkF m 0 #[rv x1, iv 0, rv x2, iv 0, iv 1, uu, uu] [] := by first | rfl | (simp [entryFrame, mkF, argsToLocals, Value.category]; done)
theorem m43_compress (l : Launch) (Z : State) (a0 : Array Value) (hw : HW Z a0) (x1 x2 : Addr) (kk3 kk4 : ClassId) (h0 : Heap) (n0 : Nat) (Z0 : n0 ≤ h0.size) (O0 : Old Z n0 h0) (P1 : Arv Z h0 x1 kk3 .char (1 : Int32) [(.int 38)] (.int 0)) (P2 : Arv Z h0 x2 kk4 .byte (1 : Int32) [(.int 0)] (.int 0)) (P3 : n0 ≤ x2) :
    Ctr l Z [] (⟨s4', "compress", "([CI[BII)I"⟩ : MethodName) jdk_52_method_21_code 7 (some .int) #[(.ref x1), (.int 0), (.ref x2), (.int 0), (.int 1)] h0 ({ frames := 0, cells := 0, slots := 0, locals := 0 } : Room) (fun v h L => v = some (.int 1) ∧ Fr n0 L ∧ Keep h0 h [x2] ∧ Arv Z h x2 kk4 .byte (1 : Int32) [(.int 38)] (.int 0)) := by
  refine Ctr.of (plainFor_of_name pn_java_lang_StringUTF16) (fun m => ef_m43_compress m x1 x2) ?_
  intro p e s m below meth c T0 hx hZ hby hml hown hnm hret hlk X0 e0
  have N0 := Fr.nil n0
  show Aw p e below _ T0 m 0 #[rv x1, iv 0, rv x2, iv 0, iv 1, uu, uu] []
  refine Rch.go (fun t k => XS.iconst X0.here hx rfl (hb hby d10_0) (XS.istore X0.here hx rfl (hb hby d10_1) rfl  (l' := #[rv x1, iv 0, rv x2, iv 0, iv 1, iv 0, uu]) rfl (XS.iload X0.here hx rfl (hb hby d10_3) rfl  (XS.iload X0.here hx rfl (hb hby d10_5) rfl  (XS.icmpNo X0.here hx rfl (hb hby d10_7) rfl (by decide) (XS.aloadN X0.here hx rfl (hb hby d10_10) rfl rfl (XS.iloadN X0.here hx rfl (hb hby d10_11) rfl  k))))))) ?_
  show Aw p e below _ T0 m 12 #[rv x1, iv 0, rv x2, iv 0, iv 1, iv 0, uu] [(.int 0), (.ref x1)]
  obtain ⟨c1, r1, q1, s1, u1, H1, G1⟩ := id P1
  refine Rch.go (fun t k => X0.caload hx (j := (0 : Int32)) (v := (.int 38)) (by rw [e0]; exact r1.1) (State.isArrayOf_alike hZ.alike r1.2.1) r1.2.2 (inb_of s1 (by decide)) (H1.at (inb_of s1 (by decide)) rfl) (g := (mkF m 12 #[rv x1, iv 0, rv x2, iv 0, iv 1, iv 0, uu] [(.int 0), (.ref x1)])) rfl rfl (hb hby d10_12) t k) ?_
  show Aw p e below _ T0 m 13 #[rv x1, iv 0, rv x2, iv 0, iv 1, iv 0, uu] [(.int 38)]
  refine Rch.go (fun t k => XS.istore X0.here hx rfl (hb hby d10_13) rfl  (l' := #[rv x1, iv 0, rv x2, iv 0, iv 1, iv 0, iv 38]) rfl (XS.iload X0.here hx rfl (hb hby d10_15) rfl  (XS.sipush X0.here hx rfl (hb hby d10_17) (XS.icmpYes X0.here hx rfl (pc0 := 20) (pc' := 26) rfl (hb hby d10_20) rfl (by decide) (by decide) (by decide) (XS.aloadN X0.here hx rfl (hb hby d10_26) rfl rfl (XS.iloadN X0.here hx rfl (hb hby d10_27) rfl  (XS.iload X0.here hx rfl (hb hby d10_28) rfl  (XS.i2b X0.here hx rfl (hb hby d10_30) rfl k)))))))) ?_
  show Aw p e below _ T0 m 31 #[rv x1, iv 0, rv x2, iv 0, iv 1, iv 0, iv 38] [(.int 38), (.int 0), (.ref x2)]
  obtain ⟨c2, r2, q2, s2, u2, H2, G2⟩ := id P2
  obtain ⟨T3, h3, X3, e3, W3, st3⟩ := stB X0 hx hZ e0 r2 (j := (0 : Int32)) (inb_of s2 (by decide)) (g := (mkF m 31 #[rv x1, iv 0, rv x2, iv 0, iv 1, iv 0, iv 38] [(.int 38), (.int 0), (.ref x2)])) rfl rfl (hb hby d10_31)
  refine Rch.go st3 ?_
  have V3 : Arv Z h3 x2 kk4 .byte (1 : Int32) [(.int 38)] (.int 0) := Arv.set r2 q2 s2 u2 H2 G2 (fits_nar_byte _) W3 0 rfl (Nat.le_of_ble_eq_true rfl)
  have N3 := Fr.snoc X3 N0 P3
  show Aw p e below _ T3 m 32 #[rv x1, iv 0, rv x2, iv 0, iv 1, iv 0, iv 38] []
  refine Rch.go (fun t k => XS.iinc X3.here hx rfl (hb hby d10_32) rfl (l' := #[rv x1, iv 1, rv x2, iv 0, iv 1, iv 0, iv 38]) rfl (XS.iinc X3.here hx rfl (hb hby d10_35) rfl (l' := #[rv x1, iv 1, rv x2, iv 1, iv 1, iv 0, iv 38]) rfl (XS.iinc X3.here hx rfl (hb hby d10_38) rfl (l' := #[rv x1, iv 1, rv x2, iv 1, iv 1, iv 1, iv 38]) rfl (XS.goto X3.here hx rfl (pc0 := 41) (pc' := 3) rfl (hb hby d10_41) (by decide) (by decide) (XS.iload X3.here hx rfl (hb hby d10_3) rfl  (XS.iload X3.here hx rfl (hb hby d10_5) rfl  (XS.icmpYes X3.here hx rfl (pc0 := 7) (pc' := 44) rfl (hb hby d10_7) rfl (by decide) (by decide) (by decide) (XS.iload X3.here hx rfl (hb hby d10_44) rfl  k)))))))) ?_
  show Aw p e below _ T3 m 46 #[rv x1, iv 1, rv x2, iv 1, iv 1, iv 1, iv 38] [(.int 1)]
  refine Rch.val X3 hx (t := .int) hret hlk rfl (mayI (by simp)) (hb hby d10_46) (by decide) (by decide) ?_
  try rw [e3]
  exact ⟨rfl, N3, ((Keep.refl _ _).wr W3 (Or.inl (List.mem_of_getElem? (i := 0) rfl))), V3⟩
theorem ef_m42_compress (m : MethodId) (x1 : Addr) : entryFrame m #[(.ref x1), (.int 0), (.int 1)] 6 = mkF m 0 #[rv x1, iv 0, iv 1, uu, uu, uu] [] := by first | rfl | (simp [entryFrame, mkF, argsToLocals, Value.category]; done)
theorem m42_compress (l : Launch) (Z : State) (a0 : Array Value) (hw : HW Z a0) (x1 : Addr) (kk2 : ClassId) (h0 : Heap) (n0 : Nat) (Z0 : n0 ≤ h0.size) (O0 : Old Z n0 h0) (P1 : Arv Z h0 x1 kk2 .char (1 : Int32) [(.int 38)] (.int 0)) :
    Ctr l Z [] (⟨s4', "compress", "([CII)[B"⟩ : MethodName) jdk_52_method_16_code 6 (some (.array .byte)) #[(.ref x1), (.int 0), (.int 1)] h0 ({ frames := 1, cells := 1, slots := 1, locals := 18 } : Room) (fun v h L => ∃ (b1 : Addr) (k1 : ClassId), v = some (.ref b1) ∧ Fr n0 L ∧ Keep h0 h [] ∧ h0.size ≤ b1 ∧ Exa Z h b1 "[B" ∧ Arv Z h b1 k1 .byte (1 : Int32) [(.int 38)] (.int 0)) := by
  refine Ctr.of (plainFor_of_name pn_java_lang_StringUTF16) (fun m => ef_m42_compress m x1) ?_
  intro p e s m below meth c T0 hx hZ hby hml hown hnm hret hlk X0 e0
  have N0 := Fr.nil n0
  show Aw p e below _ T0 m 0 #[rv x1, iv 0, iv 1, uu, uu, uu] []
  refine Rch.go (fun t k => XS.iloadN X0.here hx rfl (hb hby d9_0) rfl  k) ?_
  show Aw p e below _ T0 m 1 #[rv x1, iv 0, iv 1, uu, uu, uu] [(.int 1)]
  obtain ⟨T1, h1, k1, X1, e1, E1, A1, B1, st1⟩ := newPE (aty := .byte) X0 hx hZ (wd_15 hw) e0 (g := (mkF m 1 #[rv x1, iv 0, iv 1, uu, uu, uu] [(.int 1)])) rfl (hb hby d9_1) rfl (by decide) (cap := 1) (by decide) (by decide) (by decide) (by decide) (ad := "[B") (by decide +kernel)
  obtain ⟨b1, g1⟩ : ∃ z, z = h0.size := ⟨_, rfl⟩
  rw [← g1] at A1 B1 st1
  refine Rch.go st1 ?_
  have g_b1 : n0 ≤ b1 := Nat.le_trans Z0 (Nat.le_of_eq g1.symm)
  have V1 : Arv Z h1 b1 k1 .byte (1 : Int32) [(.int 0)] (.int 0) := (Arv.new A1 (by decide)).pad (pad_rep [] (.int 0) 1)
  show Aw p e below _ T1 m 3 #[rv x1, iv 0, iv 1, uu, uu, uu] [(.ref b1)]
  refine Rch.go (fun t k => XS.astoreN X1.here hx rfl (hb hby d9_3) rfl rfl (l' := #[rv x1, iv 0, iv 1, rv b1, uu, uu]) rfl (XS.aloadN X1.here hx rfl (hb hby d9_4) rfl rfl (XS.iloadN X1.here hx rfl (hb hby d9_5) rfl  (XS.aloadN X1.here hx rfl (hb hby d9_6) rfl rfl (XS.iconst X1.here hx rfl (hb hby d9_7) (XS.iloadN X1.here hx rfl (hb hby d9_8) rfl  k)))))) ?_
  show Aw p e below _ T1 m 9 #[rv x1, iv 0, iv 1, rv b1, uu, uu] [(.int 1), (.int 0), (.ref b1), (.int 0), (.ref x1)]
  have f2 := (P1.ext E1)
  have z3 := (Nat.le_trans Z0 E1.1)
  have o4 := (O0.ext E1)
  obtain ⟨v5, T5, L5, X5, Q5, st5⟩ := callSt X1 hx hZ (m43_compress l Z a0 hw x1 b1 kk2 k1 h1 n0 z3 o4 f2 V1 g_b1) e1 hown (wd_75 hw) (wd_76 hw) (wd_77 hw) (wd_73 hw) (by decide) (hb hby d9_9) 0 (by decide) (by decide) (by decide) (by decide) (by rw [hml]; rfl) [(.ref x1), (.int 0), (.ref b1), (.int 0), (.int 1)] [] rfl (lenOf pd_9 rfl) rfl (Nat.le_of_eq rfl) (Ls := #[rv x1, iv 0, iv 1, rv b1, uu, uu])
  obtain ⟨rfl, M5, K5, F5_0⟩ := Q5
  have N5 := Fr.app N0 M5
  refine Rch.go st5 ?_
  show Aw p e below _ T5 m 12 #[rv x1, iv 0, iv 1, rv b1, uu, uu] [(.int 1)]
  refine Rch.go (fun t k => XS.istore X5.here hx rfl (hb hby d9_12) rfl  (l' := #[rv x1, iv 0, iv 1, rv b1, iv 1, uu]) rfl (XS.iload X5.here hx rfl (hb hby d9_14) rfl  (XS.iloadN X5.here hx rfl (hb hby d9_16) rfl  (XS.icmpYes X5.here hx rfl (pc0 := 17) (pc' := 57) rfl (hb hby d9_17) rfl (by decide) (by decide) (by decide) (XS.aloadN X5.here hx rfl (hb hby d9_57) rfl rfl k))))) ?_
  show Aw p e below _ T5 m 58 #[rv x1, iv 0, iv 1, rv b1, iv 1, uu] [(.ref b1)]
  have f6 := (B1.keep K5)
  refine Rch.val X5 hx (t := (.array .byte)) hret hlk rfl (Or.inr (Or.inr (Or.inr (Or.inr ⟨rfl, rfl, rfl⟩)))) (hb hby d9_58) (by decide) (by decide) ?_
  exact ⟨b1, k1, rfl, N5, (((Keep.refl _ _).ext E1).trans K5 (allS (Or.inr (Nat.le_trans (Nat.le_refl _) (Nat.le_of_eq g1.symm))) all0)), (Nat.le_trans (Nat.le_refl _) (Nat.le_of_eq g1.symm)), f6, F5_0⟩
theorem ef_m44_coderFromArrayLen (m : MethodId) (x1 : Addr) : entryFrame m #[(.ref x1), (.int 1)] 2 = mkF m 0 #[rv x1, iv 1] [] := by first | rfl | (simp [entryFrame, mkF, argsToLocals, Value.category]; done)
theorem m44_coderFromArrayLen (l : Launch) (Z : State) (a0 : Array Value) (hw : HW Z a0) (x1 : Addr) (kk2 : ClassId) (h0 : Heap) (n0 : Nat) (Z0 : n0 ≤ h0.size) (O0 : Old Z n0 h0) (P1 : Arv Z h0 x1 kk2 .byte (1 : Int32) [(.int 38)] (.int 0)) :
    Ctr l Z [] (⟨s4', "coderFromArrayLen", "([BI)B"⟩ : MethodName) jdk_52_method_15_code 2 (some .byte) #[(.ref x1), (.int 1)] h0 ({ frames := 0, cells := 0, slots := 0, locals := 0 } : Room) (fun v h L => v = some (.int 0) ∧ Fr n0 L ∧ h = h0) := by
  refine Ctr.of (plainFor_of_name pn_java_lang_StringUTF16) (fun m => ef_m44_coderFromArrayLen m x1) ?_
  intro p e s m below meth c T0 hx hZ hby hml hown hnm hret hlk X0 e0
  have N0 := Fr.nil n0
  show Aw p e below _ T0 m 0 #[rv x1, iv 1] []
  refine Rch.go (fun t k => XS.iloadN X0.here hx rfl (hb hby d11_0) rfl  (XS.aloadN X0.here hx rfl (hb hby d11_1) rfl rfl k)) ?_
  show Aw p e below _ T0 m 2 #[rv x1, iv 1] [(.ref x1), (.int 1)]
  obtain ⟨c1, r1, q1, s1, u1, H1, G1⟩ := id P1
  refine Rch.go (fun t k => X0.arraylength hx (by rw [e0]; exact r1.1) (State.isArrayOf_alike hZ.alike r1.2.1) (g := (mkF m 2 #[rv x1, iv 1] [(.ref x1), (.int 1)])) rfl rfl (hb hby d11_2) t (by rw [len_of s1 u1]; exact k)) ?_
  show Aw p e below _ T0 m 3 #[rv x1, iv 1] [(.int 1), (.int 1)]
  refine Rch.go (fun t k => XS.isub X0.here hx rfl (hb hby d11_3) rfl (XS.bipush X0.here hx rfl (hb hby d11_4) (XS.iushr X0.here hx rfl (hb hby d11_6) rfl (XS.i2b X0.here hx rfl (hb hby d11_7) rfl k)))) ?_
  show Aw p e below _ T0 m 8 #[rv x1, iv 1] [(.int 0)]
  refine Rch.val X0 hx (t := .byte) hret hlk rfl (mayI (by simp)) (hb hby d11_8) (by decide) (by decide) ?_
  try rw [e0]
  exact ⟨rfl, N0, rfl⟩
theorem ef_m41_init (m : MethodId) (x1 x2 : Addr) : entryFrame m #[(.ref x1), (.ref x2), (.int 0), (.int 1), .null] 6 = mkF m 0 #[rv x1, rv x2, iv 0, iv 1, .val .null, uu] [] := by first | rfl | (simp [entryFrame, mkF, argsToLocals, Value.category]; done)
theorem m41_init (l : Launch) (Z : State) (a0 : Array Value) (hw : HW Z a0) (x1 x2 : Addr) (y3 : Int32) (kk4 : ClassId) (h0 : Heap) (n0 : Nat) (Z0 : n0 ≤ h0.size) (O0 : Old Z n0 h0) (P1 : Sta Z Z.heap "java/lang/String" "COMPACT_STRINGS" "Z" (.int y3)) (P2 : ¬ (y3 = (0 : Int32))) (P3 : Arv Z h0 x2 kk4 .char (1 : Int32) [(.int 38)] (.int 0)) (P4 : Exa Z h0 x1 "java/lang/String") (P5 : Fld Z h0 x1 "java/lang/String" "coder" "B" (.int 0)) (P6 : n0 ≤ x1) (P7 : Fld Z h0 x1 "java/lang/String" "value" "[B" .null) :
    Ctr l Z [] (⟨"java/lang/String", "<init>", "([CIILjava/lang/Void;)V"⟩ : MethodName) jdk_42_method_149_code 6 none #[(.ref x1), (.ref x2), (.int 0), (.int 1), .null] h0 ({ frames := 2, cells := 1, slots := 1, locals := 35 } : Room) (fun v h L => ∃ (b3_0 : Addr) (k3_0 : ClassId), v = none ∧ Fr n0 L ∧ Keep h0 h [x1] ∧ h0.size ≤ b3_0 ∧ Exa Z h b3_0 "[B" ∧ Arv Z h b3_0 k3_0 .byte (1 : Int32) [(.int 38)] (.int 0) ∧ Fld Z h x1 "java/lang/String" "coder" "B" (.int 0) ∧ Fld Z h x1 "java/lang/String" "value" "[B" (.ref b3_0)) := by
  refine Ctr.of (plainFor_of_name pn_java_lang_String) (fun m => ef_m41_init m x1 x2) ?_
  intro p e s m below meth c T0 hx hZ hby hml hown hnm hret hlk X0 e0
  have N0 := Fr.nil n0
  show Aw p e below _ T0 m 0 #[rv x1, rv x2, iv 0, iv 1, .val .null, uu] []
  refine Rch.go (fun t k => XS.aloadN X0.here hx rfl (hb hby d0_0) rfl rfl k) ?_
  show Aw p e below _ T0 m 1 #[rv x1, rv x2, iv 0, iv 1, .val .null, uu] [(.ref x1)]
  obtain ⟨T1, X1, e1, st1⟩ := initO X0 hx hZ hown (wd_11 hw) (wd_12 hw) (wd_13 hw) e0 (g := (mkF m 1 #[rv x1, rv x2, iv 0, iv 1, .val .null, uu] [(.ref x1)])) rfl (by rw [hml]; rfl) rfl (hb hby d0_1) (by decide) (W := 0) (by show 2 * 0 + _ ≤ _; exact Nat.le_of_eq rfl) (by decide)
  refine Rch.go st1 ?_
  show Aw p e below _ T1 m 4 #[rv x1, rv x2, iv 0, iv 1, .val .null, uu] []
  refine Rch.go (fun t k => XS.iloadN X1.here hx rfl (hb hby d0_4) rfl  (XS.ifYes X1.here hx rfl (pc0 := 5) (pc' := 27) rfl (hb hby d0_5) rfl (by decide) (by decide) (by decide) k)) ?_
  show Aw p e below _ T1 m 27 #[rv x1, rv x2, iv 0, iv 1, .val .null, uu] []
  obtain ⟨T2, X2, e2, st2⟩ := getS2 X1 hx hZ hown (host := "") (Or.inl (wd_52 hw)) Via.refl e1 (P1.ext O0.2) (g := (mkF m 27 #[rv x1, rv x2, iv 0, iv 1, .val .null, uu] [])) rfl (hb hby d0_27)
  refine Rch.go st2 ?_
  show Aw p e below _ T2 m 30 #[rv x1, rv x2, iv 0, iv 1, .val .null, uu] [(.int y3)]
  refine Rch.go (fun t k => XS.ifNo X2.here hx rfl (hb hby d0_30) rfl (XT.i0_eq_f P2) (XS.aloadN X2.here hx rfl (hb hby d0_33) rfl rfl (XS.iloadN X2.here hx rfl (hb hby d0_34) rfl  (XS.iloadN X2.here hx rfl (hb hby d0_35) rfl  k)))) ?_
  show Aw p e below _ T2 m 36 #[rv x1, rv x2, iv 0, iv 1, .val .null, uu] [(.int 1), (.int 0), (.ref x2)]
  obtain ⟨v3, T3, L3, X3, Q3, st3⟩ := callSt X2 hx hZ (m42_compress l Z a0 hw x2 kk4 h0 n0 Z0 O0 P3) e2 hown (wd_71 hw) (wd_72 hw) (wd_74 hw) (wd_73 hw) (by decide) (hb hby d0_36) 0 (by decide) (by decide) (by decide) (by decide) (by rw [hml]; rfl) [(.ref x2), (.int 0), (.int 1)] [] rfl (lenOf pd_10 rfl) rfl (Nat.le_of_eq rfl) (Ls := #[rv x1, rv x2, iv 0, iv 1, .val .null, uu])
  obtain ⟨b3_0, k3_0, rfl, M3, K3, zz3_0, F3_0, F3_1⟩ := Q3
  have N3 := Fr.app N0 M3
  refine Rch.go st3 ?_
  have g_b3_0 : n0 ≤ b3_0 := Nat.le_trans Z0 zz3_0
  show Aw p e below _ T3 m 39 #[rv x1, rv x2, iv 0, iv 1, .val .null, uu] [(.ref b3_0)]
  refine Rch.go (fun t k => XS.astore X3.here hx rfl (hb hby d0_39) rfl rfl (l' := #[rv x1, rv x2, iv 0, iv 1, .val .null, rv b3_0]) rfl (XS.aloadN X3.here hx rfl (hb hby d0_41) rfl rfl (XS.aload X3.here hx rfl (hb hby d0_42) rfl rfl (XS.iloadN X3.here hx rfl (hb hby d0_44) rfl  k)))) ?_
  show Aw p e below _ T3 m 45 #[rv x1, rv x2, iv 0, iv 1, .val .null, rv b3_0] [(.int 1), (.ref b3_0), (.ref x1)]
  have z4 := (Nat.le_trans Z0 K3.1)
  have o5 := (O0.keep K3 all0)
  obtain ⟨v6, T6, L6, X6, Q6, st6⟩ := callSt X3 hx hZ (m44_coderFromArrayLen l Z a0 hw b3_0 k3_0 T3.heap n0 z4 o5 F3_1) rfl hown (wd_78 hw) (wd_79 hw) (wd_80 hw) (wd_73 hw) (by decide) (hb hby d0_45) 1 (by decide) (by decide) (by decide) (by decide) (by rw [hml]; rfl) [(.ref b3_0), (.int 1)] [(.ref x1)] rfl (lenOf pd_11 rfl) rfl (Nat.le_of_eq rfl) (Ls := #[rv x1, rv x2, iv 0, iv 1, .val .null, rv b3_0])
  obtain ⟨rfl, M6, e6⟩ := Q6
  have N6 := Fr.app N3 M6
  refine Rch.go st6 ?_
  show Aw p e below _ T6 m 48 #[rv x1, rv x2, iv 0, iv 1, .val .null, rv b3_0] [(.int 0), (.ref x1)]
  have f8 := (P5.keep K3 nin0)
  have f9 := (P4.keep K3)
  obtain ⟨T7, h7, X7, e7, W7, st7⟩ := putFN X6 hx hZ hown (wd_21 hw) Via.refl e6 f8 f9 (Or.inr ⟨(wd_17 hw), rfl, hnm⟩) (wd_1 hw) (ty := .byte) (v' := (.int 0)) (by decide) rfl rfl (g := (mkF m 48 #[rv x1, rv x2, iv 0, iv 1, .val .null, rv b3_0] [(.int 0), (.ref x1)])) rfl rfl (hb hby d0_48)
  refine Rch.go st7 ?_
  have F7 := f8.same W7
  have N7 := Fr.snoc X7 N6 P6
  show Aw p e below _ T7 m 51 #[rv x1, rv x2, iv 0, iv 1, .val .null, rv b3_0] []
  refine Rch.go (fun t k => XS.aloadN X7.here hx rfl (hb hby d0_51) rfl rfl (XS.aload X7.here hx rfl (hb hby d0_52) rfl rfl k)) ?_
  show Aw p e below _ T7 m 54 #[rv x1, rv x2, iv 0, iv 1, .val .null, rv b3_0] [(.ref b3_0), (.ref x1)]
  have f11 := ((P7.keep K3 nin0).other W7 (Or.inr (slot_ne (Or.inr (wd_16 hw)) (Or.inr (wd_17 hw)) (by decide) (t := (.array .byte)) (t' := .byte) (by decide) (by decide))))
  have f12 := (f9.wr W7)
  obtain ⟨T10, h10, X10, e10, W10, st10⟩ := putF X7 hx hZ hown (host := "") (Or.inl (wd_20 hw)) Via.refl e7 f11 f12 (Or.inr ⟨(wd_16 hw), rfl, hnm⟩) (wd_1 hw) (ty := (.array .byte)) (by decide) rfl rfl (g := (mkF m 54 #[rv x1, rv x2, iv 0, iv 1, .val .null, rv b3_0] [(.ref b3_0), (.ref x1)])) rfl rfl (hb hby d0_54)
  refine Rch.go st10 ?_
  have F10 := f11.same W10
  have N10 := Fr.snoc X10 N7 P6
  show Aw p e below _ T10 m 57 #[rv x1, rv x2, iv 0, iv 1, .val .null, rv b3_0] []
  have f13 := ((F3_0.wr W7).wr W10)
  have lt14 := P4.lt
  have ne15 : x1 ≠ b3_0 := Nat.ne_of_lt (Nat.lt_of_lt_of_le lt14 zz3_0)
  have f16 := ((F3_1.other W7 (Ne.symm ne15)).other W10 (Ne.symm ne15))
  have f17 := (F7.other W10 (Or.inr (slot_ne (Or.inr (wd_17 hw)) (Or.inr (wd_16 hw)) (by decide) (t := .byte) (t' := (.array .byte)) (by decide) (by decide))))
  refine Rch.void X10 hx hret hlk (hb hby d0_57) (by decide) (by decide) ?_
  try rw [e10]
  exact ⟨b3_0, k3_0, rfl, N10, ((((Keep.refl _ _).trans K3 all0).wr W7 (Or.inl (List.mem_of_getElem? (i := 0) rfl))).wr W10 (Or.inl (List.mem_of_getElem? (i := 0) rfl))), (Nat.le_trans (Nat.le_refl _) zz3_0), f13, f16, f17, F10⟩
theorem ef_m40_init (m : MethodId) (x1 x2 : Addr) : entryFrame m #[(.ref x1), (.ref x2)] 2 = mkF m 0 #[rv x1, rv x2] [] := by first | rfl | (simp [entryFrame, mkF, argsToLocals, Value.category]; done)
theorem m40_init (l : Launch) (Z : State) (a0 : Array Value) (hw : HW Z a0) (x1 x2 : Addr) (kk3 : ClassId) (y4 : Int32) (h0 : Heap) (n0 : Nat) (Z0 : n0 ≤ h0.size) (O0 : Old Z n0 h0) (P1 : Arv Z h0 x2 kk3 .char (1 : Int32) [(.int 38)] (.int 0)) (P2 : Sta Z Z.heap "java/lang/String" "COMPACT_STRINGS" "Z" (.int y4)) (P3 : ¬ (y4 = (0 : Int32))) (P4 : Exa Z h0 x1 "java/lang/String") (P5 : Fld Z h0 x1 "java/lang/String" "coder" "B" (.int 0)) (P6 : n0 ≤ x1) (P7 : Fld Z h0 x1 "java/lang/String" "value" "[B" .null) :
    Ctr l Z [] (⟨"java/lang/String", "<init>", "([C)V"⟩ : MethodName) jdk_42_method_3_code 2 none #[(.ref x1), (.ref x2)] h0 ({ frames := 3, cells := 1, slots := 1, locals := 52 } : Room) (fun v h L => ∃ (b2_0 : Addr) (k2_0 : ClassId), v = none ∧ Fr n0 L ∧ Keep h0 h [x1] ∧ h0.size ≤ b2_0 ∧ Exa Z h b2_0 "[B" ∧ Arv Z h b2_0 k2_0 .byte (1 : Int32) [(.int 38)] (.int 0) ∧ Fld Z h x1 "java/lang/String" "coder" "B" (.int 0) ∧ Fld Z h x1 "java/lang/String" "value" "[B" (.ref b2_0)) := by
  refine Ctr.of (plainFor_of_name pn_java_lang_String) (fun m => ef_m40_init m x1 x2) ?_
  intro p e s m below meth c T0 hx hZ hby hml hown hnm hret hlk X0 e0
  have N0 := Fr.nil n0
  show Aw p e below _ T0 m 0 #[rv x1, rv x2] []
  refine Rch.go (fun t k => XS.aloadN X0.here hx rfl (hb hby d1_0) rfl rfl (XS.aloadN X0.here hx rfl (hb hby d1_1) rfl rfl (XS.iconst X0.here hx rfl (hb hby d1_2) (XS.aloadN X0.here hx rfl (hb hby d1_3) rfl rfl k)))) ?_
  show Aw p e below _ T0 m 4 #[rv x1, rv x2] [(.ref x2), (.int 0), (.ref x2), (.ref x1)]
  obtain ⟨c1, r1, q1, s1, u1, H1, G1⟩ := id P1
  refine Rch.go (fun t k => X0.arraylength hx (by rw [e0]; exact r1.1) (State.isArrayOf_alike hZ.alike r1.2.1) (g := (mkF m 4 #[rv x1, rv x2] [(.ref x2), (.int 0), (.ref x2), (.ref x1)])) rfl rfl (hb hby d1_4) t (by rw [len_of s1 u1]; exact k)) ?_
  show Aw p e below _ T0 m 5 #[rv x1, rv x2] [(.int 1), (.int 0), (.ref x2), (.ref x1)]
  refine Rch.go (fun t k => XS.aconstNull X0.here hx rfl (hb hby d1_5) k) ?_
  show Aw p e below _ T0 m 6 #[rv x1, rv x2] [.null, (.int 1), (.int 0), (.ref x2), (.ref x1)]
  obtain ⟨v2, T2, L2, X2, Q2, st2⟩ := callSp X0 hx hZ (m41_init l Z a0 hw x1 x2 y4 kk3 h0 n0 Z0 O0 P2 P3 P1 P4 P5 P6 P7) e0 hown rfl (wd_7 hw) (wd_8 hw) (wd_10 hw) (wd_2 hw) (by decide) (hb hby d1_6) 0 (by decide) (by decide) (by decide) (by decide) (by rw [hml]; rfl) x1 [(.ref x2), (.int 0), (.int 1), .null] [] rfl (lenOf pd_0 rfl) rfl (Nat.le_of_eq rfl) (Ls := #[rv x1, rv x2])
  obtain ⟨b2_0, k2_0, rfl, M2, K2, zz2_0, F2_0, F2_1, F2_2, F2_3⟩ := Q2
  have N2 := Fr.app N0 M2
  refine Rch.go st2 ?_
  have g_b2_0 : n0 ≤ b2_0 := Nat.le_trans Z0 zz2_0
  show Aw p e below _ T2 m 9 #[rv x1, rv x2] []
  refine Rch.void X2 hx hret hlk (hb hby d1_9) (by decide) (by decide) ?_
  exact ⟨b2_0, k2_0, rfl, N2, ((Keep.refl _ _).trans K2 (allS (Or.inl (List.mem_of_getElem? (i := 0) rfl)) all0)), (Nat.le_trans (Nat.le_refl _) zz2_0), F2_0, F2_1, F2_2, F2_3⟩
theorem ef_m47_equals (m : MethodId) (x1 x2 : Addr) : entryFrame m #[(.ref x1), (.ref x2)] 3 = mkF m 0 #[rv x1, rv x2, uu] [] := by first | rfl | (simp [entryFrame, mkF, argsToLocals, Value.category]; done)
theorem m47_equals (l : Launch) (Z : State) (a0 : Array Value) (hw : HW Z a0) (x1 x2 : Addr) (kk3 kk4 : ClassId) (h0 : Heap) (n0 : Nat) (Z0 : n0 ≤ h0.size) (O0 : Old Z n0 h0) (P1 : Arv Z Z.heap x1 kk3 .byte (1 : Int32) [(.int 69)] (.int 0)) (P2 : Arv Z h0 x2 kk4 .byte (1 : Int32) [(.int 38)] (.int 0)) :
    Ctr l Z [] (⟨s2', "equals", "([B[B)Z"⟩ : MethodName) jdk_43_method_13_code 3 (some .boolean) #[(.ref x1), (.ref x2)] h0 ({ frames := 0, cells := 0, slots := 0, locals := 0 } : Room) (fun v h L => v = some (.int 0) ∧ Fr n0 L ∧ h = h0) := by
  refine Ctr.of (plainFor_of_name pn_java_lang_StringLatin1) (fun m => ef_m47_equals m x1 x2) ?_
  intro p e s m below meth c T0 hx hZ hby hml hown hnm hret hlk X0 e0
  have N0 := Fr.nil n0
  show Aw p e below _ T0 m 0 #[rv x1, rv x2, uu] []
  refine Rch.go (fun t k => XS.aloadN X0.here hx rfl (hb hby d6_0) rfl rfl k) ?_
  show Aw p e below _ T0 m 1 #[rv x1, rv x2, uu] [(.ref x1)]
  obtain ⟨c1, r1, q1, s1, u1, H1, G1⟩ := id (P1.ext O0.2)
  refine Rch.go (fun t k => X0.arraylength hx (by rw [e0]; exact r1.1) (State.isArrayOf_alike hZ.alike r1.2.1) (g := (mkF m 1 #[rv x1, rv x2, uu] [(.ref x1)])) rfl rfl (hb hby d6_1) t (by rw [len_of s1 u1]; exact k)) ?_
  show Aw p e below _ T0 m 2 #[rv x1, rv x2, uu] [(.int 1)]
  refine Rch.go (fun t k => XS.aloadN X0.here hx rfl (hb hby d6_2) rfl rfl k) ?_
  show Aw p e below _ T0 m 3 #[rv x1, rv x2, uu] [(.ref x2), (.int 1)]
  obtain ⟨c2, r2, q2, s2, u2, H2, G2⟩ := id P2
  refine Rch.go (fun t k => X0.arraylength hx (by rw [e0]; exact r2.1) (State.isArrayOf_alike hZ.alike r2.2.1) (g := (mkF m 3 #[rv x1, rv x2, uu] [(.ref x2), (.int 1)])) rfl rfl (hb hby d6_3) t (by rw [len_of s2 u2]; exact k)) ?_
  show Aw p e below _ T0 m 4 #[rv x1, rv x2, uu] [(.int 1), (.int 1)]
  refine Rch.go (fun t k => XS.icmpNo X0.here hx rfl (hb hby d6_4) rfl (by decide) (XS.iconst X0.here hx rfl (hb hby d6_7) (XS.istoreN X0.here hx rfl (hb hby d6_8) rfl  (l' := #[rv x1, rv x2, iv 0]) rfl (XS.iloadN X0.here hx rfl (hb hby d6_9) rfl  (XS.aloadN X0.here hx rfl (hb hby d6_10) rfl rfl k))))) ?_
  show Aw p e below _ T0 m 11 #[rv x1, rv x2, iv 0] [(.ref x1), (.int 0)]
  obtain ⟨c3, r3, q3, s3, u3, H3, G3⟩ := id (P1.ext O0.2)
  refine Rch.go (fun t k => X0.arraylength hx (by rw [e0]; exact r3.1) (State.isArrayOf_alike hZ.alike r3.2.1) (g := (mkF m 11 #[rv x1, rv x2, iv 0] [(.ref x1), (.int 0)])) rfl rfl (hb hby d6_11) t (by rw [len_of s3 u3]; exact k)) ?_
  show Aw p e below _ T0 m 12 #[rv x1, rv x2, iv 0] [(.int 1), (.int 0)]
  refine Rch.go (fun t k => XS.icmpNo X0.here hx rfl (hb hby d6_12) rfl (by decide) (XS.aloadN X0.here hx rfl (hb hby d6_15) rfl rfl (XS.iloadN X0.here hx rfl (hb hby d6_16) rfl  k))) ?_
  show Aw p e below _ T0 m 17 #[rv x1, rv x2, iv 0] [(.int 0), (.ref x1)]
  obtain ⟨c4, r4, q4, s4, u4, H4, G4⟩ := id (P1.ext O0.2)
  refine Rch.go (fun t k => X0.baloadBytes hx (j := (0 : Int32)) (v := (.int 69)) (by rw [e0]; exact r4.1) (State.isArrayOf_alike hZ.alike r4.2.1) r4.2.2 (inb_of s4 (by decide)) (H4.at (inb_of s4 (by decide)) rfl) (g := (mkF m 17 #[rv x1, rv x2, iv 0] [(.int 0), (.ref x1)])) rfl rfl (hb hby d6_17) t k) ?_
  show Aw p e below _ T0 m 18 #[rv x1, rv x2, iv 0] [(.int 69)]
  refine Rch.go (fun t k => XS.aloadN X0.here hx rfl (hb hby d6_18) rfl rfl (XS.iloadN X0.here hx rfl (hb hby d6_19) rfl  k)) ?_
  show Aw p e below _ T0 m 20 #[rv x1, rv x2, iv 0] [(.int 0), (.ref x2), (.int 69)]
  obtain ⟨c5, r5, q5, s5, u5, H5, G5⟩ := id P2
  refine Rch.go (fun t k => X0.baloadBytes hx (j := (0 : Int32)) (v := (.int 38)) (by rw [e0]; exact r5.1) (State.isArrayOf_alike hZ.alike r5.2.1) r5.2.2 (inb_of s5 (by decide)) (H5.at (inb_of s5 (by decide)) rfl) (g := (mkF m 20 #[rv x1, rv x2, iv 0] [(.int 0), (.ref x2), (.int 69)])) rfl rfl (hb hby d6_20) t k) ?_
  show Aw p e below _ T0 m 21 #[rv x1, rv x2, iv 0] [(.int 38), (.int 69)]
  refine Rch.go (fun t k => XS.icmpNo X0.here hx rfl (hb hby d6_21) rfl (by decide) (XS.iconst X0.here hx rfl (hb hby d6_24) k)) ?_
  show Aw p e below _ T0 m 25 #[rv x1, rv x2, iv 0] [(.int 0)]
  refine Rch.val X0 hx (t := .boolean) hret hlk rfl (mayI (by simp)) (hb hby d6_25) (by decide) (by decide) ?_
  try rw [e0]
  exact ⟨rfl, N0, rfl⟩
theorem ef_m46_equals (m : MethodId) (x1 x2 : Addr) : entryFrame m #[(.ref x1), (.ref x2)] 3 = mkF m 0 #[rv x1, rv x2, uu] [] := by first | rfl | (simp [entryFrame, mkF, argsToLocals, Value.category]; done)
theorem m46_equals (l : Launch) (Z : State) (a0 : Array Value) (hw : HW Z a0) (x1 x2 : Addr) (y3 : Int32) (x4 x5 : Addr) (kk6 kk7 : ClassId) (h0 : Heap) (n0 : Nat) (Z0 : n0 ≤ h0.size) (O0 : Old Z n0 h0) (P1 : x1 ≠ x2) (P2 : Exa Z h0 x2 "java/lang/String") (P3 : Sta Z Z.heap "java/lang/String" "COMPACT_STRINGS" "Z" (.int y3)) (P4 : ¬ (y3 = (0 : Int32))) (P5 : Fld Z Z.heap x1 "java/lang/String" "coder" "B" (.int 0)) (P6 : Fld Z h0 x2 "java/lang/String" "coder" "B" (.int 0)) (P7 : Fld Z Z.heap x1 "java/lang/String" "value" "[B" (.ref x4)) (P8 : Fld Z h0 x2 "java/lang/String" "value" "[B" (.ref x5)) (P9 : Arv Z Z.heap x4 kk6 .byte (1 : Int32) [(.int 69)] (.int 0)) (P10 : Arv Z h0 x5 kk7 .byte (1 : Int32) [(.int 38)] (.int 0)) :
    Ctr l Z [] (⟨"java/lang/String", "equals", s5'⟩ : MethodName) jdk_42_method_66_code 3 (some .boolean) #[(.ref x1), (.ref x2)] h0 ({ frames := 1, cells := 0, slots := 0, locals := 14 } : Room) (fun v h L => v = some (.int 0) ∧ Fr n0 L ∧ h = h0) := by
  refine Ctr.of (plainFor_of_name pn_java_lang_String) (fun m => ef_m46_equals m x1 x2) ?_
  intro p e s m below meth c T0 hx hZ hby hml hown hnm hret hlk X0 e0
  have N0 := Fr.nil n0
  show Aw p e below _ T0 m 0 #[rv x1, rv x2, uu] []
  refine Rch.go (fun t k => XS.aloadN X0.here hx rfl (hb hby d5_0) rfl rfl (XS.aloadN X0.here hx rfl (hb hby d5_1) rfl rfl (acmp X0 hx rfl (x := (.ref x1)) (y := (.ref x2)) rfl rfl (pc0 := 2) (pc' := 7) (same := false) rfl (hb hby d5_2) rfl (decide_eq_false (fun q => absurd (Value.ref.inj q) P1)) (by decide) (by decide) (XS.aloadN X0.here hx rfl (hb hby d5_7) rfl rfl k)))) ?_
  show Aw p e below _ T0 m 8 #[rv x1, rv x2, uu] [(.ref x2)]
  obtain ⟨T1, X1, e1, st1⟩ := instY X0 hx hZ hown (wd_51 hw) e0 (Ins.self P2) (g := (mkF m 8 #[rv x1, rv x2, uu] [(.ref x2)])) rfl rfl (hb hby d5_8)
  refine Rch.go st1 ?_
  show Aw p e below _ T1 m 11 #[rv x1, rv x2, uu] [(.int 1)]
  refine Rch.go (fun t k => XS.ifNo X1.here hx rfl (hb hby d5_11) rfl (by decide) (XS.aloadN X1.here hx rfl (hb hby d5_14) rfl rfl k)) ?_
  show Aw p e below _ T1 m 15 #[rv x1, rv x2, uu] [(.ref x2)]
  obtain ⟨T2, X2, e2, st2⟩ := castY X1 hx hZ hown (wd_51 hw) e1 (Ins.self P2) (g := (mkF m 15 #[rv x1, rv x2, uu] [(.ref x2)])) rfl rfl (hb hby d5_15)
  refine Rch.go st2 ?_
  show Aw p e below _ T2 m 18 #[rv x1, rv x2, uu] [(.ref x2)]
  refine Rch.go (fun t k => XS.astoreN X2.here hx rfl (hb hby d5_18) rfl rfl (l' := #[rv x1, rv x2, rv x2]) rfl k) ?_
  show Aw p e below _ T2 m 19 #[rv x1, rv x2, rv x2] []
  obtain ⟨T3, X3, e3, st3⟩ := getS2 X2 hx hZ hown (host := "") (Or.inl (wd_52 hw)) Via.refl e2 (P3.ext O0.2) (g := (mkF m 19 #[rv x1, rv x2, rv x2] [])) rfl (hb hby d5_19)
  refine Rch.go st3 ?_
  show Aw p e below _ T3 m 22 #[rv x1, rv x2, rv x2] [(.int y3)]
  refine Rch.go (fun t k => XS.ifNo X3.here hx rfl (hb hby d5_22) rfl (XT.i0_eq_f P4) (XS.aloadN X3.here hx rfl (hb hby d5_25) rfl rfl k)) ?_
  show Aw p e below _ T3 m 26 #[rv x1, rv x2, rv x2] [(.ref x1)]
  obtain ⟨T4, X4, e4, st4⟩ := getF X3 hx hZ hown (host := "") (Or.inl (wd_21 hw)) Via.refl e3 (P5.ext O0.2) (g := (mkF m 26 #[rv x1, rv x2, rv x2] [(.ref x1)])) rfl rfl (hb hby d5_26)
  refine Rch.go st4 ?_
  show Aw p e below _ T4 m 29 #[rv x1, rv x2, rv x2] [(.int 0)]
  refine Rch.go (fun t k => XS.aloadN X4.here hx rfl (hb hby d5_29) rfl rfl k) ?_
  show Aw p e below _ T4 m 30 #[rv x1, rv x2, rv x2] [(.ref x2), (.int 0)]
  obtain ⟨T5, X5, e5, st5⟩ := getF X4 hx hZ hown (host := "") (Or.inl (wd_21 hw)) Via.refl e4 P6 (g := (mkF m 30 #[rv x1, rv x2, rv x2] [(.ref x2), (.int 0)])) rfl rfl (hb hby d5_30)
  refine Rch.go st5 ?_
  show Aw p e below _ T5 m 33 #[rv x1, rv x2, rv x2] [(.int 0), (.int 0)]
  refine Rch.go (fun t k => XS.icmpNo X5.here hx rfl (hb hby d5_33) rfl (by decide) (XS.aloadN X5.here hx rfl (hb hby d5_36) rfl rfl k)) ?_
  show Aw p e below _ T5 m 37 #[rv x1, rv x2, rv x2] [(.ref x1)]
  obtain ⟨T6, X6, e6, st6⟩ := getF X5 hx hZ hown (host := "") (Or.inl (wd_20 hw)) Via.refl e5 (P7.ext O0.2) (g := (mkF m 37 #[rv x1, rv x2, rv x2] [(.ref x1)])) rfl rfl (hb hby d5_37)
  refine Rch.go st6 ?_
  show Aw p e below _ T6 m 40 #[rv x1, rv x2, rv x2] [(.ref x4)]
  refine Rch.go (fun t k => XS.aloadN X6.here hx rfl (hb hby d5_40) rfl rfl k) ?_
  show Aw p e below _ T6 m 41 #[rv x1, rv x2, rv x2] [(.ref x2), (.ref x4)]
  obtain ⟨T7, X7, e7, st7⟩ := getF X6 hx hZ hown (host := "") (Or.inl (wd_20 hw)) Via.refl e6 P8 (g := (mkF m 41 #[rv x1, rv x2, rv x2] [(.ref x2), (.ref x4)])) rfl rfl (hb hby d5_41)
  refine Rch.go st7 ?_
  show Aw p e below _ T7 m 44 #[rv x1, rv x2, rv x2] [(.ref x5), (.ref x4)]
  obtain ⟨v8, T8, L8, X8, Q8, st8⟩ := callSt X7 hx hZ (m47_equals l Z a0 hw x4 x5 kk6 kk7 h0 n0 Z0 O0 P9 P10) e7 hown (wd_53 hw) (wd_54 hw) (wd_56 hw) (wd_55 hw) (by decide) (hb hby d5_44) 0 (by decide) (by decide) (by decide) (by decide) (by rw [hml]; rfl) [(.ref x4), (.ref x5)] [] rfl (lenOf pd_5 rfl) rfl (Nat.le_of_eq rfl) (Ls := #[rv x1, rv x2, rv x2])
  obtain ⟨rfl, M8, e8⟩ := Q8
  have N8 := Fr.app N0 M8
  refine Rch.go st8 ?_
  show Aw p e below _ T8 m 47 #[rv x1, rv x2, rv x2] [(.int 0)]
  refine Rch.go (fun t k => XS.ifYes X8.here hx rfl (pc0 := 47) (pc' := 54) rfl (hb hby d5_47) rfl (by decide) (by decide) (by decide) (XS.iconst X8.here hx rfl (hb hby d5_54) k)) ?_
  show Aw p e below _ T8 m 55 #[rv x1, rv x2, rv x2] [(.int 0)]
  refine Rch.val X8 hx (t := .boolean) hret hlk rfl (mayI (by simp)) (hb hby d5_55) (by decide) (by decide) ?_
  try rw [e8]
  exact ⟨rfl, N8, rfl⟩
theorem ef_m49_equals (m : MethodId) (x1 x2 : Addr) : entryFrame m #[(.ref x1), (.ref x2)] 3 = mkF m 0 #[rv x1, rv x2, uu] [] := by first | rfl | (simp [entryFrame, mkF, argsToLocals, Value.category]; done)
theorem m49_equals (l : Launch) (Z : State) (a0 : Array Value) (hw : HW Z a0) (x1 x2 : Addr) (kk3 kk4 : ClassId) (h0 : Heap) (n0 : Nat) (Z0 : n0 ≤ h0.size) (O0 : Old Z n0 h0) (P1 : Arv Z Z.heap x1 kk3 .byte (1 : Int32) [(.int 101)] (.int 0)) (P2 : Arv Z h0 x2 kk4 .byte (1 : Int32) [(.int 38)] (.int 0)) :
    Ctr l Z [] (⟨s2', "equals", "([B[B)Z"⟩ : MethodName) jdk_43_method_13_code 3 (some .boolean) #[(.ref x1), (.ref x2)] h0 ({ frames := 0, cells := 0, slots := 0, locals := 0 } : Room) (fun v h L => v = some (.int 0) ∧ Fr n0 L ∧ h = h0) := by
  refine Ctr.of (plainFor_of_name pn_java_lang_StringLatin1) (fun m => ef_m49_equals m x1 x2) ?_
  intro p e s m below meth c T0 hx hZ hby hml hown hnm hret hlk X0 e0
  have N0 := Fr.nil n0
  show Aw p e below _ T0 m 0 #[rv x1, rv x2, uu] []
  refine Rch.go (fun t k => XS.aloadN X0.here hx rfl (hb hby d6_0) rfl rfl k) ?_
  show Aw p e below _ T0 m 1 #[rv x1, rv x2, uu] [(.ref x1)]
  obtain ⟨c1, r1, q1, s1, u1, H1, G1⟩ := id (P1.ext O0.2)
  refine Rch.go (fun t k => X0.arraylength hx (by rw [e0]; exact r1.1) (State.isArrayOf_alike hZ.alike r1.2.1) (g := (mkF m 1 #[rv x1, rv x2, uu] [(.ref x1)])) rfl rfl (hb hby d6_1) t (by rw [len_of s1 u1]; exact k)) ?_
  show Aw p e below _ T0 m 2 #[rv x1, rv x2, uu] [(.int 1)]
  refine Rch.go (fun t k => XS.aloadN X0.here hx rfl (hb hby d6_2) rfl rfl k) ?_
  show Aw p e below _ T0 m 3 #[rv x1, rv x2, uu] [(.ref x2), (.int 1)]
  obtain ⟨c2, r2, q2, s2, u2, H2, G2⟩ := id P2
  refine Rch.go (fun t k => X0.arraylength hx (by rw [e0]; exact r2.1) (State.isArrayOf_alike hZ.alike r2.2.1) (g := (mkF m 3 #[rv x1, rv x2, uu] [(.ref x2), (.int 1)])) rfl rfl (hb hby d6_3) t (by rw [len_of s2 u2]; exact k)) ?_
  show Aw p e below _ T0 m 4 #[rv x1, rv x2, uu] [(.int 1), (.int 1)]
  refine Rch.go (fun t k => XS.icmpNo X0.here hx rfl (hb hby d6_4) rfl (by decide) (XS.iconst X0.here hx rfl (hb hby d6_7) (XS.istoreN X0.here hx rfl (hb hby d6_8) rfl  (l' := #[rv x1, rv x2, iv 0]) rfl (XS.iloadN X0.here hx rfl (hb hby d6_9) rfl  (XS.aloadN X0.here hx rfl (hb hby d6_10) rfl rfl k))))) ?_
  show Aw p e below _ T0 m 11 #[rv x1, rv x2, iv 0] [(.ref x1), (.int 0)]
  obtain ⟨c3, r3, q3, s3, u3, H3, G3⟩ := id (P1.ext O0.2)
  refine Rch.go (fun t k => X0.arraylength hx (by rw [e0]; exact r3.1) (State.isArrayOf_alike hZ.alike r3.2.1) (g := (mkF m 11 #[rv x1, rv x2, iv 0] [(.ref x1), (.int 0)])) rfl rfl (hb hby d6_11) t (by rw [len_of s3 u3]; exact k)) ?_
  show Aw p e below _ T0 m 12 #[rv x1, rv x2, iv 0] [(.int 1), (.int 0)]
  refine Rch.go (fun t k => XS.icmpNo X0.here hx rfl (hb hby d6_12) rfl (by decide) (XS.aloadN X0.here hx rfl (hb hby d6_15) rfl rfl (XS.iloadN X0.here hx rfl (hb hby d6_16) rfl  k))) ?_
  show Aw p e below _ T0 m 17 #[rv x1, rv x2, iv 0] [(.int 0), (.ref x1)]
  obtain ⟨c4, r4, q4, s4, u4, H4, G4⟩ := id (P1.ext O0.2)
  refine Rch.go (fun t k => X0.baloadBytes hx (j := (0 : Int32)) (v := (.int 101)) (by rw [e0]; exact r4.1) (State.isArrayOf_alike hZ.alike r4.2.1) r4.2.2 (inb_of s4 (by decide)) (H4.at (inb_of s4 (by decide)) rfl) (g := (mkF m 17 #[rv x1, rv x2, iv 0] [(.int 0), (.ref x1)])) rfl rfl (hb hby d6_17) t k) ?_
  show Aw p e below _ T0 m 18 #[rv x1, rv x2, iv 0] [(.int 101)]
  refine Rch.go (fun t k => XS.aloadN X0.here hx rfl (hb hby d6_18) rfl rfl (XS.iloadN X0.here hx rfl (hb hby d6_19) rfl  k)) ?_
  show Aw p e below _ T0 m 20 #[rv x1, rv x2, iv 0] [(.int 0), (.ref x2), (.int 101)]
  obtain ⟨c5, r5, q5, s5, u5, H5, G5⟩ := id P2
  refine Rch.go (fun t k => X0.baloadBytes hx (j := (0 : Int32)) (v := (.int 38)) (by rw [e0]; exact r5.1) (State.isArrayOf_alike hZ.alike r5.2.1) r5.2.2 (inb_of s5 (by decide)) (H5.at (inb_of s5 (by decide)) rfl) (g := (mkF m 20 #[rv x1, rv x2, iv 0] [(.int 0), (.ref x2), (.int 101)])) rfl rfl (hb hby d6_20) t k) ?_
  show Aw p e below _ T0 m 21 #[rv x1, rv x2, iv 0] [(.int 38), (.int 101)]
  refine Rch.go (fun t k => XS.icmpNo X0.here hx rfl (hb hby d6_21) rfl (by decide) (XS.iconst X0.here hx rfl (hb hby d6_24) k)) ?_
  show Aw p e below _ T0 m 25 #[rv x1, rv x2, iv 0] [(.int 0)]
  refine Rch.val X0 hx (t := .boolean) hret hlk rfl (mayI (by simp)) (hb hby d6_25) (by decide) (by decide) ?_
  try rw [e0]
  exact ⟨rfl, N0, rfl⟩
theorem ef_m48_equals (m : MethodId) (x1 x2 : Addr) : entryFrame m #[(.ref x1), (.ref x2)] 3 = mkF m 0 #[rv x1, rv x2, uu] [] := by first | rfl | (simp [entryFrame, mkF, argsToLocals, Value.category]; done)
theorem m48_equals (l : Launch) (Z : State) (a0 : Array Value) (hw : HW Z a0) (x1 x2 : Addr) (y3 : Int32) (x4 x5 : Addr) (kk6 kk7 : ClassId) (h0 : Heap) (n0 : Nat) (Z0 : n0 ≤ h0.size) (O0 : Old Z n0 h0) (P1 : x1 ≠ x2) (P2 : Exa Z h0 x2 "java/lang/String") (P3 : Sta Z Z.heap "java/lang/String" "COMPACT_STRINGS" "Z" (.int y3)) (P4 : ¬ (y3 = (0 : Int32))) (P5 : Fld Z Z.heap x1 "java/lang/String" "coder" "B" (.int 0)) (P6 : Fld Z h0 x2 "java/lang/String" "coder" "B" (.int 0)) (P7 : Fld Z Z.heap x1 "java/lang/String" "value" "[B" (.ref x4)) (P8 : Fld Z h0 x2 "java/lang/String" "value" "[B" (.ref x5)) (P9 : Arv Z Z.heap x4 kk6 .byte (1 : Int32) [(.int 101)] (.int 0)) (P10 : Arv Z h0 x5 kk7 .byte (1 : Int32) [(.int 38)] (.int 0)) :
    Ctr l Z [] (⟨"java/lang/String", "equals", s5'⟩ : MethodName) jdk_42_method_66_code 3 (some .boolean) #[(.ref x1), (.ref x2)] h0 ({ frames := 1, cells := 0, slots := 0, locals := 14 } : Room) (fun v h L => v = some (.int 0) ∧ Fr n0 L ∧ h = h0) := by
  refine Ctr.of (plainFor_of_name pn_java_lang_String) (fun m => ef_m48_equals m x1 x2) ?_
  intro p e s m below meth c T0 hx hZ hby hml hown hnm hret hlk X0 e0
  have N0 := Fr.nil n0
  show Aw p e below _ T0 m 0 #[rv x1, rv x2, uu] []
  refine Rch.go (fun t k => XS.aloadN X0.here hx rfl (hb hby d5_0) rfl rfl (XS.aloadN X0.here hx rfl (hb hby d5_1) rfl rfl (acmp X0 hx rfl (x := (.ref x1)) (y := (.ref x2)) rfl rfl (pc0 := 2) (pc' := 7) (same := false) rfl (hb hby d5_2) rfl (decide_eq_false (fun q => absurd (Value.ref.inj q) P1)) (by decide) (by decide) (XS.aloadN X0.here hx rfl (hb hby d5_7) rfl rfl k)))) ?_
  show Aw p e below _ T0 m 8 #[rv x1, rv x2, uu] [(.ref x2)]
  obtain ⟨T1, X1, e1, st1⟩ := instY X0 hx hZ hown (wd_51 hw) e0 (Ins.self P2) (g := (mkF m 8 #[rv x1, rv x2, uu] [(.ref x2)])) rfl rfl (hb hby d5_8)
  refine Rch.go st1 ?_
  show Aw p e below _ T1 m 11 #[rv x1, rv x2, uu] [(.int 1)]
  refine Rch.go (fun t k => XS.ifNo X1.here hx rfl (hb hby d5_11) rfl (by decide) (XS.aloadN X1.here hx rfl (hb hby d5_14) rfl rfl k)) ?_
  show Aw p e below _ T1 m 15 #[rv x1, rv x2, uu] [(.ref x2)]
  obtain ⟨T2, X2, e2, st2⟩ := castY X1 hx hZ hown (wd_51 hw) e1 (Ins.self P2) (g := (mkF m 15 #[rv x1, rv x2, uu] [(.ref x2)])) rfl rfl (hb hby d5_15)
  refine Rch.go st2 ?_
  show Aw p e below _ T2 m 18 #[rv x1, rv x2, uu] [(.ref x2)]
  refine Rch.go (fun t k => XS.astoreN X2.here hx rfl (hb hby d5_18) rfl rfl (l' := #[rv x1, rv x2, rv x2]) rfl k) ?_
  show Aw p e below _ T2 m 19 #[rv x1, rv x2, rv x2] []
  obtain ⟨T3, X3, e3, st3⟩ := getS2 X2 hx hZ hown (host := "") (Or.inl (wd_52 hw)) Via.refl e2 (P3.ext O0.2) (g := (mkF m 19 #[rv x1, rv x2, rv x2] [])) rfl (hb hby d5_19)
  refine Rch.go st3 ?_
  show Aw p e below _ T3 m 22 #[rv x1, rv x2, rv x2] [(.int y3)]
  refine Rch.go (fun t k => XS.ifNo X3.here hx rfl (hb hby d5_22) rfl (XT.i0_eq_f P4) (XS.aloadN X3.here hx rfl (hb hby d5_25) rfl rfl k)) ?_
  show Aw p e below _ T3 m 26 #[rv x1, rv x2, rv x2] [(.ref x1)]
  obtain ⟨T4, X4, e4, st4⟩ := getF X3 hx hZ hown (host := "") (Or.inl (wd_21 hw)) Via.refl e3 (P5.ext O0.2) (g := (mkF m 26 #[rv x1, rv x2, rv x2] [(.ref x1)])) rfl rfl (hb hby d5_26)
  refine Rch.go st4 ?_
  show Aw p e below _ T4 m 29 #[rv x1, rv x2, rv x2] [(.int 0)]
  refine Rch.go (fun t k => XS.aloadN X4.here hx rfl (hb hby d5_29) rfl rfl k) ?_
  show Aw p e below _ T4 m 30 #[rv x1, rv x2, rv x2] [(.ref x2), (.int 0)]
  obtain ⟨T5, X5, e5, st5⟩ := getF X4 hx hZ hown (host := "") (Or.inl (wd_21 hw)) Via.refl e4 P6 (g := (mkF m 30 #[rv x1, rv x2, rv x2] [(.ref x2), (.int 0)])) rfl rfl (hb hby d5_30)
  refine Rch.go st5 ?_
  show Aw p e below _ T5 m 33 #[rv x1, rv x2, rv x2] [(.int 0), (.int 0)]
  refine Rch.go (fun t k => XS.icmpNo X5.here hx rfl (hb hby d5_33) rfl (by decide) (XS.aloadN X5.here hx rfl (hb hby d5_36) rfl rfl k)) ?_
  show Aw p e below _ T5 m 37 #[rv x1, rv x2, rv x2] [(.ref x1)]
  obtain ⟨T6, X6, e6, st6⟩ := getF X5 hx hZ hown (host := "") (Or.inl (wd_20 hw)) Via.refl e5 (P7.ext O0.2) (g := (mkF m 37 #[rv x1, rv x2, rv x2] [(.ref x1)])) rfl rfl (hb hby d5_37)
  refine Rch.go st6 ?_
  show Aw p e below _ T6 m 40 #[rv x1, rv x2, rv x2] [(.ref x4)]
  refine Rch.go (fun t k => XS.aloadN X6.here hx rfl (hb hby d5_40) rfl rfl k) ?_
  show Aw p e below _ T6 m 41 #[rv x1, rv x2, rv x2] [(.ref x2), (.ref x4)]
  obtain ⟨T7, X7, e7, st7⟩ := getF X6 hx hZ hown (host := "") (Or.inl (wd_20 hw)) Via.refl e6 P8 (g := (mkF m 41 #[rv x1, rv x2, rv x2] [(.ref x2), (.ref x4)])) rfl rfl (hb hby d5_41)
  refine Rch.go st7 ?_
  show Aw p e below _ T7 m 44 #[rv x1, rv x2, rv x2] [(.ref x5), (.ref x4)]
  obtain ⟨v8, T8, L8, X8, Q8, st8⟩ := callSt X7 hx hZ (m49_equals l Z a0 hw x4 x5 kk6 kk7 h0 n0 Z0 O0 P9 P10) e7 hown (wd_53 hw) (wd_54 hw) (wd_56 hw) (wd_55 hw) (by decide) (hb hby d5_44) 0 (by decide) (by decide) (by decide) (by decide) (by rw [hml]; rfl) [(.ref x4), (.ref x5)] [] rfl (lenOf pd_5 rfl) rfl (Nat.le_of_eq rfl) (Ls := #[rv x1, rv x2, rv x2])
  obtain ⟨rfl, M8, e8⟩ := Q8
  have N8 := Fr.app N0 M8
  refine Rch.go st8 ?_
  show Aw p e below _ T8 m 47 #[rv x1, rv x2, rv x2] [(.int 0)]
  refine Rch.go (fun t k => XS.ifYes X8.here hx rfl (pc0 := 47) (pc' := 54) rfl (hb hby d5_47) rfl (by decide) (by decide) (by decide) (XS.iconst X8.here hx rfl (hb hby d5_54) k)) ?_
  show Aw p e below _ T8 m 55 #[rv x1, rv x2, rv x2] [(.int 0)]
  refine Rch.val X8 hx (t := .boolean) hret hlk rfl (mayI (by simp)) (hb hby d5_55) (by decide) (by decide) ?_
  try rw [e8]
  exact ⟨rfl, N8, rfl⟩
theorem ef_m51_equals (m : MethodId) (x1 x2 : Addr) : entryFrame m #[(.ref x1), (.ref x2)] 3 = mkF m 0 #[rv x1, rv x2, uu] [] := by first | rfl | (simp [entryFrame, mkF, argsToLocals, Value.category]; done)
theorem m51_equals (l : Launch) (Z : State) (a0 : Array Value) (hw : HW Z a0) (x1 x2 : Addr) (kk3 kk4 : ClassId) (h0 : Heap) (n0 : Nat) (Z0 : n0 ≤ h0.size) (O0 : Old Z n0 h0) (P1 : Arv Z Z.heap x1 kk3 .byte (1 : Int32) [(.int 38)] (.int 0)) (P2 : Arv Z h0 x2 kk4 .byte (1 : Int32) [(.int 38)] (.int 0)) :
    Ctr l Z [] (⟨s2', "equals", "([B[B)Z"⟩ : MethodName) jdk_43_method_13_code 3 (some .boolean) #[(.ref x1), (.ref x2)] h0 ({ frames := 0, cells := 0, slots := 0, locals := 0 } : Room) (fun v h L => v = some (.int 1) ∧ Fr n0 L ∧ h = h0) := by
  refine Ctr.of (plainFor_of_name pn_java_lang_StringLatin1) (fun m => ef_m51_equals m x1 x2) ?_
  intro p e s m below meth c T0 hx hZ hby hml hown hnm hret hlk X0 e0
  have N0 := Fr.nil n0
  show Aw p e below _ T0 m 0 #[rv x1, rv x2, uu] []
  refine Rch.go (fun t k => XS.aloadN X0.here hx rfl (hb hby d6_0) rfl rfl k) ?_
  show Aw p e below _ T0 m 1 #[rv x1, rv x2, uu] [(.ref x1)]
  obtain ⟨c1, r1, q1, s1, u1, H1, G1⟩ := id (P1.ext O0.2)
  refine Rch.go (fun t k => X0.arraylength hx (by rw [e0]; exact r1.1) (State.isArrayOf_alike hZ.alike r1.2.1) (g := (mkF m 1 #[rv x1, rv x2, uu] [(.ref x1)])) rfl rfl (hb hby d6_1) t (by rw [len_of s1 u1]; exact k)) ?_
  show Aw p e below _ T0 m 2 #[rv x1, rv x2, uu] [(.int 1)]
  refine Rch.go (fun t k => XS.aloadN X0.here hx rfl (hb hby d6_2) rfl rfl k) ?_
  show Aw p e below _ T0 m 3 #[rv x1, rv x2, uu] [(.ref x2), (.int 1)]
  obtain ⟨c2, r2, q2, s2, u2, H2, G2⟩ := id P2
  refine Rch.go (fun t k => X0.arraylength hx (by rw [e0]; exact r2.1) (State.isArrayOf_alike hZ.alike r2.2.1) (g := (mkF m 3 #[rv x1, rv x2, uu] [(.ref x2), (.int 1)])) rfl rfl (hb hby d6_3) t (by rw [len_of s2 u2]; exact k)) ?_
  show Aw p e below _ T0 m 4 #[rv x1, rv x2, uu] [(.int 1), (.int 1)]
  refine Rch.go (fun t k => XS.icmpNo X0.here hx rfl (hb hby d6_4) rfl (by decide) (XS.iconst X0.here hx rfl (hb hby d6_7) (XS.istoreN X0.here hx rfl (hb hby d6_8) rfl  (l' := #[rv x1, rv x2, iv 0]) rfl (XS.iloadN X0.here hx rfl (hb hby d6_9) rfl  (XS.aloadN X0.here hx rfl (hb hby d6_10) rfl rfl k))))) ?_
  show Aw p e below _ T0 m 11 #[rv x1, rv x2, iv 0] [(.ref x1), (.int 0)]
  obtain ⟨c3, r3, q3, s3, u3, H3, G3⟩ := id (P1.ext O0.2)
  refine Rch.go (fun t k => X0.arraylength hx (by rw [e0]; exact r3.1) (State.isArrayOf_alike hZ.alike r3.2.1) (g := (mkF m 11 #[rv x1, rv x2, iv 0] [(.ref x1), (.int 0)])) rfl rfl (hb hby d6_11) t (by rw [len_of s3 u3]; exact k)) ?_
  show Aw p e below _ T0 m 12 #[rv x1, rv x2, iv 0] [(.int 1), (.int 0)]
  refine Rch.go (fun t k => XS.icmpNo X0.here hx rfl (hb hby d6_12) rfl (by decide) (XS.aloadN X0.here hx rfl (hb hby d6_15) rfl rfl (XS.iloadN X0.here hx rfl (hb hby d6_16) rfl  k))) ?_
  show Aw p e below _ T0 m 17 #[rv x1, rv x2, iv 0] [(.int 0), (.ref x1)]
  obtain ⟨c4, r4, q4, s4, u4, H4, G4⟩ := id (P1.ext O0.2)
  refine Rch.go (fun t k => X0.baloadBytes hx (j := (0 : Int32)) (v := (.int 38)) (by rw [e0]; exact r4.1) (State.isArrayOf_alike hZ.alike r4.2.1) r4.2.2 (inb_of s4 (by decide)) (H4.at (inb_of s4 (by decide)) rfl) (g := (mkF m 17 #[rv x1, rv x2, iv 0] [(.int 0), (.ref x1)])) rfl rfl (hb hby d6_17) t k) ?_
  show Aw p e below _ T0 m 18 #[rv x1, rv x2, iv 0] [(.int 38)]
  refine Rch.go (fun t k => XS.aloadN X0.here hx rfl (hb hby d6_18) rfl rfl (XS.iloadN X0.here hx rfl (hb hby d6_19) rfl  k)) ?_
  show Aw p e below _ T0 m 20 #[rv x1, rv x2, iv 0] [(.int 0), (.ref x2), (.int 38)]
  obtain ⟨c5, r5, q5, s5, u5, H5, G5⟩ := id P2
  refine Rch.go (fun t k => X0.baloadBytes hx (j := (0 : Int32)) (v := (.int 38)) (by rw [e0]; exact r5.1) (State.isArrayOf_alike hZ.alike r5.2.1) r5.2.2 (inb_of s5 (by decide)) (H5.at (inb_of s5 (by decide)) rfl) (g := (mkF m 20 #[rv x1, rv x2, iv 0] [(.int 0), (.ref x2), (.int 38)])) rfl rfl (hb hby d6_20) t k) ?_
  show Aw p e below _ T0 m 21 #[rv x1, rv x2, iv 0] [(.int 38), (.int 38)]
  refine Rch.go (fun t k => XS.icmpYes X0.here hx rfl (pc0 := 21) (pc' := 26) rfl (hb hby d6_21) rfl (by decide) (by decide) (by decide) (XS.iinc X0.here hx rfl (hb hby d6_26) rfl (l' := #[rv x1, rv x2, iv 1]) rfl (XS.goto X0.here hx rfl (pc0 := 29) (pc' := 9) rfl (hb hby d6_29) (by decide) (by decide) (XS.iloadN X0.here hx rfl (hb hby d6_9) rfl  (XS.aloadN X0.here hx rfl (hb hby d6_10) rfl rfl k))))) ?_
  show Aw p e below _ T0 m 11 #[rv x1, rv x2, iv 1] [(.ref x1), (.int 1)]
  obtain ⟨c6, r6, q6, s6, u6, H6, G6⟩ := id (P1.ext O0.2)
  refine Rch.go (fun t k => X0.arraylength hx (by rw [e0]; exact r6.1) (State.isArrayOf_alike hZ.alike r6.2.1) (g := (mkF m 11 #[rv x1, rv x2, iv 1] [(.ref x1), (.int 1)])) rfl rfl (hb hby d6_11) t (by rw [len_of s6 u6]; exact k)) ?_
  show Aw p e below _ T0 m 12 #[rv x1, rv x2, iv 1] [(.int 1), (.int 1)]
  refine Rch.go (fun t k => XS.icmpYes X0.here hx rfl (pc0 := 12) (pc' := 32) rfl (hb hby d6_12) rfl (by decide) (by decide) (by decide) (XS.iconst X0.here hx rfl (hb hby d6_32) k)) ?_
  show Aw p e below _ T0 m 33 #[rv x1, rv x2, iv 1] [(.int 1)]
  refine Rch.val X0 hx (t := .boolean) hret hlk rfl (mayI (by simp)) (hb hby d6_33) (by decide) (by decide) ?_
  try rw [e0]
  exact ⟨rfl, N0, rfl⟩
theorem ef_m50_equals (m : MethodId) (x1 x2 : Addr) : entryFrame m #[(.ref x1), (.ref x2)] 3 = mkF m 0 #[rv x1, rv x2, uu] [] := by first | rfl | (simp [entryFrame, mkF, argsToLocals, Value.category]; done)
theorem m50_equals (l : Launch) (Z : State) (a0 : Array Value) (hw : HW Z a0) (x1 x2 : Addr) (y3 : Int32) (x4 x5 : Addr) (kk6 kk7 : ClassId) (h0 : Heap) (n0 : Nat) (Z0 : n0 ≤ h0.size) (O0 : Old Z n0 h0) (P1 : x1 ≠ x2) (P2 : Exa Z h0 x2 "java/lang/String") (P3 : Sta Z Z.heap "java/lang/String" "COMPACT_STRINGS" "Z" (.int y3)) (P4 : ¬ (y3 = (0 : Int32))) (P5 : Fld Z Z.heap x1 "java/lang/String" "coder" "B" (.int 0)) (P6 : Fld Z h0 x2 "java/lang/String" "coder" "B" (.int 0)) (P7 : Fld Z Z.heap x1 "java/lang/String" "value" "[B" (.ref x4)) (P8 : Fld Z h0 x2 "java/lang/String" "value" "[B" (.ref x5)) (P9 : Arv Z Z.heap x4 kk6 .byte (1 : Int32) [(.int 38)] (.int 0)) (P10 : Arv Z h0 x5 kk7 .byte (1 : Int32) [(.int 38)] (.int 0)) :
    Ctr l Z [] (⟨"java/lang/String", "equals", s5'⟩ : MethodName) jdk_42_method_66_code 3 (some .boolean) #[(.ref x1), (.ref x2)] h0 ({ frames := 1, cells := 0, slots := 0, locals := 14 } : Room) (fun v h L => v = some (.int 1) ∧ Fr n0 L ∧ h = h0) := by
  refine Ctr.of (plainFor_of_name pn_java_lang_String) (fun m => ef_m50_equals m x1 x2) ?_
  intro p e s m below meth c T0 hx hZ hby hml hown hnm hret hlk X0 e0
  have N0 := Fr.nil n0
  show Aw p e below _ T0 m 0 #[rv x1, rv x2, uu] []
  refine Rch.go (fun t k => XS.aloadN X0.here hx rfl (hb hby d5_0) rfl rfl (XS.aloadN X0.here hx rfl (hb hby d5_1) rfl rfl (acmp X0 hx rfl (x := (.ref x1)) (y := (.ref x2)) rfl rfl (pc0 := 2) (pc' := 7) (same := false) rfl (hb hby d5_2) rfl (decide_eq_false (fun q => absurd (Value.ref.inj q) P1)) (by decide) (by decide) (XS.aloadN X0.here hx rfl (hb hby d5_7) rfl rfl k)))) ?_
  show Aw p e below _ T0 m 8 #[rv x1, rv x2, uu] [(.ref x2)]
  obtain ⟨T1, X1, e1, st1⟩ := instY X0 hx hZ hown (wd_51 hw) e0 (Ins.self P2) (g := (mkF m 8 #[rv x1, rv x2, uu] [(.ref x2)])) rfl rfl (hb hby d5_8)
  refine Rch.go st1 ?_
  show Aw p e below _ T1 m 11 #[rv x1, rv x2, uu] [(.int 1)]
  refine Rch.go (fun t k => XS.ifNo X1.here hx rfl (hb hby d5_11) rfl (by decide) (XS.aloadN X1.here hx rfl (hb hby d5_14) rfl rfl k)) ?_
  show Aw p e below _ T1 m 15 #[rv x1, rv x2, uu] [(.ref x2)]
  obtain ⟨T2, X2, e2, st2⟩ := castY X1 hx hZ hown (wd_51 hw) e1 (Ins.self P2) (g := (mkF m 15 #[rv x1, rv x2, uu] [(.ref x2)])) rfl rfl (hb hby d5_15)
  refine Rch.go st2 ?_
  show Aw p e below _ T2 m 18 #[rv x1, rv x2, uu] [(.ref x2)]
  refine Rch.go (fun t k => XS.astoreN X2.here hx rfl (hb hby d5_18) rfl rfl (l' := #[rv x1, rv x2, rv x2]) rfl k) ?_
  show Aw p e below _ T2 m 19 #[rv x1, rv x2, rv x2] []
  obtain ⟨T3, X3, e3, st3⟩ := getS2 X2 hx hZ hown (host := "") (Or.inl (wd_52 hw)) Via.refl e2 (P3.ext O0.2) (g := (mkF m 19 #[rv x1, rv x2, rv x2] [])) rfl (hb hby d5_19)
  refine Rch.go st3 ?_
  show Aw p e below _ T3 m 22 #[rv x1, rv x2, rv x2] [(.int y3)]
  refine Rch.go (fun t k => XS.ifNo X3.here hx rfl (hb hby d5_22) rfl (XT.i0_eq_f P4) (XS.aloadN X3.here hx rfl (hb hby d5_25) rfl rfl k)) ?_
  show Aw p e below _ T3 m 26 #[rv x1, rv x2, rv x2] [(.ref x1)]
  obtain ⟨T4, X4, e4, st4⟩ := getF X3 hx hZ hown (host := "") (Or.inl (wd_21 hw)) Via.refl e3 (P5.ext O0.2) (g := (mkF m 26 #[rv x1, rv x2, rv x2] [(.ref x1)])) rfl rfl (hb hby d5_26)
  refine Rch.go st4 ?_
  show Aw p e below _ T4 m 29 #[rv x1, rv x2, rv x2] [(.int 0)]
  refine Rch.go (fun t k => XS.aloadN X4.here hx rfl (hb hby d5_29) rfl rfl k) ?_
  show Aw p e below _ T4 m 30 #[rv x1, rv x2, rv x2] [(.ref x2), (.int 0)]
  obtain ⟨T5, X5, e5, st5⟩ := getF X4 hx hZ hown (host := "") (Or.inl (wd_21 hw)) Via.refl e4 P6 (g := (mkF m 30 #[rv x1, rv x2, rv x2] [(.ref x2), (.int 0)])) rfl rfl (hb hby d5_30)
  refine Rch.go st5 ?_
  show Aw p e below _ T5 m 33 #[rv x1, rv x2, rv x2] [(.int 0), (.int 0)]
  refine Rch.go (fun t k => XS.icmpNo X5.here hx rfl (hb hby d5_33) rfl (by decide) (XS.aloadN X5.here hx rfl (hb hby d5_36) rfl rfl k)) ?_
  show Aw p e below _ T5 m 37 #[rv x1, rv x2, rv x2] [(.ref x1)]
  obtain ⟨T6, X6, e6, st6⟩ := getF X5 hx hZ hown (host := "") (Or.inl (wd_20 hw)) Via.refl e5 (P7.ext O0.2) (g := (mkF m 37 #[rv x1, rv x2, rv x2] [(.ref x1)])) rfl rfl (hb hby d5_37)
  refine Rch.go st6 ?_
  show Aw p e below _ T6 m 40 #[rv x1, rv x2, rv x2] [(.ref x4)]
  refine Rch.go (fun t k => XS.aloadN X6.here hx rfl (hb hby d5_40) rfl rfl k) ?_
  show Aw p e below _ T6 m 41 #[rv x1, rv x2, rv x2] [(.ref x2), (.ref x4)]
  obtain ⟨T7, X7, e7, st7⟩ := getF X6 hx hZ hown (host := "") (Or.inl (wd_20 hw)) Via.refl e6 P8 (g := (mkF m 41 #[rv x1, rv x2, rv x2] [(.ref x2), (.ref x4)])) rfl rfl (hb hby d5_41)
  refine Rch.go st7 ?_
  show Aw p e below _ T7 m 44 #[rv x1, rv x2, rv x2] [(.ref x5), (.ref x4)]
  obtain ⟨v8, T8, L8, X8, Q8, st8⟩ := callSt X7 hx hZ (m51_equals l Z a0 hw x4 x5 kk6 kk7 h0 n0 Z0 O0 P9 P10) e7 hown (wd_53 hw) (wd_54 hw) (wd_56 hw) (wd_55 hw) (by decide) (hb hby d5_44) 0 (by decide) (by decide) (by decide) (by decide) (by rw [hml]; rfl) [(.ref x4), (.ref x5)] [] rfl (lenOf pd_5 rfl) rfl (Nat.le_of_eq rfl) (Ls := #[rv x1, rv x2, rv x2])
  obtain ⟨rfl, M8, e8⟩ := Q8
  have N8 := Fr.app N0 M8
  refine Rch.go st8 ?_
  show Aw p e below _ T8 m 47 #[rv x1, rv x2, rv x2] [(.int 1)]
  refine Rch.go (fun t k => XS.ifNo X8.here hx rfl (hb hby d5_47) rfl (by decide) (XS.iconst X8.here hx rfl (hb hby d5_50) (XS.goto X8.here hx rfl (pc0 := 51) (pc' := 55) rfl (hb hby d5_51) (by decide) (by decide) k))) ?_
  show Aw p e below _ T8 m 55 #[rv x1, rv x2, rv x2] [(.int 1)]
  refine Rch.val X8 hx (t := .boolean) hret hlk rfl (mayI (by simp)) (hb hby d5_55) (by decide) (by decide) ?_
  try rw [e8]
  exact ⟨rfl, N8, rfl⟩
theorem ef_m45_of (m : MethodId) (x1 : Addr) : entryFrame m #[(.ref x1)] 5 = mkF m 0 #[rv x1, uu, uu, uu, uu] [] := by first | rfl | (simp [entryFrame, mkF, argsToLocals, Value.category]; done)
theorem m45_of (l : Launch) (Z : State) (a0 : Array Value) (hw : HW Z a0) (x1 x2 : Addr) (kk3 : ClassId) (x4 x5 x6 x7 : Addr) (y8 : Int32) (x9 x10 : Addr) (kk11 kk12 : ClassId) (x13 x14 : Addr) (kk15 : ClassId) (x16 x17 : Addr) (kk18 : ClassId) (h0 : Heap) (n0 : Nat) (Z0 : n0 ≤ h0.size) (O0 : Old Z n0 h0) (P1 : Sta Z Z.heap s1' "$VALUES" s3' (.ref x2)) (P2 : Arv Z Z.heap x2 kk3 (.object s1') (3 : Int32) [(.ref x4), (.ref x5), (.ref x6)] .null) (P3 : Exa Z Z.heap x2 s3') (P4 : Fld Z Z.heap x4 s1' "text" "Ljava/lang/String;" (.ref x7)) (P5 : Exa Z Z.heap x7 "java/lang/String") (P6 : x7 ≠ x1) (P7 : Exa Z h0 x1 "java/lang/String") (P8 : Sta Z Z.heap "java/lang/String" "COMPACT_STRINGS" "Z" (.int y8)) (P9 : ¬ (y8 = (0 : Int32))) (P10 : Fld Z Z.heap x7 "java/lang/String" "coder" "B" (.int 0)) (P11 : Fld Z h0 x1 "java/lang/String" "coder" "B" (.int 0)) (P12 : Fld Z Z.heap x7 "java/lang/String" "value" "[B" (.ref x9)) (P13 : Fld Z h0 x1 "java/lang/String" "value" "[B" (.ref x10)) (P14 : Arv Z Z.heap x9 kk11 .byte (1 : Int32) [(.int 69)] (.int 0)) (P15 : Arv Z h0 x10 kk12 .byte (1 : Int32) [(.int 38)] (.int 0)) (P16 : Fld Z Z.heap x5 s1' "text" "Ljava/lang/String;" (.ref x13)) (P17 : Exa Z Z.heap x13 "java/lang/String") (P18 : x13 ≠ x1) (P19 : Fld Z Z.heap x13 "java/lang/String" "coder" "B" (.int 0)) (P20 : Fld Z Z.heap x13 "java/lang/String" "value" "[B" (.ref x14)) (P21 : Arv Z Z.heap x14 kk15 .byte (1 : Int32) [(.int 101)] (.int 0)) (P22 : Fld Z Z.heap x6 s1' "text" "Ljava/lang/String;" (.ref x16)) (P23 : Exa Z Z.heap x16 "java/lang/String") (P24 : x16 ≠ x1) (P25 : Fld Z Z.heap x16 "java/lang/String" "coder" "B" (.int 0)) (P26 : Fld Z Z.heap x16 "java/lang/String" "value" "[B" (.ref x17)) (P27 : Arv Z Z.heap x17 kk18 .byte (1 : Int32) [(.int 38)] (.int 0)) :
    Ctr l Z [] (⟨s1', "of", s8'⟩ : MethodName) prog_61_method_4_code 5 (some (.object s1')) #[(.ref x1)] h0 ({ frames := 2, cells := 1, slots := 3, locals := 28 } : Room) (fun v h L => v = some (.ref x6) ∧ Fr n0 L ∧ Keep h0 h []) := by
  refine Ctr.of (plainFor_of_name pn_com_example_knit_theories_knittheories_model_Gather) (fun m => ef_m45_of m x1) ?_
  intro p e s m below meth c T0 hx hZ hby hml hown hnm hret hlk X0 e0
  have N0 := Fr.nil n0
  show Aw p e below _ T0 m 0 #[rv x1, uu, uu, uu, uu] []
  obtain ⟨v1, T1, L1, X1, Q1, st1⟩ := callSt X0 hx hZ (m2_values l Z a0 hw x2 kk3 x4 x5 x6 h0 n0 Z0 O0 P1 P2 P3) e0 hown (wd_26 hw) (wd_27 hw) (wd_28 hw) (wd_24 hw) (by decide) (hb hby d3_0) 0 (by decide) (by decide) (by decide) (by decide) (by rw [hml]; rfl) [] [] rfl (lenOf pd_1 rfl) rfl (Nat.le_of_eq rfl) (Ls := #[rv x1, uu, uu, uu, uu])
  obtain ⟨b1_0, rfl, M1, K1, zz1_0, F1_0, F1_1⟩ := Q1
  have N1 := Fr.app N0 M1
  refine Rch.go st1 ?_
  have g_b1_0 : n0 ≤ b1_0 := Nat.le_trans Z0 zz1_0
  show Aw p e below _ T1 m 3 #[rv x1, uu, uu, uu, uu] [(.ref b1_0)]
  refine Rch.go (fun t k => XS.astoreN X1.here hx rfl (hb hby d3_3) rfl rfl (l' := #[rv x1, rv b1_0, uu, uu, uu]) rfl (XS.aloadN X1.here hx rfl (hb hby d3_4) rfl rfl k)) ?_
  show Aw p e below _ T1 m 5 #[rv x1, rv b1_0, uu, uu, uu] [(.ref b1_0)]
  obtain ⟨c2, r2, q2, s2, u2, H2, G2⟩ := id F1_1
  refine Rch.go (fun t k => X1.arraylength hx r2.1 (State.isArrayOf_alike hZ.alike r2.2.1) (g := (mkF m 5 #[rv x1, rv b1_0, uu, uu, uu] [(.ref b1_0)])) rfl rfl (hb hby d3_5) t (by rw [len_of s2 u2]; exact k)) ?_
  show Aw p e below _ T1 m 6 #[rv x1, rv b1_0, uu, uu, uu] [(.int 3)]
  refine Rch.go (fun t k => XS.istoreN X1.here hx rfl (hb hby d3_6) rfl  (l' := #[rv x1, rv b1_0, iv 3, uu, uu]) rfl (XS.iconst X1.here hx rfl (hb hby d3_7) (XS.istoreN X1.here hx rfl (hb hby d3_8) rfl  (l' := #[rv x1, rv b1_0, iv 3, iv 0, uu]) rfl (XS.iloadN X1.here hx rfl (hb hby d3_9) rfl  (XS.iloadN X1.here hx rfl (hb hby d3_10) rfl  (XS.icmpNo X1.here hx rfl (hb hby d3_11) rfl (by decide) (XS.aloadN X1.here hx rfl (hb hby d3_14) rfl rfl (XS.iloadN X1.here hx rfl (hb hby d3_15) rfl  k)))))))) ?_
  show Aw p e below _ T1 m 16 #[rv x1, rv b1_0, iv 3, iv 0, uu] [(.int 0), (.ref b1_0)]
  obtain ⟨c3, r3, q3, s3, u3, H3, G3⟩ := id F1_1
  refine Rch.go (fun t k => X1.aaload hx (j := (0 : Int32)) (v := (.ref x4)) r3.1 (State.isArrayOf_alike hZ.alike r3.2.1) rfl r3.2.2 (inb_of s3 (by decide)) (H3.at (inb_of s3 (by decide)) rfl) (g := (mkF m 16 #[rv x1, rv b1_0, iv 3, iv 0, uu] [(.int 0), (.ref b1_0)])) rfl rfl (hb hby d3_16) t k) ?_
  show Aw p e below _ T1 m 17 #[rv x1, rv b1_0, iv 3, iv 0, uu] [(.ref x4)]
  refine Rch.go (fun t k => XS.astore X1.here hx rfl (hb hby d3_17) rfl rfl (l' := #[rv x1, rv b1_0, iv 3, iv 0, rv x4]) rfl (XS.aload X1.here hx rfl (hb hby d3_19) rfl rfl k)) ?_
  show Aw p e below _ T1 m 21 #[rv x1, rv b1_0, iv 3, iv 0, rv x4] [(.ref x4)]
  have o5 := (O0.keep K1 all0)
  obtain ⟨T4, X4, e4, st4⟩ := getF X1 hx hZ hown (host := "") (Or.inl (wd_44 hw)) Via.refl rfl (P4.ext o5.2) (g := (mkF m 21 #[rv x1, rv b1_0, iv 3, iv 0, rv x4] [(.ref x4)])) rfl rfl (hb hby d3_21)
  refine Rch.go st4 ?_
  show Aw p e below _ T4 m 24 #[rv x1, rv b1_0, iv 3, iv 0, rv x4] [(.ref x7)]
  refine Rch.go (fun t k => XS.aloadN X4.here hx rfl (hb hby d3_24) rfl rfl k) ?_
  show Aw p e below _ T4 m 25 #[rv x1, rv b1_0, iv 3, iv 0, rv x4] [(.ref x1), (.ref x7)]
  have f6 := (P7.keep K1)
  have f7 := (P11.keep K1 nin0)
  have f8 := (P13.keep K1 nin0)
  have f9 := (P15.keep K1 nin0)
  have z10 := (Nat.le_trans Z0 K1.1)
  obtain ⟨v11, T11, L11, X11, Q11, st11⟩ := callVi X4 hx hZ (m46_equals l Z a0 hw x7 x1 y8 x9 x10 kk11 kk12 T1.heap n0 z10 o5 P6 f6 P8 P9 P10 f7 P12 f8 P14 f9) e4 hown (wd_46 hw) (wd_47 hw) (wd_49 hw) (notFace_of_selects (args := #[]) (mvT hZ (wd_49 hw))) (wd_48 hw) (wd_50 hw) (wd_2 hw) (by decide) (hb hby d3_25) 0 (by decide) (by decide) (by decide) (by decide) (by rw [hml]; rfl) x7 (P5.ext o5.2) [(.ref x1)] [] rfl (lenOf pd_2 rfl) rfl (Nat.le_of_eq rfl) (Ls := #[rv x1, rv b1_0, iv 3, iv 0, rv x4])
  obtain ⟨rfl, M11, e11⟩ := Q11
  have N11 := Fr.app N1 M11
  refine Rch.go st11 ?_
  show Aw p e below _ T11 m 28 #[rv x1, rv b1_0, iv 3, iv 0, rv x4] [(.int 0)]
  refine Rch.go (fun t k => XS.ifYes X11.here hx rfl (pc0 := 28) (pc' := 34) rfl (hb hby d3_28) rfl (by decide) (by decide) (by decide) (XS.iinc X11.here hx rfl (hb hby d3_34) rfl (l' := #[rv x1, rv b1_0, iv 3, iv 1, rv x4]) rfl (XS.goto X11.here hx rfl (pc0 := 37) (pc' := 9) rfl (hb hby d3_37) (by decide) (by decide) (XS.iloadN X11.here hx rfl (hb hby d3_9) rfl  (XS.iloadN X11.here hx rfl (hb hby d3_10) rfl  (XS.icmpNo X11.here hx rfl (hb hby d3_11) rfl (by decide) (XS.aloadN X11.here hx rfl (hb hby d3_14) rfl rfl (XS.iloadN X11.here hx rfl (hb hby d3_15) rfl  k)))))))) ?_
  show Aw p e below _ T11 m 16 #[rv x1, rv b1_0, iv 3, iv 1, rv x4] [(.int 1), (.ref b1_0)]
  obtain ⟨c12, r12, q12, s12, u12, H12, G12⟩ := id F1_1
  refine Rch.go (fun t k => X11.aaload hx (j := (1 : Int32)) (v := (.ref x5)) (by rw [e11]; exact r12.1) (State.isArrayOf_alike hZ.alike r12.2.1) rfl r12.2.2 (inb_of s12 (by decide)) (H12.at (inb_of s12 (by decide)) rfl) (g := (mkF m 16 #[rv x1, rv b1_0, iv 3, iv 1, rv x4] [(.int 1), (.ref b1_0)])) rfl rfl (hb hby d3_16) t k) ?_
  show Aw p e below _ T11 m 17 #[rv x1, rv b1_0, iv 3, iv 1, rv x4] [(.ref x5)]
  refine Rch.go (fun t k => XS.astore X11.here hx rfl (hb hby d3_17) rfl rfl (l' := #[rv x1, rv b1_0, iv 3, iv 1, rv x5]) rfl (XS.aload X11.here hx rfl (hb hby d3_19) rfl rfl k)) ?_
  show Aw p e below _ T11 m 21 #[rv x1, rv b1_0, iv 3, iv 1, rv x5] [(.ref x5)]
  obtain ⟨T13, X13, e13, st13⟩ := getF X11 hx hZ hown (host := "") (Or.inl (wd_44 hw)) Via.refl e11 (P16.ext o5.2) (g := (mkF m 21 #[rv x1, rv b1_0, iv 3, iv 1, rv x5] [(.ref x5)])) rfl rfl (hb hby d3_21)
  refine Rch.go st13 ?_
  show Aw p e below _ T13 m 24 #[rv x1, rv b1_0, iv 3, iv 1, rv x5] [(.ref x13)]
  refine Rch.go (fun t k => XS.aloadN X13.here hx rfl (hb hby d3_24) rfl rfl k) ?_
  show Aw p e below _ T13 m 25 #[rv x1, rv b1_0, iv 3, iv 1, rv x5] [(.ref x1), (.ref x13)]
  obtain ⟨v14, T14, L14, X14, Q14, st14⟩ := callVi X13 hx hZ (m48_equals l Z a0 hw x13 x1 y8 x14 x10 kk15 kk12 T1.heap n0 z10 o5 P18 f6 P8 P9 P19 f7 P20 f8 P21 f9) e13 hown (wd_46 hw) (wd_47 hw) (wd_49 hw) (notFace_of_selects (args := #[]) (mvT hZ (wd_49 hw))) (wd_48 hw) (wd_50 hw) (wd_2 hw) (by decide) (hb hby d3_25) 0 (by decide) (by decide) (by decide) (by decide) (by rw [hml]; rfl) x13 (P17.ext o5.2) [(.ref x1)] [] rfl (lenOf pd_2 rfl) rfl (Nat.le_of_eq rfl) (Ls := #[rv x1, rv b1_0, iv 3, iv 1, rv x5])
  obtain ⟨rfl, M14, e14⟩ := Q14
  have N14 := Fr.app N11 M14
  refine Rch.go st14 ?_
  show Aw p e below _ T14 m 28 #[rv x1, rv b1_0, iv 3, iv 1, rv x5] [(.int 0)]
  refine Rch.go (fun t k => XS.ifYes X14.here hx rfl (pc0 := 28) (pc' := 34) rfl (hb hby d3_28) rfl (by decide) (by decide) (by decide) (XS.iinc X14.here hx rfl (hb hby d3_34) rfl (l' := #[rv x1, rv b1_0, iv 3, iv 2, rv x5]) rfl (XS.goto X14.here hx rfl (pc0 := 37) (pc' := 9) rfl (hb hby d3_37) (by decide) (by decide) (XS.iloadN X14.here hx rfl (hb hby d3_9) rfl  (XS.iloadN X14.here hx rfl (hb hby d3_10) rfl  (XS.icmpNo X14.here hx rfl (hb hby d3_11) rfl (by decide) (XS.aloadN X14.here hx rfl (hb hby d3_14) rfl rfl (XS.iloadN X14.here hx rfl (hb hby d3_15) rfl  k)))))))) ?_
  show Aw p e below _ T14 m 16 #[rv x1, rv b1_0, iv 3, iv 2, rv x5] [(.int 2), (.ref b1_0)]
  obtain ⟨c15, r15, q15, s15, u15, H15, G15⟩ := id F1_1
  refine Rch.go (fun t k => X14.aaload hx (j := (2 : Int32)) (v := (.ref x6)) (by rw [e14]; exact r15.1) (State.isArrayOf_alike hZ.alike r15.2.1) rfl r15.2.2 (inb_of s15 (by decide)) (H15.at (inb_of s15 (by decide)) rfl) (g := (mkF m 16 #[rv x1, rv b1_0, iv 3, iv 2, rv x5] [(.int 2), (.ref b1_0)])) rfl rfl (hb hby d3_16) t k) ?_
  show Aw p e below _ T14 m 17 #[rv x1, rv b1_0, iv 3, iv 2, rv x5] [(.ref x6)]
  refine Rch.go (fun t k => XS.astore X14.here hx rfl (hb hby d3_17) rfl rfl (l' := #[rv x1, rv b1_0, iv 3, iv 2, rv x6]) rfl (XS.aload X14.here hx rfl (hb hby d3_19) rfl rfl k)) ?_
  show Aw p e below _ T14 m 21 #[rv x1, rv b1_0, iv 3, iv 2, rv x6] [(.ref x6)]
  obtain ⟨T16, X16, e16, st16⟩ := getF X14 hx hZ hown (host := "") (Or.inl (wd_44 hw)) Via.refl e14 (P22.ext o5.2) (g := (mkF m 21 #[rv x1, rv b1_0, iv 3, iv 2, rv x6] [(.ref x6)])) rfl rfl (hb hby d3_21)
  refine Rch.go st16 ?_
  show Aw p e below _ T16 m 24 #[rv x1, rv b1_0, iv 3, iv 2, rv x6] [(.ref x16)]
  refine Rch.go (fun t k => XS.aloadN X16.here hx rfl (hb hby d3_24) rfl rfl k) ?_
  show Aw p e below _ T16 m 25 #[rv x1, rv b1_0, iv 3, iv 2, rv x6] [(.ref x1), (.ref x16)]
  obtain ⟨v17, T17, L17, X17, Q17, st17⟩ := callVi X16 hx hZ (m50_equals l Z a0 hw x16 x1 y8 x17 x10 kk18 kk12 T1.heap n0 z10 o5 P24 f6 P8 P9 P25 f7 P26 f8 P27 f9) e16 hown (wd_46 hw) (wd_47 hw) (wd_49 hw) (notFace_of_selects (args := #[]) (mvT hZ (wd_49 hw))) (wd_48 hw) (wd_50 hw) (wd_2 hw) (by decide) (hb hby d3_25) 0 (by decide) (by decide) (by decide) (by decide) (by rw [hml]; rfl) x16 (P23.ext o5.2) [(.ref x1)] [] rfl (lenOf pd_2 rfl) rfl (Nat.le_of_eq rfl) (Ls := #[rv x1, rv b1_0, iv 3, iv 2, rv x6])
  obtain ⟨rfl, M17, e17⟩ := Q17
  have N17 := Fr.app N14 M17
  refine Rch.go st17 ?_
  show Aw p e below _ T17 m 28 #[rv x1, rv b1_0, iv 3, iv 2, rv x6] [(.int 1)]
  refine Rch.go (fun t k => XS.ifNo X17.here hx rfl (hb hby d3_28) rfl (by decide) (XS.aload X17.here hx rfl (hb hby d3_31) rfl rfl k)) ?_
  show Aw p e below _ T17 m 33 #[rv x1, rv b1_0, iv 3, iv 2, rv x6] [(.ref x6)]
  refine Rch.val X17 hx (t := (.object s1')) hret hlk rfl (Or.inr (Or.inr (Or.inr (Or.inr ⟨rfl, rfl, rfl⟩)))) (hb hby d3_33) (by decide) (by decide) ?_
  try rw [e17]
  exact ⟨rfl, N17, ((Keep.refl _ _).trans K1 all0)⟩
theorem ef_m52_length (m : MethodId) (x1 : Addr) : entryFrame m #[(.ref x1)] 1 = mkF m 0 #[rv x1] [] := by first | rfl | (simp [entryFrame, mkF, argsToLocals, Value.category]; done)
theorem m52_length (l : Launch) (Z : State) (a0 : Array Value) (hw : HW Z a0) (x1 x2 : Addr) (kk3 : ClassId) (y4 : Int32) (h0 : Heap) (n0 : Nat) (Z0 : n0 ≤ h0.size) (O0 : Old Z n0 h0) (P1 : Fld Z h0 x1 "java/lang/String" "value" "[B" (.ref x2)) (P2 : Arv Z h0 x2 kk3 .byte (1 : Int32) [(.int 38)] (.int 0)) (P3 : Exa Z h0 x1 "java/lang/String") (P4 : Sta Z Z.heap "java/lang/String" "COMPACT_STRINGS" "Z" (.int y4)) (P5 : ¬ (y4 = (0 : Int32))) (P6 : Fld Z h0 x1 "java/lang/String" "coder" "B" (.int 0)) :
    Ctr l Z [] (⟨"java/lang/String", "length", "()I"⟩ : MethodName) jdk_42_method_54_code 1 (some .int) #[(.ref x1)] h0 ({ frames := 1, cells := 0, slots := 0, locals := 13 } : Room) (fun v h L => v = some (.int 1) ∧ Fr n0 L ∧ h = h0) := by
  refine Ctr.of (plainFor_of_name pn_java_lang_String) (fun m => ef_m52_length m x1) ?_
  intro p e s m below meth c T0 hx hZ hby hml hown hnm hret hlk X0 e0
  have N0 := Fr.nil n0
  show Aw p e below _ T0 m 0 #[rv x1] []
  refine Rch.go (fun t k => XS.aloadN X0.here hx rfl (hb hby d7_0) rfl rfl k) ?_
  show Aw p e below _ T0 m 1 #[rv x1] [(.ref x1)]
  obtain ⟨T1, X1, e1, st1⟩ := getF X0 hx hZ hown (host := "") (Or.inl (wd_20 hw)) Via.refl e0 P1 (g := (mkF m 1 #[rv x1] [(.ref x1)])) rfl rfl (hb hby d7_1)
  refine Rch.go st1 ?_
  show Aw p e below _ T1 m 4 #[rv x1] [(.ref x2)]
  obtain ⟨c2, r2, q2, s2, u2, H2, G2⟩ := id P2
  refine Rch.go (fun t k => X1.arraylength hx (by rw [e1]; exact r2.1) (State.isArrayOf_alike hZ.alike r2.2.1) (g := (mkF m 4 #[rv x1] [(.ref x2)])) rfl rfl (hb hby d7_4) t (by rw [len_of s2 u2]; exact k)) ?_
  show Aw p e below _ T1 m 5 #[rv x1] [(.int 1)]
  refine Rch.go (fun t k => XS.aloadN X1.here hx rfl (hb hby d7_5) rfl rfl k) ?_
  show Aw p e below _ T1 m 6 #[rv x1] [(.ref x1), (.int 1)]
  obtain ⟨v3, T3, L3, X3, Q3, st3⟩ := callVi X1 hx hZ (m12_coder l Z a0 hw x1 y4 h0 n0 Z0 O0 P4 P5 P6) e1 hown (wd_62 hw) (wd_63 hw) (wd_65 hw) (notFace_of_selects (args := #[]) (mvT hZ (wd_65 hw))) (wd_64 hw) (wd_66 hw) (wd_2 hw) (by decide) (hb hby d7_6) 1 (by decide) (by decide) (by decide) (by decide) (by rw [hml]; rfl) x1 P3 [] [(.int 1)] rfl (lenOf pd_6 rfl) rfl (Nat.le_of_eq rfl) (Ls := #[rv x1])
  obtain ⟨rfl, M3, e3⟩ := Q3
  have N3 := Fr.app N0 M3
  refine Rch.go st3 ?_
  show Aw p e below _ T3 m 9 #[rv x1] [(.int 0), (.int 1)]
  refine Rch.go (fun t k => XS.ishr X3.here hx rfl (hb hby d7_9) rfl k) ?_
  show Aw p e below _ T3 m 10 #[rv x1] [(.int 1)]
  refine Rch.val X3 hx (t := .int) hret hlk rfl (mayI (by simp)) (hb hby d7_10) (by decide) (by decide) ?_
  try rw [e3]
  exact ⟨rfl, N3, rfl⟩
theorem ef_m54_charAt (m : MethodId) (x1 : Addr) : entryFrame m #[(.ref x1), (.int 0)] 2 = mkF m 0 #[rv x1, iv 0] [] := by first | rfl | (simp [entryFrame, mkF, argsToLocals, Value.category]; done)
theorem m54_charAt (l : Launch) (Z : State) (a0 : Array Value) (hw : HW Z a0) (x1 : Addr) (kk2 : ClassId) (vv3 : Value) (h0 : Heap) (n0 : Nat) (Z0 : n0 ≤ h0.size) (O0 : Old Z n0 h0) (P1 : Arv Z h0 x1 kk2 .byte (1 : Int32) [(.int 38)] (.int 0)) (P2 : vv3.isRef = true) (P3 : Sta Z Z.heap s6' "SIOOBE_FORMATTER" "Ljava/util/function/BiFunction;" vv3) :
    Ctr l Z [] (⟨s2', "charAt", "([BI)C"⟩ : MethodName) jdk_43_method_2_code 2 (some .char) #[(.ref x1), (.int 0)] h0 ({ frames := 2, cells := 0, slots := 0, locals := 27 } : Room) (fun v h L => v = some (.int 38) ∧ Fr n0 L ∧ h = h0) := by
  refine Ctr.of (plainFor_of_name pn_java_lang_StringLatin1) (fun m => ef_m54_charAt m x1) ?_
  intro p e s m below meth c T0 hx hZ hby hml hown hnm hret hlk X0 e0
  have N0 := Fr.nil n0
  show Aw p e below _ T0 m 0 #[rv x1, iv 0] []
  refine Rch.go (fun t k => XS.iloadN X0.here hx rfl (hb hby d14_0) rfl  (XS.aloadN X0.here hx rfl (hb hby d14_1) rfl rfl k)) ?_
  show Aw p e below _ T0 m 2 #[rv x1, iv 0] [(.ref x1), (.int 0)]
  obtain ⟨c1, r1, q1, s1, u1, H1, G1⟩ := id P1
  refine Rch.go (fun t k => X0.arraylength hx (by rw [e0]; exact r1.1) (State.isArrayOf_alike hZ.alike r1.2.1) (g := (mkF m 2 #[rv x1, iv 0] [(.ref x1), (.int 0)])) rfl rfl (hb hby d14_2) t (by rw [len_of s1 u1]; exact k)) ?_
  show Aw p e below _ T0 m 3 #[rv x1, iv 0] [(.int 1), (.int 0)]
  obtain ⟨v2, T2, L2, X2, Q2, st2⟩ := callSt X0 hx hZ (m25_checkIndex l Z a0 hw vv3 h0 n0 Z0 O0 P2 P3) e0 hown (wd_94 hw) (wd_95 hw) (wd_96 hw) (wd_2 hw) (by decide) (hb hby d14_3) 0 (by decide) (by decide) (by decide) (by decide) (by rw [hml]; rfl) [(.int 0), (.int 1)] [] rfl (lenOf pd_14 rfl) rfl (Nat.le_of_eq rfl) (Ls := #[rv x1, iv 0])
  obtain ⟨rfl, M2, e2⟩ := Q2
  have N2 := Fr.app N0 M2
  refine Rch.go st2 ?_
  show Aw p e below _ T2 m 6 #[rv x1, iv 0] []
  refine Rch.go (fun t k => XS.aloadN X2.here hx rfl (hb hby d14_6) rfl rfl (XS.iloadN X2.here hx rfl (hb hby d14_7) rfl  k)) ?_
  show Aw p e below _ T2 m 8 #[rv x1, iv 0] [(.int 0), (.ref x1)]
  obtain ⟨c3, r3, q3, s3, u3, H3, G3⟩ := id P1
  refine Rch.go (fun t k => X2.baloadBytes hx (j := (0 : Int32)) (v := (.int 38)) (by rw [e2]; exact r3.1) (State.isArrayOf_alike hZ.alike r3.2.1) r3.2.2 (inb_of s3 (by decide)) (H3.at (inb_of s3 (by decide)) rfl) (g := (mkF m 8 #[rv x1, iv 0] [(.int 0), (.ref x1)])) rfl rfl (hb hby d14_8) t k) ?_
  show Aw p e below _ T2 m 9 #[rv x1, iv 0] [(.int 38)]
  refine Rch.go (fun t k => XS.sipush X2.here hx rfl (hb hby d14_9) (XS.iand X2.here hx rfl (hb hby d14_12) rfl (XS.i2c X2.here hx rfl (hb hby d14_13) rfl k))) ?_
  show Aw p e below _ T2 m 14 #[rv x1, iv 0] [(.int 38)]
  refine Rch.val X2 hx (t := .char) hret hlk rfl (mayI (by simp)) (hb hby d14_14) (by decide) (by decide) ?_
  try rw [e2]
  exact ⟨rfl, N2, rfl⟩
theorem ef_m53_charAt (m : MethodId) (x1 : Addr) : entryFrame m #[(.ref x1), (.int 0)] 2 = mkF m 0 #[rv x1, iv 0] [] := by first | rfl | (simp [entryFrame, mkF, argsToLocals, Value.category]; done)
theorem m53_charAt (l : Launch) (Z : State) (a0 : Array Value) (hw : HW Z a0) (x1 : Addr) (y2 : Int32) (x3 : Addr) (kk4 : ClassId) (vv5 : Value) (h0 : Heap) (n0 : Nat) (Z0 : n0 ≤ h0.size) (O0 : Old Z n0 h0) (P1 : Exa Z h0 x1 "java/lang/String") (P2 : Sta Z Z.heap "java/lang/String" "COMPACT_STRINGS" "Z" (.int y2)) (P3 : ¬ (y2 = (0 : Int32))) (P4 : Fld Z h0 x1 "java/lang/String" "coder" "B" (.int 0)) (P5 : Fld Z h0 x1 "java/lang/String" "value" "[B" (.ref x3)) (P6 : Arv Z h0 x3 kk4 .byte (1 : Int32) [(.int 38)] (.int 0)) (P7 : vv5.isRef = true) (P8 : Sta Z Z.heap s6' "SIOOBE_FORMATTER" "Ljava/util/function/BiFunction;" vv5) :
    Ctr l Z [] (⟨"java/lang/String", "charAt", "(I)C"⟩ : MethodName) jdk_42_method_56_code 2 (some .char) #[(.ref x1), (.int 0)] h0 ({ frames := 3, cells := 0, slots := 0, locals := 40 } : Room) (fun v h L => v = some (.int 38) ∧ Fr n0 L ∧ h = h0) := by
  refine Ctr.of (plainFor_of_name pn_java_lang_String) (fun m => ef_m53_charAt m x1) ?_
  intro p e s m below meth c T0 hx hZ hby hml hown hnm hret hlk X0 e0
  have N0 := Fr.nil n0
  show Aw p e below _ T0 m 0 #[rv x1, iv 0] []
  refine Rch.go (fun t k => XS.aloadN X0.here hx rfl (hb hby d12_0) rfl rfl k) ?_
  show Aw p e below _ T0 m 1 #[rv x1, iv 0] [(.ref x1)]
  obtain ⟨v1, T1, L1, X1, Q1, st1⟩ := callVi X0 hx hZ (m23_isLatin1 l Z a0 hw x1 y2 h0 n0 Z0 O0 P2 P3 P4) e0 hown (wd_86 hw) (wd_87 hw) (wd_89 hw) (notFace_of_selects (args := #[]) (mvT hZ (wd_89 hw))) (wd_88 hw) (wd_90 hw) (wd_2 hw) (by decide) (hb hby d12_1) 0 (by decide) (by decide) (by decide) (by decide) (by rw [hml]; rfl) x1 P1 [] [] rfl (lenOf pd_12 rfl) rfl (Nat.le_of_eq rfl) (Ls := #[rv x1, iv 0])
  obtain ⟨rfl, M1, e1⟩ := Q1
  have N1 := Fr.app N0 M1
  refine Rch.go st1 ?_
  show Aw p e below _ T1 m 4 #[rv x1, iv 0] [(.int 1)]
  refine Rch.go (fun t k => XS.ifNo X1.here hx rfl (hb hby d12_4) rfl (by decide) (XS.aloadN X1.here hx rfl (hb hby d12_7) rfl rfl k)) ?_
  show Aw p e below _ T1 m 8 #[rv x1, iv 0] [(.ref x1)]
  obtain ⟨T2, X2, e2, st2⟩ := getF X1 hx hZ hown (host := "") (Or.inl (wd_20 hw)) Via.refl e1 P5 (g := (mkF m 8 #[rv x1, iv 0] [(.ref x1)])) rfl rfl (hb hby d12_8)
  refine Rch.go st2 ?_
  show Aw p e below _ T2 m 11 #[rv x1, iv 0] [(.ref x3)]
  refine Rch.go (fun t k => XS.iloadN X2.here hx rfl (hb hby d12_11) rfl  k) ?_
  show Aw p e below _ T2 m 12 #[rv x1, iv 0] [(.int 0), (.ref x3)]
  obtain ⟨v3, T3, L3, X3, Q3, st3⟩ := callSt X2 hx hZ (m54_charAt l Z a0 hw x3 kk4 vv5 h0 n0 Z0 O0 P6 P7 P8) e2 hown (wd_91 hw) (wd_92 hw) (wd_93 hw) (wd_55 hw) (by decide) (hb hby d12_12) 0 (by decide) (by decide) (by decide) (by decide) (by rw [hml]; rfl) [(.ref x3), (.int 0)] [] rfl (lenOf pd_15 rfl) rfl (Nat.le_of_eq rfl) (Ls := #[rv x1, iv 0])
  obtain ⟨rfl, M3, e3⟩ := Q3
  have N3 := Fr.app N1 M3
  refine Rch.go st3 ?_
  show Aw p e below _ T3 m 15 #[rv x1, iv 0] [(.int 38)]
  refine Rch.val X3 hx (t := .char) hret hlk rfl (mayI (by simp)) (hb hby d12_15) (by decide) (by decide) ?_
  try rw [e3]
  exact ⟨rfl, N3, rfl⟩
theorem wd_104 {Z a0} (hw : HW Z a0) : (Cond.fieldLink s7' (38 : Nat) s1' "ANY" s9').before a0 Z = true := hw.at 104 rfl
theorem ef_m58_compress (m : MethodId) (x1 x2 : Addr) : entryFrame m #[(.ref x1), (.int 0), (.ref x2), (.int 0), (.int 1)] 7 = mkF m 0 #[rv x1, iv 0, rv x2, iv 0, iv 1, uu, uu] [] := by first | rfl | (simp [entryFrame, mkF, argsToLocals, Value.category]; done)
theorem m58_compress (l : Launch) (Z : State) (a0 : Array Value) (hw : HW Z a0) (x1 x2 : Addr) (kk3 : ClassId) (y4 : Int32) (kk5 : ClassId) (h0 : Heap) (n0 : Nat) (Z0 : n0 ≤ h0.size) (O0 : Old Z n0 h0) (P1 : Arv Z h0 x1 kk3 .char (1 : Int32) [(.int y4)] (.int 0)) (P2 : ¬ ((255 : Int32) < y4)) (P3 : Arv Z h0 x2 kk5 .byte (1 : Int32) [(.int 0)] (.int 0)) (P4 : n0 ≤ x2) :
    Ctr l Z [] (⟨s4', "compress", "([CI[BII)I"⟩ : MethodName) jdk_52_method_21_code 7 (some .int) #[(.ref x1), (.int 0), (.ref x2), (.int 0), (.int 1)] h0 ({ frames := 0, cells := 0, slots := 0, locals := 0 } : Room) (fun v h L => v = some (.int 1) ∧ Fr n0 L ∧ Keep h0 h [x2] ∧ Arv Z h x2 kk5 .byte (1 : Int32) [(.int (nar .byte (y4.toInt8.toInt32)))] (.int 0)) := by
  refine Ctr.of (plainFor_of_name pn_java_lang_StringUTF16) (fun m => ef_m58_compress m x1 x2) ?_
  intro p e s m below meth c T0 hx hZ hby hml hown hnm hret hlk X0 e0
  have N0 := Fr.nil n0
  show Aw p e below _ T0 m 0 #[rv x1, iv 0, rv x2, iv 0, iv 1, uu, uu] []
  refine Rch.go (fun t k => XS.iconst X0.here hx rfl (hb hby d10_0) (XS.istore X0.here hx rfl (hb hby d10_1) rfl  (l' := #[rv x1, iv 0, rv x2, iv 0, iv 1, iv 0, uu]) rfl (XS.iload X0.here hx rfl (hb hby d10_3) rfl  (XS.iload X0.here hx rfl (hb hby d10_5) rfl  (XS.icmpNo X0.here hx rfl (hb hby d10_7) rfl (by decide) (XS.aloadN X0.here hx rfl (hb hby d10_10) rfl rfl (XS.iloadN X0.here hx rfl (hb hby d10_11) rfl  k))))))) ?_
  show Aw p e below _ T0 m 12 #[rv x1, iv 0, rv x2, iv 0, iv 1, iv 0, uu] [(.int 0), (.ref x1)]
  obtain ⟨c1, r1, q1, s1, u1, H1, G1⟩ := id P1
  refine Rch.go (fun t k => X0.caload hx (j := (0 : Int32)) (v := (.int y4)) (by rw [e0]; exact r1.1) (State.isArrayOf_alike hZ.alike r1.2.1) r1.2.2 (inb_of s1 (by decide)) (H1.at (inb_of s1 (by decide)) rfl) (g := (mkF m 12 #[rv x1, iv 0, rv x2, iv 0, iv 1, iv 0, uu] [(.int 0), (.ref x1)])) rfl rfl (hb hby d10_12) t k) ?_
  show Aw p e below _ T0 m 13 #[rv x1, iv 0, rv x2, iv 0, iv 1, iv 0, uu] [(.int y4)]
  refine Rch.go (fun t k => XS.istore X0.here hx rfl (hb hby d10_13) rfl  (l' := #[rv x1, iv 0, rv x2, iv 0, iv 1, iv 0, iv y4]) rfl (XS.iload X0.here hx rfl (hb hby d10_15) rfl  (XS.sipush X0.here hx rfl (hb hby d10_17) (XS.icmpYes X0.here hx rfl (pc0 := 20) (pc' := 26) rfl (hb hby d10_20) rfl (XT.ii_le_t P2) (by decide) (by decide) (XS.aloadN X0.here hx rfl (hb hby d10_26) rfl rfl (XS.iloadN X0.here hx rfl (hb hby d10_27) rfl  (XS.iload X0.here hx rfl (hb hby d10_28) rfl  (XS.i2b X0.here hx rfl (hb hby d10_30) rfl k)))))))) ?_
  show Aw p e below _ T0 m 31 #[rv x1, iv 0, rv x2, iv 0, iv 1, iv 0, iv y4] [(.int (y4.toInt8.toInt32)), (.int 0), (.ref x2)]
  obtain ⟨c2, r2, q2, s2, u2, H2, G2⟩ := id P3
  obtain ⟨T3, h3, X3, e3, W3, st3⟩ := stB X0 hx hZ e0 r2 (j := (0 : Int32)) (inb_of s2 (by decide)) (g := (mkF m 31 #[rv x1, iv 0, rv x2, iv 0, iv 1, iv 0, iv y4] [(.int (y4.toInt8.toInt32)), (.int 0), (.ref x2)])) rfl rfl (hb hby d10_31)
  refine Rch.go st3 ?_
  have V3 : Arv Z h3 x2 kk5 .byte (1 : Int32) [(.int (nar .byte (y4.toInt8.toInt32)))] (.int 0) := Arv.set r2 q2 s2 u2 H2 G2 (fits_nar_byte _) W3 0 rfl (Nat.le_of_ble_eq_true rfl)
  have N3 := Fr.snoc X3 N0 P4
  show Aw p e below _ T3 m 32 #[rv x1, iv 0, rv x2, iv 0, iv 1, iv 0, iv y4] []
  refine Rch.go (fun t k => XS.iinc X3.here hx rfl (hb hby d10_32) rfl (l' := #[rv x1, iv 1, rv x2, iv 0, iv 1, iv 0, iv y4]) rfl (XS.iinc X3.here hx rfl (hb hby d10_35) rfl (l' := #[rv x1, iv 1, rv x2, iv 1, iv 1, iv 0, iv y4]) rfl (XS.iinc X3.here hx rfl (hb hby d10_38) rfl (l' := #[rv x1, iv 1, rv x2, iv 1, iv 1, iv 1, iv y4]) rfl (XS.goto X3.here hx rfl (pc0 := 41) (pc' := 3) rfl (hb hby d10_41) (by decide) (by decide) (XS.iload X3.here hx rfl (hb hby d10_3) rfl  (XS.iload X3.here hx rfl (hb hby d10_5) rfl  (XS.icmpYes X3.here hx rfl (pc0 := 7) (pc' := 44) rfl (hb hby d10_7) rfl (by decide) (by decide) (by decide) (XS.iload X3.here hx rfl (hb hby d10_44) rfl  k)))))))) ?_
  show Aw p e below _ T3 m 46 #[rv x1, iv 1, rv x2, iv 1, iv 1, iv 1, iv y4] [(.int 1)]
  refine Rch.val X3 hx (t := .int) hret hlk rfl (mayI (by simp)) (hb hby d10_46) (by decide) (by decide) ?_
  try rw [e3]
  exact ⟨rfl, N3, ((Keep.refl _ _).wr W3 (Or.inl (List.mem_of_getElem? (i := 0) rfl))), V3⟩
theorem ef_m57_compress (m : MethodId) (x1 : Addr) : entryFrame m #[(.ref x1), (.int 0), (.int 1)] 6 = mkF m 0 #[rv x1, iv 0, iv 1, uu, uu, uu] [] := by first | rfl | (simp [entryFrame, mkF, argsToLocals, Value.category]; done)
theorem m57_compress (l : Launch) (Z : State) (a0 : Array Value) (hw : HW Z a0) (x1 : Addr) (kk2 : ClassId) (y3 : Int32) (h0 : Heap) (n0 : Nat) (Z0 : n0 ≤ h0.size) (O0 : Old Z n0 h0) (P1 : Arv Z h0 x1 kk2 .char (1 : Int32) [(.int y3)] (.int 0)) (P2 : ¬ ((255 : Int32) < y3)) :
    Ctr l Z [] (⟨s4', "compress", "([CII)[B"⟩ : MethodName) jdk_52_method_16_code 6 (some (.array .byte)) #[(.ref x1), (.int 0), (.int 1)] h0 ({ frames := 1, cells := 1, slots := 1, locals := 18 } : Room) (fun v h L => ∃ (b1 : Addr) (k1 : ClassId), v = some (.ref b1) ∧ Fr n0 L ∧ Keep h0 h [] ∧ h0.size ≤ b1 ∧ Exa Z h b1 "[B" ∧ Arv Z h b1 k1 .byte (1 : Int32) [(.int (nar .byte (y3.toInt8.toInt32)))] (.int 0)) := by
  refine Ctr.of (plainFor_of_name pn_java_lang_StringUTF16) (fun m => ef_m57_compress m x1) ?_
  intro p e s m below meth c T0 hx hZ hby hml hown hnm hret hlk X0 e0
  have N0 := Fr.nil n0
  show Aw p e below _ T0 m 0 #[rv x1, iv 0, iv 1, uu, uu, uu] []
  refine Rch.go (fun t k => XS.iloadN X0.here hx rfl (hb hby d9_0) rfl  k) ?_
  show Aw p e below _ T0 m 1 #[rv x1, iv 0, iv 1, uu, uu, uu] [(.int 1)]
  obtain ⟨T1, h1, k1, X1, e1, E1, A1, B1, st1⟩ := newPE (aty := .byte) X0 hx hZ (wd_15 hw) e0 (g := (mkF m 1 #[rv x1, iv 0, iv 1, uu, uu, uu] [(.int 1)])) rfl (hb hby d9_1) rfl (by decide) (cap := 1) (by decide) (by decide) (by decide) (by decide) (ad := "[B") (by decide +kernel)
  obtain ⟨b1, g1⟩ : ∃ z, z = h0.size := ⟨_, rfl⟩
  rw [← g1] at A1 B1 st1
  refine Rch.go st1 ?_
  have g_b1 : n0 ≤ b1 := Nat.le_trans Z0 (Nat.le_of_eq g1.symm)
  have V1 : Arv Z h1 b1 k1 .byte (1 : Int32) [(.int 0)] (.int 0) := (Arv.new A1 (by decide)).pad (pad_rep [] (.int 0) 1)
  show Aw p e below _ T1 m 3 #[rv x1, iv 0, iv 1, uu, uu, uu] [(.ref b1)]
  refine Rch.go (fun t k => XS.astoreN X1.here hx rfl (hb hby d9_3) rfl rfl (l' := #[rv x1, iv 0, iv 1, rv b1, uu, uu]) rfl (XS.aloadN X1.here hx rfl (hb hby d9_4) rfl rfl (XS.iloadN X1.here hx rfl (hb hby d9_5) rfl  (XS.aloadN X1.here hx rfl (hb hby d9_6) rfl rfl (XS.iconst X1.here hx rfl (hb hby d9_7) (XS.iloadN X1.here hx rfl (hb hby d9_8) rfl  k)))))) ?_
  show Aw p e below _ T1 m 9 #[rv x1, iv 0, iv 1, rv b1, uu, uu] [(.int 1), (.int 0), (.ref b1), (.int 0), (.ref x1)]
  have f2 := (P1.ext E1)
  have z3 := (Nat.le_trans Z0 E1.1)
  have o4 := (O0.ext E1)
  obtain ⟨v5, T5, L5, X5, Q5, st5⟩ := callSt X1 hx hZ (m58_compress l Z a0 hw x1 b1 kk2 y3 k1 h1 n0 z3 o4 f2 P2 V1 g_b1) e1 hown (wd_75 hw) (wd_76 hw) (wd_77 hw) (wd_73 hw) (by decide) (hb hby d9_9) 0 (by decide) (by decide) (by decide) (by decide) (by rw [hml]; rfl) [(.ref x1), (.int 0), (.ref b1), (.int 0), (.int 1)] [] rfl (lenOf pd_9 rfl) rfl (Nat.le_of_eq rfl) (Ls := #[rv x1, iv 0, iv 1, rv b1, uu, uu])
  obtain ⟨rfl, M5, K5, F5_0⟩ := Q5
  have N5 := Fr.app N0 M5
  refine Rch.go st5 ?_
  show Aw p e below _ T5 m 12 #[rv x1, iv 0, iv 1, rv b1, uu, uu] [(.int 1)]
  refine Rch.go (fun t k => XS.istore X5.here hx rfl (hb hby d9_12) rfl  (l' := #[rv x1, iv 0, iv 1, rv b1, iv 1, uu]) rfl (XS.iload X5.here hx rfl (hb hby d9_14) rfl  (XS.iloadN X5.here hx rfl (hb hby d9_16) rfl  (XS.icmpYes X5.here hx rfl (pc0 := 17) (pc' := 57) rfl (hb hby d9_17) rfl (by decide) (by decide) (by decide) (XS.aloadN X5.here hx rfl (hb hby d9_57) rfl rfl k))))) ?_
  show Aw p e below _ T5 m 58 #[rv x1, iv 0, iv 1, rv b1, iv 1, uu] [(.ref b1)]
  have f6 := (B1.keep K5)
  refine Rch.val X5 hx (t := (.array .byte)) hret hlk rfl (Or.inr (Or.inr (Or.inr (Or.inr ⟨rfl, rfl, rfl⟩)))) (hb hby d9_58) (by decide) (by decide) ?_
  exact ⟨b1, k1, rfl, N5, (((Keep.refl _ _).ext E1).trans K5 (allS (Or.inr (Nat.le_trans (Nat.le_refl _) (Nat.le_of_eq g1.symm))) all0)), (Nat.le_trans (Nat.le_refl _) (Nat.le_of_eq g1.symm)), f6, F5_0⟩
theorem ef_m59_coderFromArrayLen (m : MethodId) (x1 : Addr) : entryFrame m #[(.ref x1), (.int 1)] 2 = mkF m 0 #[rv x1, iv 1] [] := by first | rfl | (simp [entryFrame, mkF, argsToLocals, Value.category]; done)
theorem m59_coderFromArrayLen (l : Launch) (Z : State) (a0 : Array Value) (hw : HW Z a0) (x1 : Addr) (kk2 : ClassId) (y3 : Int32) (h0 : Heap) (n0 : Nat) (Z0 : n0 ≤ h0.size) (O0 : Old Z n0 h0) (P1 : Arv Z h0 x1 kk2 .byte (1 : Int32) [(.int y3)] (.int 0)) :
    Ctr l Z [] (⟨s4', "coderFromArrayLen", "([BI)B"⟩ : MethodName) jdk_52_method_15_code 2 (some .byte) #[(.ref x1), (.int 1)] h0 ({ frames := 0, cells := 0, slots := 0, locals := 0 } : Room) (fun v h L => v = some (.int 0) ∧ Fr n0 L ∧ h = h0) := by
  refine Ctr.of (plainFor_of_name pn_java_lang_StringUTF16) (fun m => ef_m59_coderFromArrayLen m x1) ?_
  intro p e s m below meth c T0 hx hZ hby hml hown hnm hret hlk X0 e0
  have N0 := Fr.nil n0
  show Aw p e below _ T0 m 0 #[rv x1, iv 1] []
  refine Rch.go (fun t k => XS.iloadN X0.here hx rfl (hb hby d11_0) rfl  (XS.aloadN X0.here hx rfl (hb hby d11_1) rfl rfl k)) ?_
  show Aw p e below _ T0 m 2 #[rv x1, iv 1] [(.ref x1), (.int 1)]
  obtain ⟨c1, r1, q1, s1, u1, H1, G1⟩ := id P1
  refine Rch.go (fun t k => X0.arraylength hx (by rw [e0]; exact r1.1) (State.isArrayOf_alike hZ.alike r1.2.1) (g := (mkF m 2 #[rv x1, iv 1] [(.ref x1), (.int 1)])) rfl rfl (hb hby d11_2) t (by rw [len_of s1 u1]; exact k)) ?_
  show Aw p e below _ T0 m 3 #[rv x1, iv 1] [(.int 1), (.int 1)]
  refine Rch.go (fun t k => XS.isub X0.here hx rfl (hb hby d11_3) rfl (XS.bipush X0.here hx rfl (hb hby d11_4) (XS.iushr X0.here hx rfl (hb hby d11_6) rfl (XS.i2b X0.here hx rfl (hb hby d11_7) rfl k)))) ?_
  show Aw p e below _ T0 m 8 #[rv x1, iv 1] [(.int 0)]
  refine Rch.val X0 hx (t := .byte) hret hlk rfl (mayI (by simp)) (hb hby d11_8) (by decide) (by decide) ?_
  try rw [e0]
  exact ⟨rfl, N0, rfl⟩
theorem ef_m56_init (m : MethodId) (x1 x2 : Addr) : entryFrame m #[(.ref x1), (.ref x2), (.int 0), (.int 1), .null] 6 = mkF m 0 #[rv x1, rv x2, iv 0, iv 1, .val .null, uu] [] := by first | rfl | (simp [entryFrame, mkF, argsToLocals, Value.category]; done)
theorem m56_init (l : Launch) (Z : State) (a0 : Array Value) (hw : HW Z a0) (x1 x2 : Addr) (y3 : Int32) (kk4 : ClassId) (y5 : Int32) (h0 : Heap) (n0 : Nat) (Z0 : n0 ≤ h0.size) (O0 : Old Z n0 h0) (P1 : Sta Z Z.heap "java/lang/String" "COMPACT_STRINGS" "Z" (.int y3)) (P2 : ¬ (y3 = (0 : Int32))) (P3 : Arv Z h0 x2 kk4 .char (1 : Int32) [(.int y5)] (.int 0)) (P4 : ¬ ((255 : Int32) < y5)) (P5 : Exa Z h0 x1 "java/lang/String") (P6 : Fld Z h0 x1 "java/lang/String" "coder" "B" (.int 0)) (P7 : n0 ≤ x1) (P8 : Fld Z h0 x1 "java/lang/String" "value" "[B" .null) :
    Ctr l Z [] (⟨"java/lang/String", "<init>", "([CIILjava/lang/Void;)V"⟩ : MethodName) jdk_42_method_149_code 6 none #[(.ref x1), (.ref x2), (.int 0), (.int 1), .null] h0 ({ frames := 2, cells := 1, slots := 1, locals := 35 } : Room) (fun v h L => ∃ (b3_0 : Addr) (k3_0 : ClassId), v = none ∧ Fr n0 L ∧ Keep h0 h [x1] ∧ h0.size ≤ b3_0 ∧ Exa Z h b3_0 "[B" ∧ Arv Z h b3_0 k3_0 .byte (1 : Int32) [(.int (nar .byte (y5.toInt8.toInt32)))] (.int 0) ∧ Fld Z h x1 "java/lang/String" "coder" "B" (.int 0) ∧ Fld Z h x1 "java/lang/String" "value" "[B" (.ref b3_0)) := by
  refine Ctr.of (plainFor_of_name pn_java_lang_String) (fun m => ef_m56_init m x1 x2) ?_
  intro p e s m below meth c T0 hx hZ hby hml hown hnm hret hlk X0 e0
  have N0 := Fr.nil n0
  show Aw p e below _ T0 m 0 #[rv x1, rv x2, iv 0, iv 1, .val .null, uu] []
  refine Rch.go (fun t k => XS.aloadN X0.here hx rfl (hb hby d0_0) rfl rfl k) ?_
  show Aw p e below _ T0 m 1 #[rv x1, rv x2, iv 0, iv 1, .val .null, uu] [(.ref x1)]
  obtain ⟨T1, X1, e1, st1⟩ := initO X0 hx hZ hown (wd_11 hw) (wd_12 hw) (wd_13 hw) e0 (g := (mkF m 1 #[rv x1, rv x2, iv 0, iv 1, .val .null, uu] [(.ref x1)])) rfl (by rw [hml]; rfl) rfl (hb hby d0_1) (by decide) (W := 0) (by show 2 * 0 + _ ≤ _; exact Nat.le_of_eq rfl) (by decide)
  refine Rch.go st1 ?_
  show Aw p e below _ T1 m 4 #[rv x1, rv x2, iv 0, iv 1, .val .null, uu] []
  refine Rch.go (fun t k => XS.iloadN X1.here hx rfl (hb hby d0_4) rfl  (XS.ifYes X1.here hx rfl (pc0 := 5) (pc' := 27) rfl (hb hby d0_5) rfl (by decide) (by decide) (by decide) k)) ?_
  show Aw p e below _ T1 m 27 #[rv x1, rv x2, iv 0, iv 1, .val .null, uu] []
  obtain ⟨T2, X2, e2, st2⟩ := getS2 X1 hx hZ hown (host := "") (Or.inl (wd_52 hw)) Via.refl e1 (P1.ext O0.2) (g := (mkF m 27 #[rv x1, rv x2, iv 0, iv 1, .val .null, uu] [])) rfl (hb hby d0_27)
  refine Rch.go st2 ?_
  show Aw p e below _ T2 m 30 #[rv x1, rv x2, iv 0, iv 1, .val .null, uu] [(.int y3)]
  refine Rch.go (fun t k => XS.ifNo X2.here hx rfl (hb hby d0_30) rfl (XT.i0_eq_f P2) (XS.aloadN X2.here hx rfl (hb hby d0_33) rfl rfl (XS.iloadN X2.here hx rfl (hb hby d0_34) rfl  (XS.iloadN X2.here hx rfl (hb hby d0_35) rfl  k)))) ?_
  show Aw p e below _ T2 m 36 #[rv x1, rv x2, iv 0, iv 1, .val .null, uu] [(.int 1), (.int 0), (.ref x2)]
  obtain ⟨v3, T3, L3, X3, Q3, st3⟩ := callSt X2 hx hZ (m57_compress l Z a0 hw x2 kk4 y5 h0 n0 Z0 O0 P3 P4) e2 hown (wd_71 hw) (wd_72 hw) (wd_74 hw) (wd_73 hw) (by decide) (hb hby d0_36) 0 (by decide) (by decide) (by decide) (by decide) (by rw [hml]; rfl) [(.ref x2), (.int 0), (.int 1)] [] rfl (lenOf pd_10 rfl) rfl (Nat.le_of_eq rfl) (Ls := #[rv x1, rv x2, iv 0, iv 1, .val .null, uu])
  obtain ⟨b3_0, k3_0, rfl, M3, K3, zz3_0, F3_0, F3_1⟩ := Q3
  have N3 := Fr.app N0 M3
  refine Rch.go st3 ?_
  have g_b3_0 : n0 ≤ b3_0 := Nat.le_trans Z0 zz3_0
  show Aw p e below _ T3 m 39 #[rv x1, rv x2, iv 0, iv 1, .val .null, uu] [(.ref b3_0)]
  refine Rch.go (fun t k => XS.astore X3.here hx rfl (hb hby d0_39) rfl rfl (l' := #[rv x1, rv x2, iv 0, iv 1, .val .null, rv b3_0]) rfl (XS.aloadN X3.here hx rfl (hb hby d0_41) rfl rfl (XS.aload X3.here hx rfl (hb hby d0_42) rfl rfl (XS.iloadN X3.here hx rfl (hb hby d0_44) rfl  k)))) ?_
  show Aw p e below _ T3 m 45 #[rv x1, rv x2, iv 0, iv 1, .val .null, rv b3_0] [(.int 1), (.ref b3_0), (.ref x1)]
  have z4 := (Nat.le_trans Z0 K3.1)
  have o5 := (O0.keep K3 all0)
  obtain ⟨v6, T6, L6, X6, Q6, st6⟩ := callSt X3 hx hZ (m59_coderFromArrayLen l Z a0 hw b3_0 k3_0 (nar .byte (y5.toInt8.toInt32)) T3.heap n0 z4 o5 F3_1) rfl hown (wd_78 hw) (wd_79 hw) (wd_80 hw) (wd_73 hw) (by decide) (hb hby d0_45) 1 (by decide) (by decide) (by decide) (by decide) (by rw [hml]; rfl) [(.ref b3_0), (.int 1)] [(.ref x1)] rfl (lenOf pd_11 rfl) rfl (Nat.le_of_eq rfl) (Ls := #[rv x1, rv x2, iv 0, iv 1, .val .null, rv b3_0])
  obtain ⟨rfl, M6, e6⟩ := Q6
  have N6 := Fr.app N3 M6
  refine Rch.go st6 ?_
  show Aw p e below _ T6 m 48 #[rv x1, rv x2, iv 0, iv 1, .val .null, rv b3_0] [(.int 0), (.ref x1)]
  have f8 := (P6.keep K3 nin0)
  have f9 := (P5.keep K3)
  obtain ⟨T7, h7, X7, e7, W7, st7⟩ := putFN X6 hx hZ hown (wd_21 hw) Via.refl e6 f8 f9 (Or.inr ⟨(wd_17 hw), rfl, hnm⟩) (wd_1 hw) (ty := .byte) (v' := (.int 0)) (by decide) rfl rfl (g := (mkF m 48 #[rv x1, rv x2, iv 0, iv 1, .val .null, rv b3_0] [(.int 0), (.ref x1)])) rfl rfl (hb hby d0_48)
  refine Rch.go st7 ?_
  have F7 := f8.same W7
  have N7 := Fr.snoc X7 N6 P7
  show Aw p e below _ T7 m 51 #[rv x1, rv x2, iv 0, iv 1, .val .null, rv b3_0] []
  refine Rch.go (fun t k => XS.aloadN X7.here hx rfl (hb hby d0_51) rfl rfl (XS.aload X7.here hx rfl (hb hby d0_52) rfl rfl k)) ?_
  show Aw p e below _ T7 m 54 #[rv x1, rv x2, iv 0, iv 1, .val .null, rv b3_0] [(.ref b3_0), (.ref x1)]
  have f11 := ((P8.keep K3 nin0).other W7 (Or.inr (slot_ne (Or.inr (wd_16 hw)) (Or.inr (wd_17 hw)) (by decide) (t := (.array .byte)) (t' := .byte) (by decide) (by decide))))
  have f12 := (f9.wr W7)
  obtain ⟨T10, h10, X10, e10, W10, st10⟩ := putF X7 hx hZ hown (host := "") (Or.inl (wd_20 hw)) Via.refl e7 f11 f12 (Or.inr ⟨(wd_16 hw), rfl, hnm⟩) (wd_1 hw) (ty := (.array .byte)) (by decide) rfl rfl (g := (mkF m 54 #[rv x1, rv x2, iv 0, iv 1, .val .null, rv b3_0] [(.ref b3_0), (.ref x1)])) rfl rfl (hb hby d0_54)
  refine Rch.go st10 ?_
  have F10 := f11.same W10
  have N10 := Fr.snoc X10 N7 P7
  show Aw p e below _ T10 m 57 #[rv x1, rv x2, iv 0, iv 1, .val .null, rv b3_0] []
  have f13 := ((F3_0.wr W7).wr W10)
  have lt14 := P5.lt
  have ne15 : x1 ≠ b3_0 := Nat.ne_of_lt (Nat.lt_of_lt_of_le lt14 zz3_0)
  have f16 := ((F3_1.other W7 (Ne.symm ne15)).other W10 (Ne.symm ne15))
  have f17 := (F7.other W10 (Or.inr (slot_ne (Or.inr (wd_17 hw)) (Or.inr (wd_16 hw)) (by decide) (t := .byte) (t' := (.array .byte)) (by decide) (by decide))))
  refine Rch.void X10 hx hret hlk (hb hby d0_57) (by decide) (by decide) ?_
  try rw [e10]
  exact ⟨b3_0, k3_0, rfl, N10, ((((Keep.refl _ _).trans K3 all0).wr W7 (Or.inl (List.mem_of_getElem? (i := 0) rfl))).wr W10 (Or.inl (List.mem_of_getElem? (i := 0) rfl))), (Nat.le_trans (Nat.le_refl _) zz3_0), f13, f16, f17, F10⟩
theorem ef_m55_init (m : MethodId) (x1 x2 : Addr) : entryFrame m #[(.ref x1), (.ref x2)] 2 = mkF m 0 #[rv x1, rv x2] [] := by first | rfl | (simp [entryFrame, mkF, argsToLocals, Value.category]; done)
theorem m55_init (l : Launch) (Z : State) (a0 : Array Value) (hw : HW Z a0) (x1 x2 : Addr) (kk3 : ClassId) (y4 y5 : Int32) (h0 : Heap) (n0 : Nat) (Z0 : n0 ≤ h0.size) (O0 : Old Z n0 h0) (P1 : Arv Z h0 x2 kk3 .char (1 : Int32) [(.int y4)] (.int 0)) (P2 : Sta Z Z.heap "java/lang/String" "COMPACT_STRINGS" "Z" (.int y5)) (P3 : ¬ (y5 = (0 : Int32))) (P4 : Exa Z h0 x1 "java/lang/String") (P5 : Fld Z h0 x1 "java/lang/String" "coder" "B" (.int 0)) (P6 : n0 ≤ x1) (P7 : Fld Z h0 x1 "java/lang/String" "value" "[B" .null) (P8 : ¬ ((255 : Int32) < y4)) :
    Ctr l Z [] (⟨"java/lang/String", "<init>", "([C)V"⟩ : MethodName) jdk_42_method_3_code 2 none #[(.ref x1), (.ref x2)] h0 ({ frames := 3, cells := 1, slots := 1, locals := 52 } : Room) (fun v h L => ∃ (b2_0 : Addr) (k2_0 : ClassId), v = none ∧ Fr n0 L ∧ Keep h0 h [x1] ∧ h0.size ≤ b2_0 ∧ Exa Z h b2_0 "[B" ∧ Arv Z h b2_0 k2_0 .byte (1 : Int32) [(.int (nar .byte (y4.toInt8.toInt32)))] (.int 0) ∧ Fld Z h x1 "java/lang/String" "coder" "B" (.int 0) ∧ Fld Z h x1 "java/lang/String" "value" "[B" (.ref b2_0)) := by
  refine Ctr.of (plainFor_of_name pn_java_lang_String) (fun m => ef_m55_init m x1 x2) ?_
  intro p e s m below meth c T0 hx hZ hby hml hown hnm hret hlk X0 e0
  have N0 := Fr.nil n0
  show Aw p e below _ T0 m 0 #[rv x1, rv x2] []
  refine Rch.go (fun t k => XS.aloadN X0.here hx rfl (hb hby d1_0) rfl rfl (XS.aloadN X0.here hx rfl (hb hby d1_1) rfl rfl (XS.iconst X0.here hx rfl (hb hby d1_2) (XS.aloadN X0.here hx rfl (hb hby d1_3) rfl rfl k)))) ?_
  show Aw p e below _ T0 m 4 #[rv x1, rv x2] [(.ref x2), (.int 0), (.ref x2), (.ref x1)]
  obtain ⟨c1, r1, q1, s1, u1, H1, G1⟩ := id P1
  refine Rch.go (fun t k => X0.arraylength hx (by rw [e0]; exact r1.1) (State.isArrayOf_alike hZ.alike r1.2.1) (g := (mkF m 4 #[rv x1, rv x2] [(.ref x2), (.int 0), (.ref x2), (.ref x1)])) rfl rfl (hb hby d1_4) t (by rw [len_of s1 u1]; exact k)) ?_
  show Aw p e below _ T0 m 5 #[rv x1, rv x2] [(.int 1), (.int 0), (.ref x2), (.ref x1)]
  refine Rch.go (fun t k => XS.aconstNull X0.here hx rfl (hb hby d1_5) k) ?_
  show Aw p e below _ T0 m 6 #[rv x1, rv x2] [.null, (.int 1), (.int 0), (.ref x2), (.ref x1)]
  obtain ⟨v2, T2, L2, X2, Q2, st2⟩ := callSp X0 hx hZ (m56_init l Z a0 hw x1 x2 y5 kk3 y4 h0 n0 Z0 O0 P2 P3 P1 P8 P4 P5 P6 P7) e0 hown rfl (wd_7 hw) (wd_8 hw) (wd_10 hw) (wd_2 hw) (by decide) (hb hby d1_6) 0 (by decide) (by decide) (by decide) (by decide) (by rw [hml]; rfl) x1 [(.ref x2), (.int 0), (.int 1), .null] [] rfl (lenOf pd_0 rfl) rfl (Nat.le_of_eq rfl) (Ls := #[rv x1, rv x2])
  obtain ⟨b2_0, k2_0, rfl, M2, K2, zz2_0, F2_0, F2_1, F2_2, F2_3⟩ := Q2
  have N2 := Fr.app N0 M2
  refine Rch.go st2 ?_
  have g_b2_0 : n0 ≤ b2_0 := Nat.le_trans Z0 zz2_0
  show Aw p e below _ T2 m 9 #[rv x1, rv x2] []
  refine Rch.void X2 hx hret hlk (hb hby d1_9) (by decide) (by decide) ?_
  exact ⟨b2_0, k2_0, rfl, N2, ((Keep.refl _ _).trans K2 (allS (Or.inl (List.mem_of_getElem? (i := 0) rfl)) all0)), (Nat.le_trans (Nat.le_refl _) zz2_0), F2_0, F2_1, F2_2, F2_3⟩
theorem ef_m62_equals (m : MethodId) (x1 x2 : Addr) : entryFrame m #[(.ref x1), (.ref x2)] 3 = mkF m 0 #[rv x1, rv x2, uu] [] := by first | rfl | (simp [entryFrame, mkF, argsToLocals, Value.category]; done)
theorem m62_equals (l : Launch) (Z : State) (a0 : Array Value) (hw : HW Z a0) (x1 x2 : Addr) (kk3 kk4 : ClassId) (y5 : Int32) (h0 : Heap) (n0 : Nat) (Z0 : n0 ≤ h0.size) (O0 : Old Z n0 h0) (P1 : Arv Z Z.heap x1 kk3 .byte (1 : Int32) [(.int 69)] (.int 0)) (P2 : Arv Z h0 x2 kk4 .byte (1 : Int32) [(.int y5)] (.int 0)) (P3 : ¬ ((69 : Int32) = y5)) :
    Ctr l Z [] (⟨s2', "equals", "([B[B)Z"⟩ : MethodName) jdk_43_method_13_code 3 (some .boolean) #[(.ref x1), (.ref x2)] h0 ({ frames := 0, cells := 0, slots := 0, locals := 0 } : Room) (fun v h L => v = some (.int 0) ∧ Fr n0 L ∧ h = h0) := by
  refine Ctr.of (plainFor_of_name pn_java_lang_StringLatin1) (fun m => ef_m62_equals m x1 x2) ?_
  intro p e s m below meth c T0 hx hZ hby hml hown hnm hret hlk X0 e0
  have N0 := Fr.nil n0
  show Aw p e below _ T0 m 0 #[rv x1, rv x2, uu] []
  refine Rch.go (fun t k => XS.aloadN X0.here hx rfl (hb hby d6_0) rfl rfl k) ?_
  show Aw p e below _ T0 m 1 #[rv x1, rv x2, uu] [(.ref x1)]
  obtain ⟨c1, r1, q1, s1, u1, H1, G1⟩ := id (P1.ext O0.2)
  refine Rch.go (fun t k => X0.arraylength hx (by rw [e0]; exact r1.1) (State.isArrayOf_alike hZ.alike r1.2.1) (g := (mkF m 1 #[rv x1, rv x2, uu] [(.ref x1)])) rfl rfl (hb hby d6_1) t (by rw [len_of s1 u1]; exact k)) ?_
  show Aw p e below _ T0 m 2 #[rv x1, rv x2, uu] [(.int 1)]
  refine Rch.go (fun t k => XS.aloadN X0.here hx rfl (hb hby d6_2) rfl rfl k) ?_
  show Aw p e below _ T0 m 3 #[rv x1, rv x2, uu] [(.ref x2), (.int 1)]
  obtain ⟨c2, r2, q2, s2, u2, H2, G2⟩ := id P2
  refine Rch.go (fun t k => X0.arraylength hx (by rw [e0]; exact r2.1) (State.isArrayOf_alike hZ.alike r2.2.1) (g := (mkF m 3 #[rv x1, rv x2, uu] [(.ref x2), (.int 1)])) rfl rfl (hb hby d6_3) t (by rw [len_of s2 u2]; exact k)) ?_
  show Aw p e below _ T0 m 4 #[rv x1, rv x2, uu] [(.int 1), (.int 1)]
  refine Rch.go (fun t k => XS.icmpNo X0.here hx rfl (hb hby d6_4) rfl (by decide) (XS.iconst X0.here hx rfl (hb hby d6_7) (XS.istoreN X0.here hx rfl (hb hby d6_8) rfl  (l' := #[rv x1, rv x2, iv 0]) rfl (XS.iloadN X0.here hx rfl (hb hby d6_9) rfl  (XS.aloadN X0.here hx rfl (hb hby d6_10) rfl rfl k))))) ?_
  show Aw p e below _ T0 m 11 #[rv x1, rv x2, iv 0] [(.ref x1), (.int 0)]
  obtain ⟨c3, r3, q3, s3, u3, H3, G3⟩ := id (P1.ext O0.2)
  refine Rch.go (fun t k => X0.arraylength hx (by rw [e0]; exact r3.1) (State.isArrayOf_alike hZ.alike r3.2.1) (g := (mkF m 11 #[rv x1, rv x2, iv 0] [(.ref x1), (.int 0)])) rfl rfl (hb hby d6_11) t (by rw [len_of s3 u3]; exact k)) ?_
  show Aw p e below _ T0 m 12 #[rv x1, rv x2, iv 0] [(.int 1), (.int 0)]
  refine Rch.go (fun t k => XS.icmpNo X0.here hx rfl (hb hby d6_12) rfl (by decide) (XS.aloadN X0.here hx rfl (hb hby d6_15) rfl rfl (XS.iloadN X0.here hx rfl (hb hby d6_16) rfl  k))) ?_
  show Aw p e below _ T0 m 17 #[rv x1, rv x2, iv 0] [(.int 0), (.ref x1)]
  obtain ⟨c4, r4, q4, s4, u4, H4, G4⟩ := id (P1.ext O0.2)
  refine Rch.go (fun t k => X0.baloadBytes hx (j := (0 : Int32)) (v := (.int 69)) (by rw [e0]; exact r4.1) (State.isArrayOf_alike hZ.alike r4.2.1) r4.2.2 (inb_of s4 (by decide)) (H4.at (inb_of s4 (by decide)) rfl) (g := (mkF m 17 #[rv x1, rv x2, iv 0] [(.int 0), (.ref x1)])) rfl rfl (hb hby d6_17) t k) ?_
  show Aw p e below _ T0 m 18 #[rv x1, rv x2, iv 0] [(.int 69)]
  refine Rch.go (fun t k => XS.aloadN X0.here hx rfl (hb hby d6_18) rfl rfl (XS.iloadN X0.here hx rfl (hb hby d6_19) rfl  k)) ?_
  show Aw p e below _ T0 m 20 #[rv x1, rv x2, iv 0] [(.int 0), (.ref x2), (.int 69)]
  obtain ⟨c5, r5, q5, s5, u5, H5, G5⟩ := id P2
  refine Rch.go (fun t k => X0.baloadBytes hx (j := (0 : Int32)) (v := (.int y5)) (by rw [e0]; exact r5.1) (State.isArrayOf_alike hZ.alike r5.2.1) r5.2.2 (inb_of s5 (by decide)) (H5.at (inb_of s5 (by decide)) rfl) (g := (mkF m 20 #[rv x1, rv x2, iv 0] [(.int 0), (.ref x2), (.int 69)])) rfl rfl (hb hby d6_20) t k) ?_
  show Aw p e below _ T0 m 21 #[rv x1, rv x2, iv 0] [(.int y5), (.int 69)]
  refine Rch.go (fun t k => XS.icmpNo X0.here hx rfl (hb hby d6_21) rfl (XT.ii_eq_f P3) (XS.iconst X0.here hx rfl (hb hby d6_24) k)) ?_
  show Aw p e below _ T0 m 25 #[rv x1, rv x2, iv 0] [(.int 0)]
  refine Rch.val X0 hx (t := .boolean) hret hlk rfl (mayI (by simp)) (hb hby d6_25) (by decide) (by decide) ?_
  try rw [e0]
  exact ⟨rfl, N0, rfl⟩
theorem ef_m61_equals (m : MethodId) (x1 x2 : Addr) : entryFrame m #[(.ref x1), (.ref x2)] 3 = mkF m 0 #[rv x1, rv x2, uu] [] := by first | rfl | (simp [entryFrame, mkF, argsToLocals, Value.category]; done)
theorem m61_equals (l : Launch) (Z : State) (a0 : Array Value) (hw : HW Z a0) (x1 x2 : Addr) (y3 : Int32) (x4 x5 : Addr) (kk6 kk7 : ClassId) (y8 : Int32) (h0 : Heap) (n0 : Nat) (Z0 : n0 ≤ h0.size) (O0 : Old Z n0 h0) (P1 : x1 ≠ x2) (P2 : Exa Z h0 x2 "java/lang/String") (P3 : Sta Z Z.heap "java/lang/String" "COMPACT_STRINGS" "Z" (.int y3)) (P4 : ¬ (y3 = (0 : Int32))) (P5 : Fld Z Z.heap x1 "java/lang/String" "coder" "B" (.int 0)) (P6 : Fld Z h0 x2 "java/lang/String" "coder" "B" (.int 0)) (P7 : Fld Z Z.heap x1 "java/lang/String" "value" "[B" (.ref x4)) (P8 : Fld Z h0 x2 "java/lang/String" "value" "[B" (.ref x5)) (P9 : Arv Z Z.heap x4 kk6 .byte (1 : Int32) [(.int 69)] (.int 0)) (P10 : Arv Z h0 x5 kk7 .byte (1 : Int32) [(.int y8)] (.int 0)) (P11 : ¬ ((69 : Int32) = y8)) :
    Ctr l Z [] (⟨"java/lang/String", "equals", s5'⟩ : MethodName) jdk_42_method_66_code 3 (some .boolean) #[(.ref x1), (.ref x2)] h0 ({ frames := 1, cells := 0, slots := 0, locals := 14 } : Room) (fun v h L => v = some (.int 0) ∧ Fr n0 L ∧ h = h0) := by
  refine Ctr.of (plainFor_of_name pn_java_lang_String) (fun m => ef_m61_equals m x1 x2) ?_
  intro p e s m below meth c T0 hx hZ hby hml hown hnm hret hlk X0 e0
  have N0 := Fr.nil n0
  show Aw p e below _ T0 m 0 #[rv x1, rv x2, uu] []
  refine Rch.go (fun t k => XS.aloadN X0.here hx rfl (hb hby d5_0) rfl rfl (XS.aloadN X0.here hx rfl (hb hby d5_1) rfl rfl (acmp X0 hx rfl (x := (.ref x1)) (y := (.ref x2)) rfl rfl (pc0 := 2) (pc' := 7) (same := false) rfl (hb hby d5_2) rfl (decide_eq_false (fun q => absurd (Value.ref.inj q) P1)) (by decide) (by decide) (XS.aloadN X0.here hx rfl (hb hby d5_7) rfl rfl k)))) ?_
  show Aw p e below _ T0 m 8 #[rv x1, rv x2, uu] [(.ref x2)]
  obtain ⟨T1, X1, e1, st1⟩ := instY X0 hx hZ hown (wd_51 hw) e0 (Ins.self P2) (g := (mkF m 8 #[rv x1, rv x2, uu] [(.ref x2)])) rfl rfl (hb hby d5_8)
  refine Rch.go st1 ?_
  show Aw p e below _ T1 m 11 #[rv x1, rv x2, uu] [(.int 1)]
  refine Rch.go (fun t k => XS.ifNo X1.here hx rfl (hb hby d5_11) rfl (by decide) (XS.aloadN X1.here hx rfl (hb hby d5_14) rfl rfl k)) ?_
  show Aw p e below _ T1 m 15 #[rv x1, rv x2, uu] [(.ref x2)]
  obtain ⟨T2, X2, e2, st2⟩ := castY X1 hx hZ hown (wd_51 hw) e1 (Ins.self P2) (g := (mkF m 15 #[rv x1, rv x2, uu] [(.ref x2)])) rfl rfl (hb hby d5_15)
  refine Rch.go st2 ?_
  show Aw p e below _ T2 m 18 #[rv x1, rv x2, uu] [(.ref x2)]
  refine Rch.go (fun t k => XS.astoreN X2.here hx rfl (hb hby d5_18) rfl rfl (l' := #[rv x1, rv x2, rv x2]) rfl k) ?_
  show Aw p e below _ T2 m 19 #[rv x1, rv x2, rv x2] []
  obtain ⟨T3, X3, e3, st3⟩ := getS2 X2 hx hZ hown (host := "") (Or.inl (wd_52 hw)) Via.refl e2 (P3.ext O0.2) (g := (mkF m 19 #[rv x1, rv x2, rv x2] [])) rfl (hb hby d5_19)
  refine Rch.go st3 ?_
  show Aw p e below _ T3 m 22 #[rv x1, rv x2, rv x2] [(.int y3)]
  refine Rch.go (fun t k => XS.ifNo X3.here hx rfl (hb hby d5_22) rfl (XT.i0_eq_f P4) (XS.aloadN X3.here hx rfl (hb hby d5_25) rfl rfl k)) ?_
  show Aw p e below _ T3 m 26 #[rv x1, rv x2, rv x2] [(.ref x1)]
  obtain ⟨T4, X4, e4, st4⟩ := getF X3 hx hZ hown (host := "") (Or.inl (wd_21 hw)) Via.refl e3 (P5.ext O0.2) (g := (mkF m 26 #[rv x1, rv x2, rv x2] [(.ref x1)])) rfl rfl (hb hby d5_26)
  refine Rch.go st4 ?_
  show Aw p e below _ T4 m 29 #[rv x1, rv x2, rv x2] [(.int 0)]
  refine Rch.go (fun t k => XS.aloadN X4.here hx rfl (hb hby d5_29) rfl rfl k) ?_
  show Aw p e below _ T4 m 30 #[rv x1, rv x2, rv x2] [(.ref x2), (.int 0)]
  obtain ⟨T5, X5, e5, st5⟩ := getF X4 hx hZ hown (host := "") (Or.inl (wd_21 hw)) Via.refl e4 P6 (g := (mkF m 30 #[rv x1, rv x2, rv x2] [(.ref x2), (.int 0)])) rfl rfl (hb hby d5_30)
  refine Rch.go st5 ?_
  show Aw p e below _ T5 m 33 #[rv x1, rv x2, rv x2] [(.int 0), (.int 0)]
  refine Rch.go (fun t k => XS.icmpNo X5.here hx rfl (hb hby d5_33) rfl (by decide) (XS.aloadN X5.here hx rfl (hb hby d5_36) rfl rfl k)) ?_
  show Aw p e below _ T5 m 37 #[rv x1, rv x2, rv x2] [(.ref x1)]
  obtain ⟨T6, X6, e6, st6⟩ := getF X5 hx hZ hown (host := "") (Or.inl (wd_20 hw)) Via.refl e5 (P7.ext O0.2) (g := (mkF m 37 #[rv x1, rv x2, rv x2] [(.ref x1)])) rfl rfl (hb hby d5_37)
  refine Rch.go st6 ?_
  show Aw p e below _ T6 m 40 #[rv x1, rv x2, rv x2] [(.ref x4)]
  refine Rch.go (fun t k => XS.aloadN X6.here hx rfl (hb hby d5_40) rfl rfl k) ?_
  show Aw p e below _ T6 m 41 #[rv x1, rv x2, rv x2] [(.ref x2), (.ref x4)]
  obtain ⟨T7, X7, e7, st7⟩ := getF X6 hx hZ hown (host := "") (Or.inl (wd_20 hw)) Via.refl e6 P8 (g := (mkF m 41 #[rv x1, rv x2, rv x2] [(.ref x2), (.ref x4)])) rfl rfl (hb hby d5_41)
  refine Rch.go st7 ?_
  show Aw p e below _ T7 m 44 #[rv x1, rv x2, rv x2] [(.ref x5), (.ref x4)]
  obtain ⟨v8, T8, L8, X8, Q8, st8⟩ := callSt X7 hx hZ (m62_equals l Z a0 hw x4 x5 kk6 kk7 y8 h0 n0 Z0 O0 P9 P10 P11) e7 hown (wd_53 hw) (wd_54 hw) (wd_56 hw) (wd_55 hw) (by decide) (hb hby d5_44) 0 (by decide) (by decide) (by decide) (by decide) (by rw [hml]; rfl) [(.ref x4), (.ref x5)] [] rfl (lenOf pd_5 rfl) rfl (Nat.le_of_eq rfl) (Ls := #[rv x1, rv x2, rv x2])
  obtain ⟨rfl, M8, e8⟩ := Q8
  have N8 := Fr.app N0 M8
  refine Rch.go st8 ?_
  show Aw p e below _ T8 m 47 #[rv x1, rv x2, rv x2] [(.int 0)]
  refine Rch.go (fun t k => XS.ifYes X8.here hx rfl (pc0 := 47) (pc' := 54) rfl (hb hby d5_47) rfl (by decide) (by decide) (by decide) (XS.iconst X8.here hx rfl (hb hby d5_54) k)) ?_
  show Aw p e below _ T8 m 55 #[rv x1, rv x2, rv x2] [(.int 0)]
  refine Rch.val X8 hx (t := .boolean) hret hlk rfl (mayI (by simp)) (hb hby d5_55) (by decide) (by decide) ?_
  try rw [e8]
  exact ⟨rfl, N8, rfl⟩
theorem ef_m64_equals (m : MethodId) (x1 x2 : Addr) : entryFrame m #[(.ref x1), (.ref x2)] 3 = mkF m 0 #[rv x1, rv x2, uu] [] := by first | rfl | (simp [entryFrame, mkF, argsToLocals, Value.category]; done)
theorem m64_equals (l : Launch) (Z : State) (a0 : Array Value) (hw : HW Z a0) (x1 x2 : Addr) (kk3 kk4 : ClassId) (y5 : Int32) (h0 : Heap) (n0 : Nat) (Z0 : n0 ≤ h0.size) (O0 : Old Z n0 h0) (P1 : Arv Z Z.heap x1 kk3 .byte (1 : Int32) [(.int 101)] (.int 0)) (P2 : Arv Z h0 x2 kk4 .byte (1 : Int32) [(.int y5)] (.int 0)) (P3 : ¬ ((101 : Int32) = y5)) :
    Ctr l Z [] (⟨s2', "equals", "([B[B)Z"⟩ : MethodName) jdk_43_method_13_code 3 (some .boolean) #[(.ref x1), (.ref x2)] h0 ({ frames := 0, cells := 0, slots := 0, locals := 0 } : Room) (fun v h L => v = some (.int 0) ∧ Fr n0 L ∧ h = h0) := by
  refine Ctr.of (plainFor_of_name pn_java_lang_StringLatin1) (fun m => ef_m64_equals m x1 x2) ?_
  intro p e s m below meth c T0 hx hZ hby hml hown hnm hret hlk X0 e0
  have N0 := Fr.nil n0
  show Aw p e below _ T0 m 0 #[rv x1, rv x2, uu] []
  refine Rch.go (fun t k => XS.aloadN X0.here hx rfl (hb hby d6_0) rfl rfl k) ?_
  show Aw p e below _ T0 m 1 #[rv x1, rv x2, uu] [(.ref x1)]
  obtain ⟨c1, r1, q1, s1, u1, H1, G1⟩ := id (P1.ext O0.2)
  refine Rch.go (fun t k => X0.arraylength hx (by rw [e0]; exact r1.1) (State.isArrayOf_alike hZ.alike r1.2.1) (g := (mkF m 1 #[rv x1, rv x2, uu] [(.ref x1)])) rfl rfl (hb hby d6_1) t (by rw [len_of s1 u1]; exact k)) ?_
  show Aw p e below _ T0 m 2 #[rv x1, rv x2, uu] [(.int 1)]
  refine Rch.go (fun t k => XS.aloadN X0.here hx rfl (hb hby d6_2) rfl rfl k) ?_
  show Aw p e below _ T0 m 3 #[rv x1, rv x2, uu] [(.ref x2), (.int 1)]
  obtain ⟨c2, r2, q2, s2, u2, H2, G2⟩ := id P2
  refine Rch.go (fun t k => X0.arraylength hx (by rw [e0]; exact r2.1) (State.isArrayOf_alike hZ.alike r2.2.1) (g := (mkF m 3 #[rv x1, rv x2, uu] [(.ref x2), (.int 1)])) rfl rfl (hb hby d6_3) t (by rw [len_of s2 u2]; exact k)) ?_
  show Aw p e below _ T0 m 4 #[rv x1, rv x2, uu] [(.int 1), (.int 1)]
  refine Rch.go (fun t k => XS.icmpNo X0.here hx rfl (hb hby d6_4) rfl (by decide) (XS.iconst X0.here hx rfl (hb hby d6_7) (XS.istoreN X0.here hx rfl (hb hby d6_8) rfl  (l' := #[rv x1, rv x2, iv 0]) rfl (XS.iloadN X0.here hx rfl (hb hby d6_9) rfl  (XS.aloadN X0.here hx rfl (hb hby d6_10) rfl rfl k))))) ?_
  show Aw p e below _ T0 m 11 #[rv x1, rv x2, iv 0] [(.ref x1), (.int 0)]
  obtain ⟨c3, r3, q3, s3, u3, H3, G3⟩ := id (P1.ext O0.2)
  refine Rch.go (fun t k => X0.arraylength hx (by rw [e0]; exact r3.1) (State.isArrayOf_alike hZ.alike r3.2.1) (g := (mkF m 11 #[rv x1, rv x2, iv 0] [(.ref x1), (.int 0)])) rfl rfl (hb hby d6_11) t (by rw [len_of s3 u3]; exact k)) ?_
  show Aw p e below _ T0 m 12 #[rv x1, rv x2, iv 0] [(.int 1), (.int 0)]
  refine Rch.go (fun t k => XS.icmpNo X0.here hx rfl (hb hby d6_12) rfl (by decide) (XS.aloadN X0.here hx rfl (hb hby d6_15) rfl rfl (XS.iloadN X0.here hx rfl (hb hby d6_16) rfl  k))) ?_
  show Aw p e below _ T0 m 17 #[rv x1, rv x2, iv 0] [(.int 0), (.ref x1)]
  obtain ⟨c4, r4, q4, s4, u4, H4, G4⟩ := id (P1.ext O0.2)
  refine Rch.go (fun t k => X0.baloadBytes hx (j := (0 : Int32)) (v := (.int 101)) (by rw [e0]; exact r4.1) (State.isArrayOf_alike hZ.alike r4.2.1) r4.2.2 (inb_of s4 (by decide)) (H4.at (inb_of s4 (by decide)) rfl) (g := (mkF m 17 #[rv x1, rv x2, iv 0] [(.int 0), (.ref x1)])) rfl rfl (hb hby d6_17) t k) ?_
  show Aw p e below _ T0 m 18 #[rv x1, rv x2, iv 0] [(.int 101)]
  refine Rch.go (fun t k => XS.aloadN X0.here hx rfl (hb hby d6_18) rfl rfl (XS.iloadN X0.here hx rfl (hb hby d6_19) rfl  k)) ?_
  show Aw p e below _ T0 m 20 #[rv x1, rv x2, iv 0] [(.int 0), (.ref x2), (.int 101)]
  obtain ⟨c5, r5, q5, s5, u5, H5, G5⟩ := id P2
  refine Rch.go (fun t k => X0.baloadBytes hx (j := (0 : Int32)) (v := (.int y5)) (by rw [e0]; exact r5.1) (State.isArrayOf_alike hZ.alike r5.2.1) r5.2.2 (inb_of s5 (by decide)) (H5.at (inb_of s5 (by decide)) rfl) (g := (mkF m 20 #[rv x1, rv x2, iv 0] [(.int 0), (.ref x2), (.int 101)])) rfl rfl (hb hby d6_20) t k) ?_
  show Aw p e below _ T0 m 21 #[rv x1, rv x2, iv 0] [(.int y5), (.int 101)]
  refine Rch.go (fun t k => XS.icmpNo X0.here hx rfl (hb hby d6_21) rfl (XT.ii_eq_f P3) (XS.iconst X0.here hx rfl (hb hby d6_24) k)) ?_
  show Aw p e below _ T0 m 25 #[rv x1, rv x2, iv 0] [(.int 0)]
  refine Rch.val X0 hx (t := .boolean) hret hlk rfl (mayI (by simp)) (hb hby d6_25) (by decide) (by decide) ?_
  try rw [e0]
  exact ⟨rfl, N0, rfl⟩
theorem ef_m63_equals (m : MethodId) (x1 x2 : Addr) : entryFrame m #[(.ref x1), (.ref x2)] 3 = mkF m 0 #[rv x1, rv x2, uu] [] := by first | rfl | (simp [entryFrame, mkF, argsToLocals, Value.category]; done)
theorem m63_equals (l : Launch) (Z : State) (a0 : Array Value) (hw : HW Z a0) (x1 x2 : Addr) (y3 : Int32) (x4 x5 : Addr) (kk6 kk7 : ClassId) (y8 : Int32) (h0 : Heap) (n0 : Nat) (Z0 : n0 ≤ h0.size) (O0 : Old Z n0 h0) (P1 : x1 ≠ x2) (P2 : Exa Z h0 x2 "java/lang/String") (P3 : Sta Z Z.heap "java/lang/String" "COMPACT_STRINGS" "Z" (.int y3)) (P4 : ¬ (y3 = (0 : Int32))) (P5 : Fld Z Z.heap x1 "java/lang/String" "coder" "B" (.int 0)) (P6 : Fld Z h0 x2 "java/lang/String" "coder" "B" (.int 0)) (P7 : Fld Z Z.heap x1 "java/lang/String" "value" "[B" (.ref x4)) (P8 : Fld Z h0 x2 "java/lang/String" "value" "[B" (.ref x5)) (P9 : Arv Z Z.heap x4 kk6 .byte (1 : Int32) [(.int 101)] (.int 0)) (P10 : Arv Z h0 x5 kk7 .byte (1 : Int32) [(.int y8)] (.int 0)) (P11 : ¬ ((69 : Int32) = y8)) (P12 : ¬ ((101 : Int32) = y8)) :
    Ctr l Z [] (⟨"java/lang/String", "equals", s5'⟩ : MethodName) jdk_42_method_66_code 3 (some .boolean) #[(.ref x1), (.ref x2)] h0 ({ frames := 1, cells := 0, slots := 0, locals := 14 } : Room) (fun v h L => v = some (.int 0) ∧ Fr n0 L ∧ h = h0) := by
  refine Ctr.of (plainFor_of_name pn_java_lang_String) (fun m => ef_m63_equals m x1 x2) ?_
  intro p e s m below meth c T0 hx hZ hby hml hown hnm hret hlk X0 e0
  have N0 := Fr.nil n0
  show Aw p e below _ T0 m 0 #[rv x1, rv x2, uu] []
  refine Rch.go (fun t k => XS.aloadN X0.here hx rfl (hb hby d5_0) rfl rfl (XS.aloadN X0.here hx rfl (hb hby d5_1) rfl rfl (acmp X0 hx rfl (x := (.ref x1)) (y := (.ref x2)) rfl rfl (pc0 := 2) (pc' := 7) (same := false) rfl (hb hby d5_2) rfl (decide_eq_false (fun q => absurd (Value.ref.inj q) P1)) (by decide) (by decide) (XS.aloadN X0.here hx rfl (hb hby d5_7) rfl rfl k)))) ?_
  show Aw p e below _ T0 m 8 #[rv x1, rv x2, uu] [(.ref x2)]
  obtain ⟨T1, X1, e1, st1⟩ := instY X0 hx hZ hown (wd_51 hw) e0 (Ins.self P2) (g := (mkF m 8 #[rv x1, rv x2, uu] [(.ref x2)])) rfl rfl (hb hby d5_8)
  refine Rch.go st1 ?_
  show Aw p e below _ T1 m 11 #[rv x1, rv x2, uu] [(.int 1)]
  refine Rch.go (fun t k => XS.ifNo X1.here hx rfl (hb hby d5_11) rfl (by decide) (XS.aloadN X1.here hx rfl (hb hby d5_14) rfl rfl k)) ?_
  show Aw p e below _ T1 m 15 #[rv x1, rv x2, uu] [(.ref x2)]
  obtain ⟨T2, X2, e2, st2⟩ := castY X1 hx hZ hown (wd_51 hw) e1 (Ins.self P2) (g := (mkF m 15 #[rv x1, rv x2, uu] [(.ref x2)])) rfl rfl (hb hby d5_15)
  refine Rch.go st2 ?_
  show Aw p e below _ T2 m 18 #[rv x1, rv x2, uu] [(.ref x2)]
  refine Rch.go (fun t k => XS.astoreN X2.here hx rfl (hb hby d5_18) rfl rfl (l' := #[rv x1, rv x2, rv x2]) rfl k) ?_
  show Aw p e below _ T2 m 19 #[rv x1, rv x2, rv x2] []
  obtain ⟨T3, X3, e3, st3⟩ := getS2 X2 hx hZ hown (host := "") (Or.inl (wd_52 hw)) Via.refl e2 (P3.ext O0.2) (g := (mkF m 19 #[rv x1, rv x2, rv x2] [])) rfl (hb hby d5_19)
  refine Rch.go st3 ?_
  show Aw p e below _ T3 m 22 #[rv x1, rv x2, rv x2] [(.int y3)]
  refine Rch.go (fun t k => XS.ifNo X3.here hx rfl (hb hby d5_22) rfl (XT.i0_eq_f P4) (XS.aloadN X3.here hx rfl (hb hby d5_25) rfl rfl k)) ?_
  show Aw p e below _ T3 m 26 #[rv x1, rv x2, rv x2] [(.ref x1)]
  obtain ⟨T4, X4, e4, st4⟩ := getF X3 hx hZ hown (host := "") (Or.inl (wd_21 hw)) Via.refl e3 (P5.ext O0.2) (g := (mkF m 26 #[rv x1, rv x2, rv x2] [(.ref x1)])) rfl rfl (hb hby d5_26)
  refine Rch.go st4 ?_
  show Aw p e below _ T4 m 29 #[rv x1, rv x2, rv x2] [(.int 0)]
  refine Rch.go (fun t k => XS.aloadN X4.here hx rfl (hb hby d5_29) rfl rfl k) ?_
  show Aw p e below _ T4 m 30 #[rv x1, rv x2, rv x2] [(.ref x2), (.int 0)]
  obtain ⟨T5, X5, e5, st5⟩ := getF X4 hx hZ hown (host := "") (Or.inl (wd_21 hw)) Via.refl e4 P6 (g := (mkF m 30 #[rv x1, rv x2, rv x2] [(.ref x2), (.int 0)])) rfl rfl (hb hby d5_30)
  refine Rch.go st5 ?_
  show Aw p e below _ T5 m 33 #[rv x1, rv x2, rv x2] [(.int 0), (.int 0)]
  refine Rch.go (fun t k => XS.icmpNo X5.here hx rfl (hb hby d5_33) rfl (by decide) (XS.aloadN X5.here hx rfl (hb hby d5_36) rfl rfl k)) ?_
  show Aw p e below _ T5 m 37 #[rv x1, rv x2, rv x2] [(.ref x1)]
  obtain ⟨T6, X6, e6, st6⟩ := getF X5 hx hZ hown (host := "") (Or.inl (wd_20 hw)) Via.refl e5 (P7.ext O0.2) (g := (mkF m 37 #[rv x1, rv x2, rv x2] [(.ref x1)])) rfl rfl (hb hby d5_37)
  refine Rch.go st6 ?_
  show Aw p e below _ T6 m 40 #[rv x1, rv x2, rv x2] [(.ref x4)]
  refine Rch.go (fun t k => XS.aloadN X6.here hx rfl (hb hby d5_40) rfl rfl k) ?_
  show Aw p e below _ T6 m 41 #[rv x1, rv x2, rv x2] [(.ref x2), (.ref x4)]
  obtain ⟨T7, X7, e7, st7⟩ := getF X6 hx hZ hown (host := "") (Or.inl (wd_20 hw)) Via.refl e6 P8 (g := (mkF m 41 #[rv x1, rv x2, rv x2] [(.ref x2), (.ref x4)])) rfl rfl (hb hby d5_41)
  refine Rch.go st7 ?_
  show Aw p e below _ T7 m 44 #[rv x1, rv x2, rv x2] [(.ref x5), (.ref x4)]
  obtain ⟨v8, T8, L8, X8, Q8, st8⟩ := callSt X7 hx hZ (m64_equals l Z a0 hw x4 x5 kk6 kk7 y8 h0 n0 Z0 O0 P9 P10 P12) e7 hown (wd_53 hw) (wd_54 hw) (wd_56 hw) (wd_55 hw) (by decide) (hb hby d5_44) 0 (by decide) (by decide) (by decide) (by decide) (by rw [hml]; rfl) [(.ref x4), (.ref x5)] [] rfl (lenOf pd_5 rfl) rfl (Nat.le_of_eq rfl) (Ls := #[rv x1, rv x2, rv x2])
  obtain ⟨rfl, M8, e8⟩ := Q8
  have N8 := Fr.app N0 M8
  refine Rch.go st8 ?_
  show Aw p e below _ T8 m 47 #[rv x1, rv x2, rv x2] [(.int 0)]
  refine Rch.go (fun t k => XS.ifYes X8.here hx rfl (pc0 := 47) (pc' := 54) rfl (hb hby d5_47) rfl (by decide) (by decide) (by decide) (XS.iconst X8.here hx rfl (hb hby d5_54) k)) ?_
  show Aw p e below _ T8 m 55 #[rv x1, rv x2, rv x2] [(.int 0)]
  refine Rch.val X8 hx (t := .boolean) hret hlk rfl (mayI (by simp)) (hb hby d5_55) (by decide) (by decide) ?_
  try rw [e8]
  exact ⟨rfl, N8, rfl⟩
theorem ef_m66_equals (m : MethodId) (x1 x2 : Addr) : entryFrame m #[(.ref x1), (.ref x2)] 3 = mkF m 0 #[rv x1, rv x2, uu] [] := by first | rfl | (simp [entryFrame, mkF, argsToLocals, Value.category]; done)
theorem m66_equals (l : Launch) (Z : State) (a0 : Array Value) (hw : HW Z a0) (x1 x2 : Addr) (kk3 kk4 : ClassId) (y5 : Int32) (h0 : Heap) (n0 : Nat) (Z0 : n0 ≤ h0.size) (O0 : Old Z n0 h0) (P1 : Arv Z Z.heap x1 kk3 .byte (1 : Int32) [(.int 38)] (.int 0)) (P2 : Arv Z h0 x2 kk4 .byte (1 : Int32) [(.int y5)] (.int 0)) (P3 : ¬ ((38 : Int32) = y5)) :
    Ctr l Z [] (⟨s2', "equals", "([B[B)Z"⟩ : MethodName) jdk_43_method_13_code 3 (some .boolean) #[(.ref x1), (.ref x2)] h0 ({ frames := 0, cells := 0, slots := 0, locals := 0 } : Room) (fun v h L => v = some (.int 0) ∧ Fr n0 L ∧ h = h0) := by
  refine Ctr.of (plainFor_of_name pn_java_lang_StringLatin1) (fun m => ef_m66_equals m x1 x2) ?_
  intro p e s m below meth c T0 hx hZ hby hml hown hnm hret hlk X0 e0
  have N0 := Fr.nil n0
  show Aw p e below _ T0 m 0 #[rv x1, rv x2, uu] []
  refine Rch.go (fun t k => XS.aloadN X0.here hx rfl (hb hby d6_0) rfl rfl k) ?_
  show Aw p e below _ T0 m 1 #[rv x1, rv x2, uu] [(.ref x1)]
  obtain ⟨c1, r1, q1, s1, u1, H1, G1⟩ := id (P1.ext O0.2)
  refine Rch.go (fun t k => X0.arraylength hx (by rw [e0]; exact r1.1) (State.isArrayOf_alike hZ.alike r1.2.1) (g := (mkF m 1 #[rv x1, rv x2, uu] [(.ref x1)])) rfl rfl (hb hby d6_1) t (by rw [len_of s1 u1]; exact k)) ?_
  show Aw p e below _ T0 m 2 #[rv x1, rv x2, uu] [(.int 1)]
  refine Rch.go (fun t k => XS.aloadN X0.here hx rfl (hb hby d6_2) rfl rfl k) ?_
  show Aw p e below _ T0 m 3 #[rv x1, rv x2, uu] [(.ref x2), (.int 1)]
  obtain ⟨c2, r2, q2, s2, u2, H2, G2⟩ := id P2
  refine Rch.go (fun t k => X0.arraylength hx (by rw [e0]; exact r2.1) (State.isArrayOf_alike hZ.alike r2.2.1) (g := (mkF m 3 #[rv x1, rv x2, uu] [(.ref x2), (.int 1)])) rfl rfl (hb hby d6_3) t (by rw [len_of s2 u2]; exact k)) ?_
  show Aw p e below _ T0 m 4 #[rv x1, rv x2, uu] [(.int 1), (.int 1)]
  refine Rch.go (fun t k => XS.icmpNo X0.here hx rfl (hb hby d6_4) rfl (by decide) (XS.iconst X0.here hx rfl (hb hby d6_7) (XS.istoreN X0.here hx rfl (hb hby d6_8) rfl  (l' := #[rv x1, rv x2, iv 0]) rfl (XS.iloadN X0.here hx rfl (hb hby d6_9) rfl  (XS.aloadN X0.here hx rfl (hb hby d6_10) rfl rfl k))))) ?_
  show Aw p e below _ T0 m 11 #[rv x1, rv x2, iv 0] [(.ref x1), (.int 0)]
  obtain ⟨c3, r3, q3, s3, u3, H3, G3⟩ := id (P1.ext O0.2)
  refine Rch.go (fun t k => X0.arraylength hx (by rw [e0]; exact r3.1) (State.isArrayOf_alike hZ.alike r3.2.1) (g := (mkF m 11 #[rv x1, rv x2, iv 0] [(.ref x1), (.int 0)])) rfl rfl (hb hby d6_11) t (by rw [len_of s3 u3]; exact k)) ?_
  show Aw p e below _ T0 m 12 #[rv x1, rv x2, iv 0] [(.int 1), (.int 0)]
  refine Rch.go (fun t k => XS.icmpNo X0.here hx rfl (hb hby d6_12) rfl (by decide) (XS.aloadN X0.here hx rfl (hb hby d6_15) rfl rfl (XS.iloadN X0.here hx rfl (hb hby d6_16) rfl  k))) ?_
  show Aw p e below _ T0 m 17 #[rv x1, rv x2, iv 0] [(.int 0), (.ref x1)]
  obtain ⟨c4, r4, q4, s4, u4, H4, G4⟩ := id (P1.ext O0.2)
  refine Rch.go (fun t k => X0.baloadBytes hx (j := (0 : Int32)) (v := (.int 38)) (by rw [e0]; exact r4.1) (State.isArrayOf_alike hZ.alike r4.2.1) r4.2.2 (inb_of s4 (by decide)) (H4.at (inb_of s4 (by decide)) rfl) (g := (mkF m 17 #[rv x1, rv x2, iv 0] [(.int 0), (.ref x1)])) rfl rfl (hb hby d6_17) t k) ?_
  show Aw p e below _ T0 m 18 #[rv x1, rv x2, iv 0] [(.int 38)]
  refine Rch.go (fun t k => XS.aloadN X0.here hx rfl (hb hby d6_18) rfl rfl (XS.iloadN X0.here hx rfl (hb hby d6_19) rfl  k)) ?_
  show Aw p e below _ T0 m 20 #[rv x1, rv x2, iv 0] [(.int 0), (.ref x2), (.int 38)]
  obtain ⟨c5, r5, q5, s5, u5, H5, G5⟩ := id P2
  refine Rch.go (fun t k => X0.baloadBytes hx (j := (0 : Int32)) (v := (.int y5)) (by rw [e0]; exact r5.1) (State.isArrayOf_alike hZ.alike r5.2.1) r5.2.2 (inb_of s5 (by decide)) (H5.at (inb_of s5 (by decide)) rfl) (g := (mkF m 20 #[rv x1, rv x2, iv 0] [(.int 0), (.ref x2), (.int 38)])) rfl rfl (hb hby d6_20) t k) ?_
  show Aw p e below _ T0 m 21 #[rv x1, rv x2, iv 0] [(.int y5), (.int 38)]
  refine Rch.go (fun t k => XS.icmpNo X0.here hx rfl (hb hby d6_21) rfl (XT.ii_eq_f P3) (XS.iconst X0.here hx rfl (hb hby d6_24) k)) ?_
  show Aw p e below _ T0 m 25 #[rv x1, rv x2, iv 0] [(.int 0)]
  refine Rch.val X0 hx (t := .boolean) hret hlk rfl (mayI (by simp)) (hb hby d6_25) (by decide) (by decide) ?_
  try rw [e0]
  exact ⟨rfl, N0, rfl⟩
theorem ef_m65_equals (m : MethodId) (x1 x2 : Addr) : entryFrame m #[(.ref x1), (.ref x2)] 3 = mkF m 0 #[rv x1, rv x2, uu] [] := by first | rfl | (simp [entryFrame, mkF, argsToLocals, Value.category]; done)
theorem m65_equals (l : Launch) (Z : State) (a0 : Array Value) (hw : HW Z a0) (x1 x2 : Addr) (y3 : Int32) (x4 x5 : Addr) (kk6 kk7 : ClassId) (y8 : Int32) (h0 : Heap) (n0 : Nat) (Z0 : n0 ≤ h0.size) (O0 : Old Z n0 h0) (P1 : x1 ≠ x2) (P2 : Exa Z h0 x2 "java/lang/String") (P3 : Sta Z Z.heap "java/lang/String" "COMPACT_STRINGS" "Z" (.int y3)) (P4 : ¬ (y3 = (0 : Int32))) (P5 : Fld Z Z.heap x1 "java/lang/String" "coder" "B" (.int 0)) (P6 : Fld Z h0 x2 "java/lang/String" "coder" "B" (.int 0)) (P7 : Fld Z Z.heap x1 "java/lang/String" "value" "[B" (.ref x4)) (P8 : Fld Z h0 x2 "java/lang/String" "value" "[B" (.ref x5)) (P9 : Arv Z Z.heap x4 kk6 .byte (1 : Int32) [(.int 38)] (.int 0)) (P10 : Arv Z h0 x5 kk7 .byte (1 : Int32) [(.int y8)] (.int 0)) (P11 : ¬ ((69 : Int32) = y8)) (P12 : ¬ ((101 : Int32) = y8)) (P13 : ¬ ((38 : Int32) = y8)) :
    Ctr l Z [] (⟨"java/lang/String", "equals", s5'⟩ : MethodName) jdk_42_method_66_code 3 (some .boolean) #[(.ref x1), (.ref x2)] h0 ({ frames := 1, cells := 0, slots := 0, locals := 14 } : Room) (fun v h L => v = some (.int 0) ∧ Fr n0 L ∧ h = h0) := by
  refine Ctr.of (plainFor_of_name pn_java_lang_String) (fun m => ef_m65_equals m x1 x2) ?_
  intro p e s m below meth c T0 hx hZ hby hml hown hnm hret hlk X0 e0
  have N0 := Fr.nil n0
  show Aw p e below _ T0 m 0 #[rv x1, rv x2, uu] []
  refine Rch.go (fun t k => XS.aloadN X0.here hx rfl (hb hby d5_0) rfl rfl (XS.aloadN X0.here hx rfl (hb hby d5_1) rfl rfl (acmp X0 hx rfl (x := (.ref x1)) (y := (.ref x2)) rfl rfl (pc0 := 2) (pc' := 7) (same := false) rfl (hb hby d5_2) rfl (decide_eq_false (fun q => absurd (Value.ref.inj q) P1)) (by decide) (by decide) (XS.aloadN X0.here hx rfl (hb hby d5_7) rfl rfl k)))) ?_
  show Aw p e below _ T0 m 8 #[rv x1, rv x2, uu] [(.ref x2)]
  obtain ⟨T1, X1, e1, st1⟩ := instY X0 hx hZ hown (wd_51 hw) e0 (Ins.self P2) (g := (mkF m 8 #[rv x1, rv x2, uu] [(.ref x2)])) rfl rfl (hb hby d5_8)
  refine Rch.go st1 ?_
  show Aw p e below _ T1 m 11 #[rv x1, rv x2, uu] [(.int 1)]
  refine Rch.go (fun t k => XS.ifNo X1.here hx rfl (hb hby d5_11) rfl (by decide) (XS.aloadN X1.here hx rfl (hb hby d5_14) rfl rfl k)) ?_
  show Aw p e below _ T1 m 15 #[rv x1, rv x2, uu] [(.ref x2)]
  obtain ⟨T2, X2, e2, st2⟩ := castY X1 hx hZ hown (wd_51 hw) e1 (Ins.self P2) (g := (mkF m 15 #[rv x1, rv x2, uu] [(.ref x2)])) rfl rfl (hb hby d5_15)
  refine Rch.go st2 ?_
  show Aw p e below _ T2 m 18 #[rv x1, rv x2, uu] [(.ref x2)]
  refine Rch.go (fun t k => XS.astoreN X2.here hx rfl (hb hby d5_18) rfl rfl (l' := #[rv x1, rv x2, rv x2]) rfl k) ?_
  show Aw p e below _ T2 m 19 #[rv x1, rv x2, rv x2] []
  obtain ⟨T3, X3, e3, st3⟩ := getS2 X2 hx hZ hown (host := "") (Or.inl (wd_52 hw)) Via.refl e2 (P3.ext O0.2) (g := (mkF m 19 #[rv x1, rv x2, rv x2] [])) rfl (hb hby d5_19)
  refine Rch.go st3 ?_
  show Aw p e below _ T3 m 22 #[rv x1, rv x2, rv x2] [(.int y3)]
  refine Rch.go (fun t k => XS.ifNo X3.here hx rfl (hb hby d5_22) rfl (XT.i0_eq_f P4) (XS.aloadN X3.here hx rfl (hb hby d5_25) rfl rfl k)) ?_
  show Aw p e below _ T3 m 26 #[rv x1, rv x2, rv x2] [(.ref x1)]
  obtain ⟨T4, X4, e4, st4⟩ := getF X3 hx hZ hown (host := "") (Or.inl (wd_21 hw)) Via.refl e3 (P5.ext O0.2) (g := (mkF m 26 #[rv x1, rv x2, rv x2] [(.ref x1)])) rfl rfl (hb hby d5_26)
  refine Rch.go st4 ?_
  show Aw p e below _ T4 m 29 #[rv x1, rv x2, rv x2] [(.int 0)]
  refine Rch.go (fun t k => XS.aloadN X4.here hx rfl (hb hby d5_29) rfl rfl k) ?_
  show Aw p e below _ T4 m 30 #[rv x1, rv x2, rv x2] [(.ref x2), (.int 0)]
  obtain ⟨T5, X5, e5, st5⟩ := getF X4 hx hZ hown (host := "") (Or.inl (wd_21 hw)) Via.refl e4 P6 (g := (mkF m 30 #[rv x1, rv x2, rv x2] [(.ref x2), (.int 0)])) rfl rfl (hb hby d5_30)
  refine Rch.go st5 ?_
  show Aw p e below _ T5 m 33 #[rv x1, rv x2, rv x2] [(.int 0), (.int 0)]
  refine Rch.go (fun t k => XS.icmpNo X5.here hx rfl (hb hby d5_33) rfl (by decide) (XS.aloadN X5.here hx rfl (hb hby d5_36) rfl rfl k)) ?_
  show Aw p e below _ T5 m 37 #[rv x1, rv x2, rv x2] [(.ref x1)]
  obtain ⟨T6, X6, e6, st6⟩ := getF X5 hx hZ hown (host := "") (Or.inl (wd_20 hw)) Via.refl e5 (P7.ext O0.2) (g := (mkF m 37 #[rv x1, rv x2, rv x2] [(.ref x1)])) rfl rfl (hb hby d5_37)
  refine Rch.go st6 ?_
  show Aw p e below _ T6 m 40 #[rv x1, rv x2, rv x2] [(.ref x4)]
  refine Rch.go (fun t k => XS.aloadN X6.here hx rfl (hb hby d5_40) rfl rfl k) ?_
  show Aw p e below _ T6 m 41 #[rv x1, rv x2, rv x2] [(.ref x2), (.ref x4)]
  obtain ⟨T7, X7, e7, st7⟩ := getF X6 hx hZ hown (host := "") (Or.inl (wd_20 hw)) Via.refl e6 P8 (g := (mkF m 41 #[rv x1, rv x2, rv x2] [(.ref x2), (.ref x4)])) rfl rfl (hb hby d5_41)
  refine Rch.go st7 ?_
  show Aw p e below _ T7 m 44 #[rv x1, rv x2, rv x2] [(.ref x5), (.ref x4)]
  obtain ⟨v8, T8, L8, X8, Q8, st8⟩ := callSt X7 hx hZ (m66_equals l Z a0 hw x4 x5 kk6 kk7 y8 h0 n0 Z0 O0 P9 P10 P13) e7 hown (wd_53 hw) (wd_54 hw) (wd_56 hw) (wd_55 hw) (by decide) (hb hby d5_44) 0 (by decide) (by decide) (by decide) (by decide) (by rw [hml]; rfl) [(.ref x4), (.ref x5)] [] rfl (lenOf pd_5 rfl) rfl (Nat.le_of_eq rfl) (Ls := #[rv x1, rv x2, rv x2])
  obtain ⟨rfl, M8, e8⟩ := Q8
  have N8 := Fr.app N0 M8
  refine Rch.go st8 ?_
  show Aw p e below _ T8 m 47 #[rv x1, rv x2, rv x2] [(.int 0)]
  refine Rch.go (fun t k => XS.ifYes X8.here hx rfl (pc0 := 47) (pc' := 54) rfl (hb hby d5_47) rfl (by decide) (by decide) (by decide) (XS.iconst X8.here hx rfl (hb hby d5_54) k)) ?_
  show Aw p e below _ T8 m 55 #[rv x1, rv x2, rv x2] [(.int 0)]
  refine Rch.val X8 hx (t := .boolean) hret hlk rfl (mayI (by simp)) (hb hby d5_55) (by decide) (by decide) ?_
  try rw [e8]
  exact ⟨rfl, N8, rfl⟩
theorem ef_m60_of (m : MethodId) (x1 : Addr) : entryFrame m #[(.ref x1)] 5 = mkF m 0 #[rv x1, uu, uu, uu, uu] [] := by first | rfl | (simp [entryFrame, mkF, argsToLocals, Value.category]; done)
theorem m60_of (l : Launch) (Z : State) (a0 : Array Value) (hw : HW Z a0) (x1 x2 : Addr) (kk3 : ClassId) (x4 x5 x6 x7 : Addr) (y8 : Int32) (x9 x10 : Addr) (kk11 kk12 : ClassId) (y13 : Int32) (x14 x15 : Addr) (kk16 : ClassId) (x17 x18 : Addr) (kk19 : ClassId) (h0 : Heap) (n0 : Nat) (Z0 : n0 ≤ h0.size) (O0 : Old Z n0 h0) (P1 : Sta Z Z.heap s1' "$VALUES" s3' (.ref x2)) (P2 : Arv Z Z.heap x2 kk3 (.object s1') (3 : Int32) [(.ref x4), (.ref x5), (.ref x6)] .null) (P3 : Exa Z Z.heap x2 s3') (P4 : Fld Z Z.heap x4 s1' "text" "Ljava/lang/String;" (.ref x7)) (P5 : Exa Z Z.heap x7 "java/lang/String") (P6 : x7 ≠ x1) (P7 : Exa Z h0 x1 "java/lang/String") (P8 : Sta Z Z.heap "java/lang/String" "COMPACT_STRINGS" "Z" (.int y8)) (P9 : ¬ (y8 = (0 : Int32))) (P10 : Fld Z Z.heap x7 "java/lang/String" "coder" "B" (.int 0)) (P11 : Fld Z h0 x1 "java/lang/String" "coder" "B" (.int 0)) (P12 : Fld Z Z.heap x7 "java/lang/String" "value" "[B" (.ref x9)) (P13 : Fld Z h0 x1 "java/lang/String" "value" "[B" (.ref x10)) (P14 : Arv Z Z.heap x9 kk11 .byte (1 : Int32) [(.int 69)] (.int 0)) (P15 : Arv Z h0 x10 kk12 .byte (1 : Int32) [(.int y13)] (.int 0)) (P16 : ¬ ((69 : Int32) = y13)) (P17 : Fld Z Z.heap x5 s1' "text" "Ljava/lang/String;" (.ref x14)) (P18 : Exa Z Z.heap x14 "java/lang/String") (P19 : x14 ≠ x1) (P20 : Fld Z Z.heap x14 "java/lang/String" "coder" "B" (.int 0)) (P21 : Fld Z Z.heap x14 "java/lang/String" "value" "[B" (.ref x15)) (P22 : Arv Z Z.heap x15 kk16 .byte (1 : Int32) [(.int 101)] (.int 0)) (P23 : ¬ ((101 : Int32) = y13)) (P24 : Fld Z Z.heap x6 s1' "text" "Ljava/lang/String;" (.ref x17)) (P25 : Exa Z Z.heap x17 "java/lang/String") (P26 : x17 ≠ x1) (P27 : Fld Z Z.heap x17 "java/lang/String" "coder" "B" (.int 0)) (P28 : Fld Z Z.heap x17 "java/lang/String" "value" "[B" (.ref x18)) (P29 : Arv Z Z.heap x18 kk19 .byte (1 : Int32) [(.int 38)] (.int 0)) (P30 : ¬ ((38 : Int32) = y13)) :
    Ctr l Z [] (⟨s1', "of", s8'⟩ : MethodName) prog_61_method_4_code 5 (some (.object s1')) #[(.ref x1)] h0 ({ frames := 2, cells := 1, slots := 3, locals := 28 } : Room) (fun v h L => v = some .null ∧ Fr n0 L ∧ Keep h0 h []) := by
  refine Ctr.of (plainFor_of_name pn_com_example_knit_theories_knittheories_model_Gather) (fun m => ef_m60_of m x1) ?_
  intro p e s m below meth c T0 hx hZ hby hml hown hnm hret hlk X0 e0
  have N0 := Fr.nil n0
  show Aw p e below _ T0 m 0 #[rv x1, uu, uu, uu, uu] []
  obtain ⟨v1, T1, L1, X1, Q1, st1⟩ := callSt X0 hx hZ (m2_values l Z a0 hw x2 kk3 x4 x5 x6 h0 n0 Z0 O0 P1 P2 P3) e0 hown (wd_26 hw) (wd_27 hw) (wd_28 hw) (wd_24 hw) (by decide) (hb hby d3_0) 0 (by decide) (by decide) (by decide) (by decide) (by rw [hml]; rfl) [] [] rfl (lenOf pd_1 rfl) rfl (Nat.le_of_eq rfl) (Ls := #[rv x1, uu, uu, uu, uu])
  obtain ⟨b1_0, rfl, M1, K1, zz1_0, F1_0, F1_1⟩ := Q1
  have N1 := Fr.app N0 M1
  refine Rch.go st1 ?_
  have g_b1_0 : n0 ≤ b1_0 := Nat.le_trans Z0 zz1_0
  show Aw p e below _ T1 m 3 #[rv x1, uu, uu, uu, uu] [(.ref b1_0)]
  refine Rch.go (fun t k => XS.astoreN X1.here hx rfl (hb hby d3_3) rfl rfl (l' := #[rv x1, rv b1_0, uu, uu, uu]) rfl (XS.aloadN X1.here hx rfl (hb hby d3_4) rfl rfl k)) ?_
  show Aw p e below _ T1 m 5 #[rv x1, rv b1_0, uu, uu, uu] [(.ref b1_0)]
  obtain ⟨c2, r2, q2, s2, u2, H2, G2⟩ := id F1_1
  refine Rch.go (fun t k => X1.arraylength hx r2.1 (State.isArrayOf_alike hZ.alike r2.2.1) (g := (mkF m 5 #[rv x1, rv b1_0, uu, uu, uu] [(.ref b1_0)])) rfl rfl (hb hby d3_5) t (by rw [len_of s2 u2]; exact k)) ?_
  show Aw p e below _ T1 m 6 #[rv x1, rv b1_0, uu, uu, uu] [(.int 3)]
  refine Rch.go (fun t k => XS.istoreN X1.here hx rfl (hb hby d3_6) rfl  (l' := #[rv x1, rv b1_0, iv 3, uu, uu]) rfl (XS.iconst X1.here hx rfl (hb hby d3_7) (XS.istoreN X1.here hx rfl (hb hby d3_8) rfl  (l' := #[rv x1, rv b1_0, iv 3, iv 0, uu]) rfl (XS.iloadN X1.here hx rfl (hb hby d3_9) rfl  (XS.iloadN X1.here hx rfl (hb hby d3_10) rfl  (XS.icmpNo X1.here hx rfl (hb hby d3_11) rfl (by decide) (XS.aloadN X1.here hx rfl (hb hby d3_14) rfl rfl (XS.iloadN X1.here hx rfl (hb hby d3_15) rfl  k)))))))) ?_
  show Aw p e below _ T1 m 16 #[rv x1, rv b1_0, iv 3, iv 0, uu] [(.int 0), (.ref b1_0)]
  obtain ⟨c3, r3, q3, s3, u3, H3, G3⟩ := id F1_1
  refine Rch.go (fun t k => X1.aaload hx (j := (0 : Int32)) (v := (.ref x4)) r3.1 (State.isArrayOf_alike hZ.alike r3.2.1) rfl r3.2.2 (inb_of s3 (by decide)) (H3.at (inb_of s3 (by decide)) rfl) (g := (mkF m 16 #[rv x1, rv b1_0, iv 3, iv 0, uu] [(.int 0), (.ref b1_0)])) rfl rfl (hb hby d3_16) t k) ?_
  show Aw p e below _ T1 m 17 #[rv x1, rv b1_0, iv 3, iv 0, uu] [(.ref x4)]
  refine Rch.go (fun t k => XS.astore X1.here hx rfl (hb hby d3_17) rfl rfl (l' := #[rv x1, rv b1_0, iv 3, iv 0, rv x4]) rfl (XS.aload X1.here hx rfl (hb hby d3_19) rfl rfl k)) ?_
  show Aw p e below _ T1 m 21 #[rv x1, rv b1_0, iv 3, iv 0, rv x4] [(.ref x4)]
  have o5 := (O0.keep K1 all0)
  obtain ⟨T4, X4, e4, st4⟩ := getF X1 hx hZ hown (host := "") (Or.inl (wd_44 hw)) Via.refl rfl (P4.ext o5.2) (g := (mkF m 21 #[rv x1, rv b1_0, iv 3, iv 0, rv x4] [(.ref x4)])) rfl rfl (hb hby d3_21)
  refine Rch.go st4 ?_
  show Aw p e below _ T4 m 24 #[rv x1, rv b1_0, iv 3, iv 0, rv x4] [(.ref x7)]
  refine Rch.go (fun t k => XS.aloadN X4.here hx rfl (hb hby d3_24) rfl rfl k) ?_
  show Aw p e below _ T4 m 25 #[rv x1, rv b1_0, iv 3, iv 0, rv x4] [(.ref x1), (.ref x7)]
  have f6 := (P7.keep K1)
  have f7 := (P11.keep K1 nin0)
  have f8 := (P13.keep K1 nin0)
  have f9 := (P15.keep K1 nin0)
  have z10 := (Nat.le_trans Z0 K1.1)
  obtain ⟨v11, T11, L11, X11, Q11, st11⟩ := callVi X4 hx hZ (m61_equals l Z a0 hw x7 x1 y8 x9 x10 kk11 kk12 y13 T1.heap n0 z10 o5 P6 f6 P8 P9 P10 f7 P12 f8 P14 f9 P16) e4 hown (wd_46 hw) (wd_47 hw) (wd_49 hw) (notFace_of_selects (args := #[]) (mvT hZ (wd_49 hw))) (wd_48 hw) (wd_50 hw) (wd_2 hw) (by decide) (hb hby d3_25) 0 (by decide) (by decide) (by decide) (by decide) (by rw [hml]; rfl) x7 (P5.ext o5.2) [(.ref x1)] [] rfl (lenOf pd_2 rfl) rfl (Nat.le_of_eq rfl) (Ls := #[rv x1, rv b1_0, iv 3, iv 0, rv x4])
  obtain ⟨rfl, M11, e11⟩ := Q11
  have N11 := Fr.app N1 M11
  refine Rch.go st11 ?_
  show Aw p e below _ T11 m 28 #[rv x1, rv b1_0, iv 3, iv 0, rv x4] [(.int 0)]
  refine Rch.go (fun t k => XS.ifYes X11.here hx rfl (pc0 := 28) (pc' := 34) rfl (hb hby d3_28) rfl (by decide) (by decide) (by decide) (XS.iinc X11.here hx rfl (hb hby d3_34) rfl (l' := #[rv x1, rv b1_0, iv 3, iv 1, rv x4]) rfl (XS.goto X11.here hx rfl (pc0 := 37) (pc' := 9) rfl (hb hby d3_37) (by decide) (by decide) (XS.iloadN X11.here hx rfl (hb hby d3_9) rfl  (XS.iloadN X11.here hx rfl (hb hby d3_10) rfl  (XS.icmpNo X11.here hx rfl (hb hby d3_11) rfl (by decide) (XS.aloadN X11.here hx rfl (hb hby d3_14) rfl rfl (XS.iloadN X11.here hx rfl (hb hby d3_15) rfl  k)))))))) ?_
  show Aw p e below _ T11 m 16 #[rv x1, rv b1_0, iv 3, iv 1, rv x4] [(.int 1), (.ref b1_0)]
  obtain ⟨c12, r12, q12, s12, u12, H12, G12⟩ := id F1_1
  refine Rch.go (fun t k => X11.aaload hx (j := (1 : Int32)) (v := (.ref x5)) (by rw [e11]; exact r12.1) (State.isArrayOf_alike hZ.alike r12.2.1) rfl r12.2.2 (inb_of s12 (by decide)) (H12.at (inb_of s12 (by decide)) rfl) (g := (mkF m 16 #[rv x1, rv b1_0, iv 3, iv 1, rv x4] [(.int 1), (.ref b1_0)])) rfl rfl (hb hby d3_16) t k) ?_
  show Aw p e below _ T11 m 17 #[rv x1, rv b1_0, iv 3, iv 1, rv x4] [(.ref x5)]
  refine Rch.go (fun t k => XS.astore X11.here hx rfl (hb hby d3_17) rfl rfl (l' := #[rv x1, rv b1_0, iv 3, iv 1, rv x5]) rfl (XS.aload X11.here hx rfl (hb hby d3_19) rfl rfl k)) ?_
  show Aw p e below _ T11 m 21 #[rv x1, rv b1_0, iv 3, iv 1, rv x5] [(.ref x5)]
  obtain ⟨T13, X13, e13, st13⟩ := getF X11 hx hZ hown (host := "") (Or.inl (wd_44 hw)) Via.refl e11 (P17.ext o5.2) (g := (mkF m 21 #[rv x1, rv b1_0, iv 3, iv 1, rv x5] [(.ref x5)])) rfl rfl (hb hby d3_21)
  refine Rch.go st13 ?_
  show Aw p e below _ T13 m 24 #[rv x1, rv b1_0, iv 3, iv 1, rv x5] [(.ref x14)]
  refine Rch.go (fun t k => XS.aloadN X13.here hx rfl (hb hby d3_24) rfl rfl k) ?_
  show Aw p e below _ T13 m 25 #[rv x1, rv b1_0, iv 3, iv 1, rv x5] [(.ref x1), (.ref x14)]
  obtain ⟨v14, T14, L14, X14, Q14, st14⟩ := callVi X13 hx hZ (m63_equals l Z a0 hw x14 x1 y8 x15 x10 kk16 kk12 y13 T1.heap n0 z10 o5 P19 f6 P8 P9 P20 f7 P21 f8 P22 f9 P16 P23) e13 hown (wd_46 hw) (wd_47 hw) (wd_49 hw) (notFace_of_selects (args := #[]) (mvT hZ (wd_49 hw))) (wd_48 hw) (wd_50 hw) (wd_2 hw) (by decide) (hb hby d3_25) 0 (by decide) (by decide) (by decide) (by decide) (by rw [hml]; rfl) x14 (P18.ext o5.2) [(.ref x1)] [] rfl (lenOf pd_2 rfl) rfl (Nat.le_of_eq rfl) (Ls := #[rv x1, rv b1_0, iv 3, iv 1, rv x5])
  obtain ⟨rfl, M14, e14⟩ := Q14
  have N14 := Fr.app N11 M14
  refine Rch.go st14 ?_
  show Aw p e below _ T14 m 28 #[rv x1, rv b1_0, iv 3, iv 1, rv x5] [(.int 0)]
  refine Rch.go (fun t k => XS.ifYes X14.here hx rfl (pc0 := 28) (pc' := 34) rfl (hb hby d3_28) rfl (by decide) (by decide) (by decide) (XS.iinc X14.here hx rfl (hb hby d3_34) rfl (l' := #[rv x1, rv b1_0, iv 3, iv 2, rv x5]) rfl (XS.goto X14.here hx rfl (pc0 := 37) (pc' := 9) rfl (hb hby d3_37) (by decide) (by decide) (XS.iloadN X14.here hx rfl (hb hby d3_9) rfl  (XS.iloadN X14.here hx rfl (hb hby d3_10) rfl  (XS.icmpNo X14.here hx rfl (hb hby d3_11) rfl (by decide) (XS.aloadN X14.here hx rfl (hb hby d3_14) rfl rfl (XS.iloadN X14.here hx rfl (hb hby d3_15) rfl  k)))))))) ?_
  show Aw p e below _ T14 m 16 #[rv x1, rv b1_0, iv 3, iv 2, rv x5] [(.int 2), (.ref b1_0)]
  obtain ⟨c15, r15, q15, s15, u15, H15, G15⟩ := id F1_1
  refine Rch.go (fun t k => X14.aaload hx (j := (2 : Int32)) (v := (.ref x6)) (by rw [e14]; exact r15.1) (State.isArrayOf_alike hZ.alike r15.2.1) rfl r15.2.2 (inb_of s15 (by decide)) (H15.at (inb_of s15 (by decide)) rfl) (g := (mkF m 16 #[rv x1, rv b1_0, iv 3, iv 2, rv x5] [(.int 2), (.ref b1_0)])) rfl rfl (hb hby d3_16) t k) ?_
  show Aw p e below _ T14 m 17 #[rv x1, rv b1_0, iv 3, iv 2, rv x5] [(.ref x6)]
  refine Rch.go (fun t k => XS.astore X14.here hx rfl (hb hby d3_17) rfl rfl (l' := #[rv x1, rv b1_0, iv 3, iv 2, rv x6]) rfl (XS.aload X14.here hx rfl (hb hby d3_19) rfl rfl k)) ?_
  show Aw p e below _ T14 m 21 #[rv x1, rv b1_0, iv 3, iv 2, rv x6] [(.ref x6)]
  obtain ⟨T16, X16, e16, st16⟩ := getF X14 hx hZ hown (host := "") (Or.inl (wd_44 hw)) Via.refl e14 (P24.ext o5.2) (g := (mkF m 21 #[rv x1, rv b1_0, iv 3, iv 2, rv x6] [(.ref x6)])) rfl rfl (hb hby d3_21)
  refine Rch.go st16 ?_
  show Aw p e below _ T16 m 24 #[rv x1, rv b1_0, iv 3, iv 2, rv x6] [(.ref x17)]
  refine Rch.go (fun t k => XS.aloadN X16.here hx rfl (hb hby d3_24) rfl rfl k) ?_
  show Aw p e below _ T16 m 25 #[rv x1, rv b1_0, iv 3, iv 2, rv x6] [(.ref x1), (.ref x17)]
  obtain ⟨v17, T17, L17, X17, Q17, st17⟩ := callVi X16 hx hZ (m65_equals l Z a0 hw x17 x1 y8 x18 x10 kk19 kk12 y13 T1.heap n0 z10 o5 P26 f6 P8 P9 P27 f7 P28 f8 P29 f9 P16 P23 P30) e16 hown (wd_46 hw) (wd_47 hw) (wd_49 hw) (notFace_of_selects (args := #[]) (mvT hZ (wd_49 hw))) (wd_48 hw) (wd_50 hw) (wd_2 hw) (by decide) (hb hby d3_25) 0 (by decide) (by decide) (by decide) (by decide) (by rw [hml]; rfl) x17 (P25.ext o5.2) [(.ref x1)] [] rfl (lenOf pd_2 rfl) rfl (Nat.le_of_eq rfl) (Ls := #[rv x1, rv b1_0, iv 3, iv 2, rv x6])
  obtain ⟨rfl, M17, e17⟩ := Q17
  have N17 := Fr.app N14 M17
  refine Rch.go st17 ?_
  show Aw p e below _ T17 m 28 #[rv x1, rv b1_0, iv 3, iv 2, rv x6] [(.int 0)]
  refine Rch.go (fun t k => XS.ifYes X17.here hx rfl (pc0 := 28) (pc' := 34) rfl (hb hby d3_28) rfl (by decide) (by decide) (by decide) (XS.iinc X17.here hx rfl (hb hby d3_34) rfl (l' := #[rv x1, rv b1_0, iv 3, iv 3, rv x6]) rfl (XS.goto X17.here hx rfl (pc0 := 37) (pc' := 9) rfl (hb hby d3_37) (by decide) (by decide) (XS.iloadN X17.here hx rfl (hb hby d3_9) rfl  (XS.iloadN X17.here hx rfl (hb hby d3_10) rfl  (XS.icmpYes X17.here hx rfl (pc0 := 11) (pc' := 40) rfl (hb hby d3_11) rfl (by decide) (by decide) (by decide) (XS.aconstNull X17.here hx rfl (hb hby d3_40) k))))))) ?_
  show Aw p e below _ T17 m 41 #[rv x1, rv b1_0, iv 3, iv 3, rv x6] [.null]
  refine Rch.val X17 hx (t := (.object s1')) hret hlk rfl (Or.inr (Or.inr (Or.inr (Or.inr ⟨rfl, rfl, rfl⟩)))) (hb hby d3_41) (by decide) (by decide) ?_
  try rw [e17]
  exact ⟨rfl, N17, ((Keep.refl _ _).trans K1 all0)⟩
theorem ef_m67_length (m : MethodId) (x1 : Addr) : entryFrame m #[(.ref x1)] 1 = mkF m 0 #[rv x1] [] := by first | rfl | (simp [entryFrame, mkF, argsToLocals, Value.category]; done)
theorem m67_length (l : Launch) (Z : State) (a0 : Array Value) (hw : HW Z a0) (x1 x2 : Addr) (kk3 : ClassId) (y4 y5 : Int32) (h0 : Heap) (n0 : Nat) (Z0 : n0 ≤ h0.size) (O0 : Old Z n0 h0) (P1 : Fld Z h0 x1 "java/lang/String" "value" "[B" (.ref x2)) (P2 : Arv Z h0 x2 kk3 .byte (1 : Int32) [(.int y4)] (.int 0)) (P3 : Exa Z h0 x1 "java/lang/String") (P4 : Sta Z Z.heap "java/lang/String" "COMPACT_STRINGS" "Z" (.int y5)) (P5 : ¬ (y5 = (0 : Int32))) (P6 : Fld Z h0 x1 "java/lang/String" "coder" "B" (.int 0)) :
    Ctr l Z [] (⟨"java/lang/String", "length", "()I"⟩ : MethodName) jdk_42_method_54_code 1 (some .int) #[(.ref x1)] h0 ({ frames := 1, cells := 0, slots := 0, locals := 13 } : Room) (fun v h L => v = some (.int 1) ∧ Fr n0 L ∧ h = h0) := by
  refine Ctr.of (plainFor_of_name pn_java_lang_String) (fun m => ef_m67_length m x1) ?_
  intro p e s m below meth c T0 hx hZ hby hml hown hnm hret hlk X0 e0
  have N0 := Fr.nil n0
  show Aw p e below _ T0 m 0 #[rv x1] []
  refine Rch.go (fun t k => XS.aloadN X0.here hx rfl (hb hby d7_0) rfl rfl k) ?_
  show Aw p e below _ T0 m 1 #[rv x1] [(.ref x1)]
  obtain ⟨T1, X1, e1, st1⟩ := getF X0 hx hZ hown (host := "") (Or.inl (wd_20 hw)) Via.refl e0 P1 (g := (mkF m 1 #[rv x1] [(.ref x1)])) rfl rfl (hb hby d7_1)
  refine Rch.go st1 ?_
  show Aw p e below _ T1 m 4 #[rv x1] [(.ref x2)]
  obtain ⟨c2, r2, q2, s2, u2, H2, G2⟩ := id P2
  refine Rch.go (fun t k => X1.arraylength hx (by rw [e1]; exact r2.1) (State.isArrayOf_alike hZ.alike r2.2.1) (g := (mkF m 4 #[rv x1] [(.ref x2)])) rfl rfl (hb hby d7_4) t (by rw [len_of s2 u2]; exact k)) ?_
  show Aw p e below _ T1 m 5 #[rv x1] [(.int 1)]
  refine Rch.go (fun t k => XS.aloadN X1.here hx rfl (hb hby d7_5) rfl rfl k) ?_
  show Aw p e below _ T1 m 6 #[rv x1] [(.ref x1), (.int 1)]
  obtain ⟨v3, T3, L3, X3, Q3, st3⟩ := callVi X1 hx hZ (m12_coder l Z a0 hw x1 y5 h0 n0 Z0 O0 P4 P5 P6) e1 hown (wd_62 hw) (wd_63 hw) (wd_65 hw) (notFace_of_selects (args := #[]) (mvT hZ (wd_65 hw))) (wd_64 hw) (wd_66 hw) (wd_2 hw) (by decide) (hb hby d7_6) 1 (by decide) (by decide) (by decide) (by decide) (by rw [hml]; rfl) x1 P3 [] [(.int 1)] rfl (lenOf pd_6 rfl) rfl (Nat.le_of_eq rfl) (Ls := #[rv x1])
  obtain ⟨rfl, M3, e3⟩ := Q3
  have N3 := Fr.app N0 M3
  refine Rch.go st3 ?_
  show Aw p e below _ T3 m 9 #[rv x1] [(.int 0), (.int 1)]
  refine Rch.go (fun t k => XS.ishr X3.here hx rfl (hb hby d7_9) rfl k) ?_
  show Aw p e below _ T3 m 10 #[rv x1] [(.int 1)]
  refine Rch.val X3 hx (t := .int) hret hlk rfl (mayI (by simp)) (hb hby d7_10) (by decide) (by decide) ?_
  try rw [e3]
  exact ⟨rfl, N3, rfl⟩
theorem ef_m69_charAt (m : MethodId) (x1 : Addr) : entryFrame m #[(.ref x1), (.int 0)] 2 = mkF m 0 #[rv x1, iv 0] [] := by first | rfl | (simp [entryFrame, mkF, argsToLocals, Value.category]; done)
theorem m69_charAt (l : Launch) (Z : State) (a0 : Array Value) (hw : HW Z a0) (x1 : Addr) (kk2 : ClassId) (y3 : Int32) (vv4 : Value) (h0 : Heap) (n0 : Nat) (Z0 : n0 ≤ h0.size) (O0 : Old Z n0 h0) (P1 : Arv Z h0 x1 kk2 .byte (1 : Int32) [(.int y3)] (.int 0)) (P2 : vv4.isRef = true) (P3 : Sta Z Z.heap s6' "SIOOBE_FORMATTER" "Ljava/util/function/BiFunction;" vv4) :
    Ctr l Z [] (⟨s2', "charAt", "([BI)C"⟩ : MethodName) jdk_43_method_2_code 2 (some .char) #[(.ref x1), (.int 0)] h0 ({ frames := 2, cells := 0, slots := 0, locals := 27 } : Room) (fun v h L => v = some (.int ((y3 &&& (255 : Int32)).toUInt32.toUInt16.toUInt32.toInt32)) ∧ Fr n0 L ∧ h = h0) := by
  refine Ctr.of (plainFor_of_name pn_java_lang_StringLatin1) (fun m => ef_m69_charAt m x1) ?_
  intro p e s m below meth c T0 hx hZ hby hml hown hnm hret hlk X0 e0
  have N0 := Fr.nil n0
  show Aw p e below _ T0 m 0 #[rv x1, iv 0] []
  refine Rch.go (fun t k => XS.iloadN X0.here hx rfl (hb hby d14_0) rfl  (XS.aloadN X0.here hx rfl (hb hby d14_1) rfl rfl k)) ?_
  show Aw p e below _ T0 m 2 #[rv x1, iv 0] [(.ref x1), (.int 0)]
  obtain ⟨c1, r1, q1, s1, u1, H1, G1⟩ := id P1
  refine Rch.go (fun t k => X0.arraylength hx (by rw [e0]; exact r1.1) (State.isArrayOf_alike hZ.alike r1.2.1) (g := (mkF m 2 #[rv x1, iv 0] [(.ref x1), (.int 0)])) rfl rfl (hb hby d14_2) t (by rw [len_of s1 u1]; exact k)) ?_
  show Aw p e below _ T0 m 3 #[rv x1, iv 0] [(.int 1), (.int 0)]
  obtain ⟨v2, T2, L2, X2, Q2, st2⟩ := callSt X0 hx hZ (m25_checkIndex l Z a0 hw vv4 h0 n0 Z0 O0 P2 P3) e0 hown (wd_94 hw) (wd_95 hw) (wd_96 hw) (wd_2 hw) (by decide) (hb hby d14_3) 0 (by decide) (by decide) (by decide) (by decide) (by rw [hml]; rfl) [(.int 0), (.int 1)] [] rfl (lenOf pd_14 rfl) rfl (Nat.le_of_eq rfl) (Ls := #[rv x1, iv 0])
  obtain ⟨rfl, M2, e2⟩ := Q2
  have N2 := Fr.app N0 M2
  refine Rch.go st2 ?_
  show Aw p e below _ T2 m 6 #[rv x1, iv 0] []
  refine Rch.go (fun t k => XS.aloadN X2.here hx rfl (hb hby d14_6) rfl rfl (XS.iloadN X2.here hx rfl (hb hby d14_7) rfl  k)) ?_
  show Aw p e below _ T2 m 8 #[rv x1, iv 0] [(.int 0), (.ref x1)]
  obtain ⟨c3, r3, q3, s3, u3, H3, G3⟩ := id P1
  refine Rch.go (fun t k => X2.baloadBytes hx (j := (0 : Int32)) (v := (.int y3)) (by rw [e2]; exact r3.1) (State.isArrayOf_alike hZ.alike r3.2.1) r3.2.2 (inb_of s3 (by decide)) (H3.at (inb_of s3 (by decide)) rfl) (g := (mkF m 8 #[rv x1, iv 0] [(.int 0), (.ref x1)])) rfl rfl (hb hby d14_8) t k) ?_
  show Aw p e below _ T2 m 9 #[rv x1, iv 0] [(.int y3)]
  refine Rch.go (fun t k => XS.sipush X2.here hx rfl (hb hby d14_9) (XS.iand X2.here hx rfl (hb hby d14_12) rfl (XS.i2c X2.here hx rfl (hb hby d14_13) rfl k))) ?_
  show Aw p e below _ T2 m 14 #[rv x1, iv 0] [(.int ((y3 &&& (255 : Int32)).toUInt32.toUInt16.toUInt32.toInt32))]
  refine Rch.val X2 hx (t := .char) hret hlk (own_ncc _) (mayI (by simp)) (hb hby d14_14) (by decide) (by decide) ?_
  try rw [e2]
  exact ⟨rfl, N2, rfl⟩
theorem ef_m68_charAt (m : MethodId) (x1 : Addr) : entryFrame m #[(.ref x1), (.int 0)] 2 = mkF m 0 #[rv x1, iv 0] [] := by first | rfl | (simp [entryFrame, mkF, argsToLocals, Value.category]; done)
theorem m68_charAt (l : Launch) (Z : State) (a0 : Array Value) (hw : HW Z a0) (x1 : Addr) (y2 : Int32) (x3 : Addr) (kk4 : ClassId) (y5 : Int32) (vv6 : Value) (h0 : Heap) (n0 : Nat) (Z0 : n0 ≤ h0.size) (O0 : Old Z n0 h0) (P1 : Exa Z h0 x1 "java/lang/String") (P2 : Sta Z Z.heap "java/lang/String" "COMPACT_STRINGS" "Z" (.int y2)) (P3 : ¬ (y2 = (0 : Int32))) (P4 : Fld Z h0 x1 "java/lang/String" "coder" "B" (.int 0)) (P5 : Fld Z h0 x1 "java/lang/String" "value" "[B" (.ref x3)) (P6 : Arv Z h0 x3 kk4 .byte (1 : Int32) [(.int y5)] (.int 0)) (P7 : vv6.isRef = true) (P8 : Sta Z Z.heap s6' "SIOOBE_FORMATTER" "Ljava/util/function/BiFunction;" vv6) :
    Ctr l Z [] (⟨"java/lang/String", "charAt", "(I)C"⟩ : MethodName) jdk_42_method_56_code 2 (some .char) #[(.ref x1), (.int 0)] h0 ({ frames := 3, cells := 0, slots := 0, locals := 40 } : Room) (fun v h L => v = some (.int ((y5 &&& (255 : Int32)).toUInt32.toUInt16.toUInt32.toInt32)) ∧ Fr n0 L ∧ h = h0) := by
  refine Ctr.of (plainFor_of_name pn_java_lang_String) (fun m => ef_m68_charAt m x1) ?_
  intro p e s m below meth c T0 hx hZ hby hml hown hnm hret hlk X0 e0
  have N0 := Fr.nil n0
  show Aw p e below _ T0 m 0 #[rv x1, iv 0] []
  refine Rch.go (fun t k => XS.aloadN X0.here hx rfl (hb hby d12_0) rfl rfl k) ?_
  show Aw p e below _ T0 m 1 #[rv x1, iv 0] [(.ref x1)]
  obtain ⟨v1, T1, L1, X1, Q1, st1⟩ := callVi X0 hx hZ (m23_isLatin1 l Z a0 hw x1 y2 h0 n0 Z0 O0 P2 P3 P4) e0 hown (wd_86 hw) (wd_87 hw) (wd_89 hw) (notFace_of_selects (args := #[]) (mvT hZ (wd_89 hw))) (wd_88 hw) (wd_90 hw) (wd_2 hw) (by decide) (hb hby d12_1) 0 (by decide) (by decide) (by decide) (by decide) (by rw [hml]; rfl) x1 P1 [] [] rfl (lenOf pd_12 rfl) rfl (Nat.le_of_eq rfl) (Ls := #[rv x1, iv 0])
  obtain ⟨rfl, M1, e1⟩ := Q1
  have N1 := Fr.app N0 M1
  refine Rch.go st1 ?_
  show Aw p e below _ T1 m 4 #[rv x1, iv 0] [(.int 1)]
  refine Rch.go (fun t k => XS.ifNo X1.here hx rfl (hb hby d12_4) rfl (by decide) (XS.aloadN X1.here hx rfl (hb hby d12_7) rfl rfl k)) ?_
  show Aw p e below _ T1 m 8 #[rv x1, iv 0] [(.ref x1)]
  obtain ⟨T2, X2, e2, st2⟩ := getF X1 hx hZ hown (host := "") (Or.inl (wd_20 hw)) Via.refl e1 P5 (g := (mkF m 8 #[rv x1, iv 0] [(.ref x1)])) rfl rfl (hb hby d12_8)
  refine Rch.go st2 ?_
  show Aw p e below _ T2 m 11 #[rv x1, iv 0] [(.ref x3)]
  refine Rch.go (fun t k => XS.iloadN X2.here hx rfl (hb hby d12_11) rfl  k) ?_
  show Aw p e below _ T2 m 12 #[rv x1, iv 0] [(.int 0), (.ref x3)]
  obtain ⟨v3, T3, L3, X3, Q3, st3⟩ := callSt X2 hx hZ (m69_charAt l Z a0 hw x3 kk4 y5 vv6 h0 n0 Z0 O0 P6 P7 P8) e2 hown (wd_91 hw) (wd_92 hw) (wd_93 hw) (wd_55 hw) (by decide) (hb hby d12_12) 0 (by decide) (by decide) (by decide) (by decide) (by rw [hml]; rfl) [(.ref x3), (.int 0)] [] rfl (lenOf pd_15 rfl) rfl (Nat.le_of_eq rfl) (Ls := #[rv x1, iv 0])
  obtain ⟨rfl, M3, e3⟩ := Q3
  have N3 := Fr.app N1 M3
  refine Rch.go st3 ?_
  show Aw p e below _ T3 m 15 #[rv x1, iv 0] [(.int ((y5 &&& (255 : Int32)).toUInt32.toUInt16.toUInt32.toInt32))]
  refine Rch.val X3 hx (t := .char) hret hlk (own_ncc _) (mayI (by simp)) (hb hby d12_15) (by decide) (by decide) ?_
  try rw [e3]
  exact ⟨rfl, N3, rfl⟩
theorem ef_m73_compress (m : MethodId) (x1 x2 : Addr) : entryFrame m #[(.ref x1), (.int 0), (.ref x2), (.int 0), (.int 2)] 7 = mkF m 0 #[rv x1, iv 0, rv x2, iv 0, iv 2, uu, uu] [] := by first | rfl | (simp [entryFrame, mkF, argsToLocals, Value.category]; done)
theorem m73_compress (l : Launch) (Z : State) (a0 : Array Value) (hw : HW Z a0) (x1 x2 : Addr) (kk3 : ClassId) (y4 y5 : Int32) (kk6 : ClassId) (h0 : Heap) (n0 : Nat) (Z0 : n0 ≤ h0.size) (O0 : Old Z n0 h0) (P1 : Arv Z h0 x1 kk3 .char (2 : Int32) [(.int y4), (.int y5)] (.int 0)) (P2 : ¬ ((255 : Int32) < y4)) (P3 : Arv Z h0 x2 kk6 .byte (2 : Int32) [(.int 0), (.int 0)] (.int 0)) (P4 : n0 ≤ x2) (P5 : x1 ≠ x2) (P6 : ¬ ((255 : Int32) < y5)) :
    Ctr l Z [] (⟨s4', "compress", "([CI[BII)I"⟩ : MethodName) jdk_52_method_21_code 7 (some .int) #[(.ref x1), (.int 0), (.ref x2), (.int 0), (.int 2)] h0 ({ frames := 0, cells := 0, slots := 0, locals := 0 } : Room) (fun v h L => v = some (.int 2) ∧ Fr n0 L ∧ Keep h0 h [x2] ∧ Arv Z h x2 kk6 .byte (2 : Int32) [(.int (nar .byte (y4.toInt8.toInt32))), (.int (nar .byte (y5.toInt8.toInt32)))] (.int 0)) := by
  refine Ctr.of (plainFor_of_name pn_java_lang_StringUTF16) (fun m => ef_m73_compress m x1 x2) ?_
  intro p e s m below meth c T0 hx hZ hby hml hown hnm hret hlk X0 e0
  have N0 := Fr.nil n0
  show Aw p e below _ T0 m 0 #[rv x1, iv 0, rv x2, iv 0, iv 2, uu, uu] []
  refine Rch.go (fun t k => XS.iconst X0.here hx rfl (hb hby d10_0) (XS.istore X0.here hx rfl (hb hby d10_1) rfl  (l' := #[rv x1, iv 0, rv x2, iv 0, iv 2, iv 0, uu]) rfl (XS.iload X0.here hx rfl (hb hby d10_3) rfl  (XS.iload X0.here hx rfl (hb hby d10_5) rfl  (XS.icmpNo X0.here hx rfl (hb hby d10_7) rfl (by decide) (XS.aloadN X0.here hx rfl (hb hby d10_10) rfl rfl (XS.iloadN X0.here hx rfl (hb hby d10_11) rfl  k))))))) ?_
  show Aw p e below _ T0 m 12 #[rv x1, iv 0, rv x2, iv 0, iv 2, iv 0, uu] [(.int 0), (.ref x1)]
  obtain ⟨c1, r1, q1, s1, u1, H1, G1⟩ := id P1
  refine Rch.go (fun t k => X0.caload hx (j := (0 : Int32)) (v := (.int y4)) (by rw [e0]; exact r1.1) (State.isArrayOf_alike hZ.alike r1.2.1) r1.2.2 (inb_of s1 (by decide)) (H1.at (inb_of s1 (by decide)) rfl) (g := (mkF m 12 #[rv x1, iv 0, rv x2, iv 0, iv 2, iv 0, uu] [(.int 0), (.ref x1)])) rfl rfl (hb hby d10_12) t k) ?_
  show Aw p e below _ T0 m 13 #[rv x1, iv 0, rv x2, iv 0, iv 2, iv 0, uu] [(.int y4)]
  refine Rch.go (fun t k => XS.istore X0.here hx rfl (hb hby d10_13) rfl  (l' := #[rv x1, iv 0, rv x2, iv 0, iv 2, iv 0, iv y4]) rfl (XS.iload X0.here hx rfl (hb hby d10_15) rfl  (XS.sipush X0.here hx rfl (hb hby d10_17) (XS.icmpYes X0.here hx rfl (pc0 := 20) (pc' := 26) rfl (hb hby d10_20) rfl (XT.ii_le_t P2) (by decide) (by decide) (XS.aloadN X0.here hx rfl (hb hby d10_26) rfl rfl (XS.iloadN X0.here hx rfl (hb hby d10_27) rfl  (XS.iload X0.here hx rfl (hb hby d10_28) rfl  (XS.i2b X0.here hx rfl (hb hby d10_30) rfl k)))))))) ?_
  show Aw p e below _ T0 m 31 #[rv x1, iv 0, rv x2, iv 0, iv 2, iv 0, iv y4] [(.int (y4.toInt8.toInt32)), (.int 0), (.ref x2)]
  obtain ⟨c2, r2, q2, s2, u2, H2, G2⟩ := id P3
  obtain ⟨T3, h3, X3, e3, W3, st3⟩ := stB X0 hx hZ e0 r2 (j := (0 : Int32)) (inb_of s2 (by decide)) (g := (mkF m 31 #[rv x1, iv 0, rv x2, iv 0, iv 2, iv 0, iv y4] [(.int (y4.toInt8.toInt32)), (.int 0), (.ref x2)])) rfl rfl (hb hby d10_31)
  refine Rch.go st3 ?_
  have V3 : Arv Z h3 x2 kk6 .byte (2 : Int32) [(.int (nar .byte (y4.toInt8.toInt32))), (.int 0)] (.int 0) := Arv.set r2 q2 s2 u2 H2 G2 (fits_nar_byte _) W3 0 rfl (Nat.le_of_ble_eq_true rfl)
  have N3 := Fr.snoc X3 N0 P4
  show Aw p e below _ T3 m 32 #[rv x1, iv 0, rv x2, iv 0, iv 2, iv 0, iv y4] []
  refine Rch.go (fun t k => XS.iinc X3.here hx rfl (hb hby d10_32) rfl (l' := #[rv x1, iv 1, rv x2, iv 0, iv 2, iv 0, iv y4]) rfl (XS.iinc X3.here hx rfl (hb hby d10_35) rfl (l' := #[rv x1, iv 1, rv x2, iv 1, iv 2, iv 0, iv y4]) rfl (XS.iinc X3.here hx rfl (hb hby d10_38) rfl (l' := #[rv x1, iv 1, rv x2, iv 1, iv 2, iv 1, iv y4]) rfl (XS.goto X3.here hx rfl (pc0 := 41) (pc' := 3) rfl (hb hby d10_41) (by decide) (by decide) (XS.iload X3.here hx rfl (hb hby d10_3) rfl  (XS.iload X3.here hx rfl (hb hby d10_5) rfl  (XS.icmpNo X3.here hx rfl (hb hby d10_7) rfl (by decide) (XS.aloadN X3.here hx rfl (hb hby d10_10) rfl rfl (XS.iloadN X3.here hx rfl (hb hby d10_11) rfl  k))))))))) ?_
  show Aw p e below _ T3 m 12 #[rv x1, iv 1, rv x2, iv 1, iv 2, iv 1, iv y4] [(.int 1), (.ref x1)]
  have f4 := (P1.other W3 P5)
  obtain ⟨c5, r5, q5, s5, u5, H5, G5⟩ := id f4
  refine Rch.go (fun t k => X3.caload hx (j := (1 : Int32)) (v := (.int y5)) (by rw [e3]; exact r5.1) (State.isArrayOf_alike hZ.alike r5.2.1) r5.2.2 (inb_of s5 (by decide)) (H5.at (inb_of s5 (by decide)) rfl) (g := (mkF m 12 #[rv x1, iv 1, rv x2, iv 1, iv 2, iv 1, iv y4] [(.int 1), (.ref x1)])) rfl rfl (hb hby d10_12) t k) ?_
  show Aw p e below _ T3 m 13 #[rv x1, iv 1, rv x2, iv 1, iv 2, iv 1, iv y4] [(.int y5)]
  refine Rch.go (fun t k => XS.istore X3.here hx rfl (hb hby d10_13) rfl  (l' := #[rv x1, iv 1, rv x2, iv 1, iv 2, iv 1, iv y5]) rfl (XS.iload X3.here hx rfl (hb hby d10_15) rfl  (XS.sipush X3.here hx rfl (hb hby d10_17) (XS.icmpYes X3.here hx rfl (pc0 := 20) (pc' := 26) rfl (hb hby d10_20) rfl (XT.ii_le_t P6) (by decide) (by decide) (XS.aloadN X3.here hx rfl (hb hby d10_26) rfl rfl (XS.iloadN X3.here hx rfl (hb hby d10_27) rfl  (XS.iload X3.here hx rfl (hb hby d10_28) rfl  (XS.i2b X3.here hx rfl (hb hby d10_30) rfl k)))))))) ?_
  show Aw p e below _ T3 m 31 #[rv x1, iv 1, rv x2, iv 1, iv 2, iv 1, iv y5] [(.int (y5.toInt8.toInt32)), (.int 1), (.ref x2)]
  obtain ⟨c6, r6, q6, s6, u6, H6, G6⟩ := id V3
  obtain ⟨T7, h7, X7, e7, W7, st7⟩ := stB X3 hx hZ e3 r6 (j := (1 : Int32)) (inb_of s6 (by decide)) (g := (mkF m 31 #[rv x1, iv 1, rv x2, iv 1, iv 2, iv 1, iv y5] [(.int (y5.toInt8.toInt32)), (.int 1), (.ref x2)])) rfl rfl (hb hby d10_31)
  refine Rch.go st7 ?_
  have V7 : Arv Z h7 x2 kk6 .byte (2 : Int32) [(.int (nar .byte (y4.toInt8.toInt32))), (.int (nar .byte (y5.toInt8.toInt32)))] (.int 0) := Arv.set r6 q6 s6 u6 H6 G6 (fits_nar_byte _) W7 1 rfl (Nat.le_of_ble_eq_true rfl)
  have N7 := Fr.snoc X7 N3 P4
  show Aw p e below _ T7 m 32 #[rv x1, iv 1, rv x2, iv 1, iv 2, iv 1, iv y5] []
  refine Rch.go (fun t k => XS.iinc X7.here hx rfl (hb hby d10_32) rfl (l' := #[rv x1, iv 2, rv x2, iv 1, iv 2, iv 1, iv y5]) rfl (XS.iinc X7.here hx rfl (hb hby d10_35) rfl (l' := #[rv x1, iv 2, rv x2, iv 2, iv 2, iv 1, iv y5]) rfl (XS.iinc X7.here hx rfl (hb hby d10_38) rfl (l' := #[rv x1, iv 2, rv x2, iv 2, iv 2, iv 2, iv y5]) rfl (XS.goto X7.here hx rfl (pc0 := 41) (pc' := 3) rfl (hb hby d10_41) (by decide) (by decide) (XS.iload X7.here hx rfl (hb hby d10_3) rfl  (XS.iload X7.here hx rfl (hb hby d10_5) rfl  (XS.icmpYes X7.here hx rfl (pc0 := 7) (pc' := 44) rfl (hb hby d10_7) rfl (by decide) (by decide) (by decide) (XS.iload X7.here hx rfl (hb hby d10_44) rfl  k)))))))) ?_
  show Aw p e below _ T7 m 46 #[rv x1, iv 2, rv x2, iv 2, iv 2, iv 2, iv y5] [(.int 2)]
  refine Rch.val X7 hx (t := .int) hret hlk rfl (mayI (by simp)) (hb hby d10_46) (by decide) (by decide) ?_
  try rw [e7]
  exact ⟨rfl, N7, (((Keep.refl _ _).wr W3 (Or.inl (List.mem_of_getElem? (i := 0) rfl))).wr W7 (Or.inl (List.mem_of_getElem? (i := 0) rfl))), V7⟩
theorem ef_m72_compress (m : MethodId) (x1 : Addr) : entryFrame m #[(.ref x1), (.int 0), (.int 2)] 6 = mkF m 0 #[rv x1, iv 0, iv 2, uu, uu, uu] [] := by first | rfl | (simp [entryFrame, mkF, argsToLocals, Value.category]; done)
theorem m72_compress (l : Launch) (Z : State) (a0 : Array Value) (hw : HW Z a0) (x1 : Addr) (kk2 : ClassId) (y3 y4 : Int32) (h0 : Heap) (n0 : Nat) (Z0 : n0 ≤ h0.size) (O0 : Old Z n0 h0) (P1 : Arv Z h0 x1 kk2 .char (2 : Int32) [(.int y3), (.int y4)] (.int 0)) (P2 : ¬ ((255 : Int32) < y3)) (P3 : ¬ ((255 : Int32) < y4)) :
    Ctr l Z [] (⟨s4', "compress", "([CII)[B"⟩ : MethodName) jdk_52_method_16_code 6 (some (.array .byte)) #[(.ref x1), (.int 0), (.int 2)] h0 ({ frames := 1, cells := 1, slots := 2, locals := 18 } : Room) (fun v h L => ∃ (b1 : Addr) (k1 : ClassId), v = some (.ref b1) ∧ Fr n0 L ∧ Keep h0 h [] ∧ h0.size ≤ b1 ∧ Exa Z h b1 "[B" ∧ Arv Z h b1 k1 .byte (2 : Int32) [(.int (nar .byte (y3.toInt8.toInt32))), (.int (nar .byte (y4.toInt8.toInt32)))] (.int 0)) := by
  refine Ctr.of (plainFor_of_name pn_java_lang_StringUTF16) (fun m => ef_m72_compress m x1) ?_
  intro p e s m below meth c T0 hx hZ hby hml hown hnm hret hlk X0 e0
  have N0 := Fr.nil n0
  show Aw p e below _ T0 m 0 #[rv x1, iv 0, iv 2, uu, uu, uu] []
  refine Rch.go (fun t k => XS.iloadN X0.here hx rfl (hb hby d9_0) rfl  k) ?_
  show Aw p e below _ T0 m 1 #[rv x1, iv 0, iv 2, uu, uu, uu] [(.int 2)]
  obtain ⟨T1, h1, k1, X1, e1, E1, A1, B1, st1⟩ := newPE (aty := .byte) X0 hx hZ (wd_15 hw) e0 (g := (mkF m 1 #[rv x1, iv 0, iv 2, uu, uu, uu] [(.int 2)])) rfl (hb hby d9_1) rfl (by decide) (cap := 2) (by decide) (by decide) (by decide) (by decide) (ad := "[B") (by decide +kernel)
  obtain ⟨b1, g1⟩ : ∃ z, z = h0.size := ⟨_, rfl⟩
  rw [← g1] at A1 B1 st1
  refine Rch.go st1 ?_
  have g_b1 : n0 ≤ b1 := Nat.le_trans Z0 (Nat.le_of_eq g1.symm)
  have V1 : Arv Z h1 b1 k1 .byte (2 : Int32) [(.int 0), (.int 0)] (.int 0) := (Arv.new A1 (by decide)).pad (pad_rep [] (.int 0) 2)
  show Aw p e below _ T1 m 3 #[rv x1, iv 0, iv 2, uu, uu, uu] [(.ref b1)]
  refine Rch.go (fun t k => XS.astoreN X1.here hx rfl (hb hby d9_3) rfl rfl (l' := #[rv x1, iv 0, iv 2, rv b1, uu, uu]) rfl (XS.aloadN X1.here hx rfl (hb hby d9_4) rfl rfl (XS.iloadN X1.here hx rfl (hb hby d9_5) rfl  (XS.aloadN X1.here hx rfl (hb hby d9_6) rfl rfl (XS.iconst X1.here hx rfl (hb hby d9_7) (XS.iloadN X1.here hx rfl (hb hby d9_8) rfl  k)))))) ?_
  show Aw p e below _ T1 m 9 #[rv x1, iv 0, iv 2, rv b1, uu, uu] [(.int 2), (.int 0), (.ref b1), (.int 0), (.ref x1)]
  have f2 := (P1.ext E1)
  have lt3 := P1.lt
  have ne4 : x1 ≠ b1 := Nat.ne_of_lt (Nat.lt_of_lt_of_le lt3 (Nat.le_of_eq g1.symm))
  have z5 := (Nat.le_trans Z0 E1.1)
  have o6 := (O0.ext E1)
  obtain ⟨v7, T7, L7, X7, Q7, st7⟩ := callSt X1 hx hZ (m73_compress l Z a0 hw x1 b1 kk2 y3 y4 k1 h1 n0 z5 o6 f2 P2 V1 g_b1 ne4 P3) e1 hown (wd_75 hw) (wd_76 hw) (wd_77 hw) (wd_73 hw) (by decide) (hb hby d9_9) 0 (by decide) (by decide) (by decide) (by decide) (by rw [hml]; rfl) [(.ref x1), (.int 0), (.ref b1), (.int 0), (.int 2)] [] rfl (lenOf pd_9 rfl) rfl (Nat.le_of_eq rfl) (Ls := #[rv x1, iv 0, iv 2, rv b1, uu, uu])
  obtain ⟨rfl, M7, K7, F7_0⟩ := Q7
  have N7 := Fr.app N0 M7
  refine Rch.go st7 ?_
  show Aw p e below _ T7 m 12 #[rv x1, iv 0, iv 2, rv b1, uu, uu] [(.int 2)]
  refine Rch.go (fun t k => XS.istore X7.here hx rfl (hb hby d9_12) rfl  (l' := #[rv x1, iv 0, iv 2, rv b1, iv 2, uu]) rfl (XS.iload X7.here hx rfl (hb hby d9_14) rfl  (XS.iloadN X7.here hx rfl (hb hby d9_16) rfl  (XS.icmpYes X7.here hx rfl (pc0 := 17) (pc' := 57) rfl (hb hby d9_17) rfl (by decide) (by decide) (by decide) (XS.aloadN X7.here hx rfl (hb hby d9_57) rfl rfl k))))) ?_
  show Aw p e below _ T7 m 58 #[rv x1, iv 0, iv 2, rv b1, iv 2, uu] [(.ref b1)]
  have f8 := (B1.keep K7)
  refine Rch.val X7 hx (t := (.array .byte)) hret hlk rfl (Or.inr (Or.inr (Or.inr (Or.inr ⟨rfl, rfl, rfl⟩)))) (hb hby d9_58) (by decide) (by decide) ?_
  exact ⟨b1, k1, rfl, N7, (((Keep.refl _ _).ext E1).trans K7 (allS (Or.inr (Nat.le_trans (Nat.le_refl _) (Nat.le_of_eq g1.symm))) all0)), (Nat.le_trans (Nat.le_refl _) (Nat.le_of_eq g1.symm)), f8, F7_0⟩
theorem ef_m74_coderFromArrayLen (m : MethodId) (x1 : Addr) : entryFrame m #[(.ref x1), (.int 2)] 2 = mkF m 0 #[rv x1, iv 2] [] := by first | rfl | (simp [entryFrame, mkF, argsToLocals, Value.category]; done)
theorem m74_coderFromArrayLen (l : Launch) (Z : State) (a0 : Array Value) (hw : HW Z a0) (x1 : Addr) (kk2 : ClassId) (y3 y4 : Int32) (h0 : Heap) (n0 : Nat) (Z0 : n0 ≤ h0.size) (O0 : Old Z n0 h0) (P1 : Arv Z h0 x1 kk2 .byte (2 : Int32) [(.int y3), (.int y4)] (.int 0)) :
    Ctr l Z [] (⟨s4', "coderFromArrayLen", "([BI)B"⟩ : MethodName) jdk_52_method_15_code 2 (some .byte) #[(.ref x1), (.int 2)] h0 ({ frames := 0, cells := 0, slots := 0, locals := 0 } : Room) (fun v h L => v = some (.int 0) ∧ Fr n0 L ∧ h = h0) := by
  refine Ctr.of (plainFor_of_name pn_java_lang_StringUTF16) (fun m => ef_m74_coderFromArrayLen m x1) ?_
  intro p e s m below meth c T0 hx hZ hby hml hown hnm hret hlk X0 e0
  have N0 := Fr.nil n0
  show Aw p e below _ T0 m 0 #[rv x1, iv 2] []
  refine Rch.go (fun t k => XS.iloadN X0.here hx rfl (hb hby d11_0) rfl  (XS.aloadN X0.here hx rfl (hb hby d11_1) rfl rfl k)) ?_
  show Aw p e below _ T0 m 2 #[rv x1, iv 2] [(.ref x1), (.int 2)]
  obtain ⟨c1, r1, q1, s1, u1, H1, G1⟩ := id P1
  refine Rch.go (fun t k => X0.arraylength hx (by rw [e0]; exact r1.1) (State.isArrayOf_alike hZ.alike r1.2.1) (g := (mkF m 2 #[rv x1, iv 2] [(.ref x1), (.int 2)])) rfl rfl (hb hby d11_2) t (by rw [len_of s1 u1]; exact k)) ?_
  show Aw p e below _ T0 m 3 #[rv x1, iv 2] [(.int 2), (.int 2)]
  refine Rch.go (fun t k => XS.isub X0.here hx rfl (hb hby d11_3) rfl (XS.bipush X0.here hx rfl (hb hby d11_4) (XS.iushr X0.here hx rfl (hb hby d11_6) rfl (XS.i2b X0.here hx rfl (hb hby d11_7) rfl k)))) ?_
  show Aw p e below _ T0 m 8 #[rv x1, iv 2] [(.int 0)]
  refine Rch.val X0 hx (t := .byte) hret hlk rfl (mayI (by simp)) (hb hby d11_8) (by decide) (by decide) ?_
  try rw [e0]
  exact ⟨rfl, N0, rfl⟩
theorem ef_m71_init (m : MethodId) (x1 x2 : Addr) : entryFrame m #[(.ref x1), (.ref x2), (.int 0), (.int 2), .null] 6 = mkF m 0 #[rv x1, rv x2, iv 0, iv 2, .val .null, uu] [] := by first | rfl | (simp [entryFrame, mkF, argsToLocals, Value.category]; done)
theorem m71_init (l : Launch) (Z : State) (a0 : Array Value) (hw : HW Z a0) (x1 x2 : Addr) (y3 : Int32) (kk4 : ClassId) (y5 y6 : Int32) (h0 : Heap) (n0 : Nat) (Z0 : n0 ≤ h0.size) (O0 : Old Z n0 h0) (P1 : Sta Z Z.heap "java/lang/String" "COMPACT_STRINGS" "Z" (.int y3)) (P2 : ¬ (y3 = (0 : Int32))) (P3 : Arv Z h0 x2 kk4 .char (2 : Int32) [(.int y5), (.int y6)] (.int 0)) (P4 : ¬ ((255 : Int32) < y5)) (P5 : ¬ ((255 : Int32) < y6)) (P6 : Exa Z h0 x1 "java/lang/String") (P7 : Fld Z h0 x1 "java/lang/String" "coder" "B" (.int 0)) (P8 : n0 ≤ x1) (P9 : Fld Z h0 x1 "java/lang/String" "value" "[B" .null) :
    Ctr l Z [] (⟨"java/lang/String", "<init>", "([CIILjava/lang/Void;)V"⟩ : MethodName) jdk_42_method_149_code 6 none #[(.ref x1), (.ref x2), (.int 0), (.int 2), .null] h0 ({ frames := 2, cells := 1, slots := 2, locals := 35 } : Room) (fun v h L => ∃ (b3_0 : Addr) (k3_0 : ClassId), v = none ∧ Fr n0 L ∧ Keep h0 h [x1] ∧ h0.size ≤ b3_0 ∧ Exa Z h b3_0 "[B" ∧ Arv Z h b3_0 k3_0 .byte (2 : Int32) [(.int (nar .byte (y5.toInt8.toInt32))), (.int (nar .byte (y6.toInt8.toInt32)))] (.int 0) ∧ Fld Z h x1 "java/lang/String" "coder" "B" (.int 0) ∧ Fld Z h x1 "java/lang/String" "value" "[B" (.ref b3_0)) := by
  refine Ctr.of (plainFor_of_name pn_java_lang_String) (fun m => ef_m71_init m x1 x2) ?_
  intro p e s m below meth c T0 hx hZ hby hml hown hnm hret hlk X0 e0
  have N0 := Fr.nil n0
  show Aw p e below _ T0 m 0 #[rv x1, rv x2, iv 0, iv 2, .val .null, uu] []
  refine Rch.go (fun t k => XS.aloadN X0.here hx rfl (hb hby d0_0) rfl rfl k) ?_
  show Aw p e below _ T0 m 1 #[rv x1, rv x2, iv 0, iv 2, .val .null, uu] [(.ref x1)]
  obtain ⟨T1, X1, e1, st1⟩ := initO X0 hx hZ hown (wd_11 hw) (wd_12 hw) (wd_13 hw) e0 (g := (mkF m 1 #[rv x1, rv x2, iv 0, iv 2, .val .null, uu] [(.ref x1)])) rfl (by rw [hml]; rfl) rfl (hb hby d0_1) (by decide) (W := 0) (by show 2 * 0 + _ ≤ _; exact Nat.le_of_eq rfl) (by decide)
  refine Rch.go st1 ?_
  show Aw p e below _ T1 m 4 #[rv x1, rv x2, iv 0, iv 2, .val .null, uu] []
  refine Rch.go (fun t k => XS.iloadN X1.here hx rfl (hb hby d0_4) rfl  (XS.ifYes X1.here hx rfl (pc0 := 5) (pc' := 27) rfl (hb hby d0_5) rfl (by decide) (by decide) (by decide) k)) ?_
  show Aw p e below _ T1 m 27 #[rv x1, rv x2, iv 0, iv 2, .val .null, uu] []
  obtain ⟨T2, X2, e2, st2⟩ := getS2 X1 hx hZ hown (host := "") (Or.inl (wd_52 hw)) Via.refl e1 (P1.ext O0.2) (g := (mkF m 27 #[rv x1, rv x2, iv 0, iv 2, .val .null, uu] [])) rfl (hb hby d0_27)
  refine Rch.go st2 ?_
  show Aw p e below _ T2 m 30 #[rv x1, rv x2, iv 0, iv 2, .val .null, uu] [(.int y3)]
  refine Rch.go (fun t k => XS.ifNo X2.here hx rfl (hb hby d0_30) rfl (XT.i0_eq_f P2) (XS.aloadN X2.here hx rfl (hb hby d0_33) rfl rfl (XS.iloadN X2.here hx rfl (hb hby d0_34) rfl  (XS.iloadN X2.here hx rfl (hb hby d0_35) rfl  k)))) ?_
  show Aw p e below _ T2 m 36 #[rv x1, rv x2, iv 0, iv 2, .val .null, uu] [(.int 2), (.int 0), (.ref x2)]
  obtain ⟨v3, T3, L3, X3, Q3, st3⟩ := callSt X2 hx hZ (m72_compress l Z a0 hw x2 kk4 y5 y6 h0 n0 Z0 O0 P3 P4 P5) e2 hown (wd_71 hw) (wd_72 hw) (wd_74 hw) (wd_73 hw) (by decide) (hb hby d0_36) 0 (by decide) (by decide) (by decide) (by decide) (by rw [hml]; rfl) [(.ref x2), (.int 0), (.int 2)] [] rfl (lenOf pd_10 rfl) rfl (Nat.le_of_eq rfl) (Ls := #[rv x1, rv x2, iv 0, iv 2, .val .null, uu])
  obtain ⟨b3_0, k3_0, rfl, M3, K3, zz3_0, F3_0, F3_1⟩ := Q3
  have N3 := Fr.app N0 M3
  refine Rch.go st3 ?_
  have g_b3_0 : n0 ≤ b3_0 := Nat.le_trans Z0 zz3_0
  show Aw p e below _ T3 m 39 #[rv x1, rv x2, iv 0, iv 2, .val .null, uu] [(.ref b3_0)]
  refine Rch.go (fun t k => XS.astore X3.here hx rfl (hb hby d0_39) rfl rfl (l' := #[rv x1, rv x2, iv 0, iv 2, .val .null, rv b3_0]) rfl (XS.aloadN X3.here hx rfl (hb hby d0_41) rfl rfl (XS.aload X3.here hx rfl (hb hby d0_42) rfl rfl (XS.iloadN X3.here hx rfl (hb hby d0_44) rfl  k)))) ?_
  show Aw p e below _ T3 m 45 #[rv x1, rv x2, iv 0, iv 2, .val .null, rv b3_0] [(.int 2), (.ref b3_0), (.ref x1)]
  have z4 := (Nat.le_trans Z0 K3.1)
  have o5 := (O0.keep K3 all0)
  obtain ⟨v6, T6, L6, X6, Q6, st6⟩ := callSt X3 hx hZ (m74_coderFromArrayLen l Z a0 hw b3_0 k3_0 (nar .byte (y5.toInt8.toInt32)) (nar .byte (y6.toInt8.toInt32)) T3.heap n0 z4 o5 F3_1) rfl hown (wd_78 hw) (wd_79 hw) (wd_80 hw) (wd_73 hw) (by decide) (hb hby d0_45) 1 (by decide) (by decide) (by decide) (by decide) (by rw [hml]; rfl) [(.ref b3_0), (.int 2)] [(.ref x1)] rfl (lenOf pd_11 rfl) rfl (Nat.le_of_eq rfl) (Ls := #[rv x1, rv x2, iv 0, iv 2, .val .null, rv b3_0])
  obtain ⟨rfl, M6, e6⟩ := Q6
  have N6 := Fr.app N3 M6
  refine Rch.go st6 ?_
  show Aw p e below _ T6 m 48 #[rv x1, rv x2, iv 0, iv 2, .val .null, rv b3_0] [(.int 0), (.ref x1)]
  have f8 := (P7.keep K3 nin0)
  have f9 := (P6.keep K3)
  obtain ⟨T7, h7, X7, e7, W7, st7⟩ := putFN X6 hx hZ hown (wd_21 hw) Via.refl e6 f8 f9 (Or.inr ⟨(wd_17 hw), rfl, hnm⟩) (wd_1 hw) (ty := .byte) (v' := (.int 0)) (by decide) rfl rfl (g := (mkF m 48 #[rv x1, rv x2, iv 0, iv 2, .val .null, rv b3_0] [(.int 0), (.ref x1)])) rfl rfl (hb hby d0_48)
  refine Rch.go st7 ?_
  have F7 := f8.same W7
  have N7 := Fr.snoc X7 N6 P8
  show Aw p e below _ T7 m 51 #[rv x1, rv x2, iv 0, iv 2, .val .null, rv b3_0] []
  refine Rch.go (fun t k => XS.aloadN X7.here hx rfl (hb hby d0_51) rfl rfl (XS.aload X7.here hx rfl (hb hby d0_52) rfl rfl k)) ?_
  show Aw p e below _ T7 m 54 #[rv x1, rv x2, iv 0, iv 2, .val .null, rv b3_0] [(.ref b3_0), (.ref x1)]
  have f11 := ((P9.keep K3 nin0).other W7 (Or.inr (slot_ne (Or.inr (wd_16 hw)) (Or.inr (wd_17 hw)) (by decide) (t := (.array .byte)) (t' := .byte) (by decide) (by decide))))
  have f12 := (f9.wr W7)
  obtain ⟨T10, h10, X10, e10, W10, st10⟩ := putF X7 hx hZ hown (host := "") (Or.inl (wd_20 hw)) Via.refl e7 f11 f12 (Or.inr ⟨(wd_16 hw), rfl, hnm⟩) (wd_1 hw) (ty := (.array .byte)) (by decide) rfl rfl (g := (mkF m 54 #[rv x1, rv x2, iv 0, iv 2, .val .null, rv b3_0] [(.ref b3_0), (.ref x1)])) rfl rfl (hb hby d0_54)
  refine Rch.go st10 ?_
  have F10 := f11.same W10
  have N10 := Fr.snoc X10 N7 P8
  show Aw p e below _ T10 m 57 #[rv x1, rv x2, iv 0, iv 2, .val .null, rv b3_0] []
  have f13 := ((F3_0.wr W7).wr W10)
  have lt14 := P6.lt
  have ne15 : x1 ≠ b3_0 := Nat.ne_of_lt (Nat.lt_of_lt_of_le lt14 zz3_0)
  have f16 := ((F3_1.other W7 (Ne.symm ne15)).other W10 (Ne.symm ne15))
  have f17 := (F7.other W10 (Or.inr (slot_ne (Or.inr (wd_17 hw)) (Or.inr (wd_16 hw)) (by decide) (t := .byte) (t' := (.array .byte)) (by decide) (by decide))))
  refine Rch.void X10 hx hret hlk (hb hby d0_57) (by decide) (by decide) ?_
  try rw [e10]
  exact ⟨b3_0, k3_0, rfl, N10, ((((Keep.refl _ _).trans K3 all0).wr W7 (Or.inl (List.mem_of_getElem? (i := 0) rfl))).wr W10 (Or.inl (List.mem_of_getElem? (i := 0) rfl))), (Nat.le_trans (Nat.le_refl _) zz3_0), f13, f16, f17, F10⟩
theorem ef_m70_init (m : MethodId) (x1 x2 : Addr) : entryFrame m #[(.ref x1), (.ref x2)] 2 = mkF m 0 #[rv x1, rv x2] [] := by first | rfl | (simp [entryFrame, mkF, argsToLocals, Value.category]; done)
theorem m70_init (l : Launch) (Z : State) (a0 : Array Value) (hw : HW Z a0) (x1 x2 : Addr) (kk3 : ClassId) (y4 y5 y6 : Int32) (h0 : Heap) (n0 : Nat) (Z0 : n0 ≤ h0.size) (O0 : Old Z n0 h0) (P1 : Arv Z h0 x2 kk3 .char (2 : Int32) [(.int y4), (.int y5)] (.int 0)) (P2 : Sta Z Z.heap "java/lang/String" "COMPACT_STRINGS" "Z" (.int y6)) (P3 : ¬ (y6 = (0 : Int32))) (P4 : ¬ ((255 : Int32) < y4)) (P5 : ¬ ((255 : Int32) < y5)) (P6 : Exa Z h0 x1 "java/lang/String") (P7 : Fld Z h0 x1 "java/lang/String" "coder" "B" (.int 0)) (P8 : n0 ≤ x1) (P9 : Fld Z h0 x1 "java/lang/String" "value" "[B" .null) :
    Ctr l Z [] (⟨"java/lang/String", "<init>", "([C)V"⟩ : MethodName) jdk_42_method_3_code 2 none #[(.ref x1), (.ref x2)] h0 ({ frames := 3, cells := 1, slots := 2, locals := 52 } : Room) (fun v h L => ∃ (b2_0 : Addr) (k2_0 : ClassId), v = none ∧ Fr n0 L ∧ Keep h0 h [x1] ∧ h0.size ≤ b2_0 ∧ Exa Z h b2_0 "[B" ∧ Arv Z h b2_0 k2_0 .byte (2 : Int32) [(.int (nar .byte (y4.toInt8.toInt32))), (.int (nar .byte (y5.toInt8.toInt32)))] (.int 0) ∧ Fld Z h x1 "java/lang/String" "coder" "B" (.int 0) ∧ Fld Z h x1 "java/lang/String" "value" "[B" (.ref b2_0)) := by
  refine Ctr.of (plainFor_of_name pn_java_lang_String) (fun m => ef_m70_init m x1 x2) ?_
  intro p e s m below meth c T0 hx hZ hby hml hown hnm hret hlk X0 e0
  have N0 := Fr.nil n0
  show Aw p e below _ T0 m 0 #[rv x1, rv x2] []
  refine Rch.go (fun t k => XS.aloadN X0.here hx rfl (hb hby d1_0) rfl rfl (XS.aloadN X0.here hx rfl (hb hby d1_1) rfl rfl (XS.iconst X0.here hx rfl (hb hby d1_2) (XS.aloadN X0.here hx rfl (hb hby d1_3) rfl rfl k)))) ?_
  show Aw p e below _ T0 m 4 #[rv x1, rv x2] [(.ref x2), (.int 0), (.ref x2), (.ref x1)]
  obtain ⟨c1, r1, q1, s1, u1, H1, G1⟩ := id P1
  refine Rch.go (fun t k => X0.arraylength hx (by rw [e0]; exact r1.1) (State.isArrayOf_alike hZ.alike r1.2.1) (g := (mkF m 4 #[rv x1, rv x2] [(.ref x2), (.int 0), (.ref x2), (.ref x1)])) rfl rfl (hb hby d1_4) t (by rw [len_of s1 u1]; exact k)) ?_
  show Aw p e below _ T0 m 5 #[rv x1, rv x2] [(.int 2), (.int 0), (.ref x2), (.ref x1)]
  refine Rch.go (fun t k => XS.aconstNull X0.here hx rfl (hb hby d1_5) k) ?_
  show Aw p e below _ T0 m 6 #[rv x1, rv x2] [.null, (.int 2), (.int 0), (.ref x2), (.ref x1)]
  obtain ⟨v2, T2, L2, X2, Q2, st2⟩ := callSp X0 hx hZ (m71_init l Z a0 hw x1 x2 y6 kk3 y4 y5 h0 n0 Z0 O0 P2 P3 P1 P4 P5 P6 P7 P8 P9) e0 hown rfl (wd_7 hw) (wd_8 hw) (wd_10 hw) (wd_2 hw) (by decide) (hb hby d1_6) 0 (by decide) (by decide) (by decide) (by decide) (by rw [hml]; rfl) x1 [(.ref x2), (.int 0), (.int 2), .null] [] rfl (lenOf pd_0 rfl) rfl (Nat.le_of_eq rfl) (Ls := #[rv x1, rv x2])
  obtain ⟨b2_0, k2_0, rfl, M2, K2, zz2_0, F2_0, F2_1, F2_2, F2_3⟩ := Q2
  have N2 := Fr.app N0 M2
  refine Rch.go st2 ?_
  have g_b2_0 : n0 ≤ b2_0 := Nat.le_trans Z0 zz2_0
  show Aw p e below _ T2 m 9 #[rv x1, rv x2] []
  refine Rch.void X2 hx hret hlk (hb hby d1_9) (by decide) (by decide) ?_
  exact ⟨b2_0, k2_0, rfl, N2, ((Keep.refl _ _).trans K2 (allS (Or.inl (List.mem_of_getElem? (i := 0) rfl)) all0)), (Nat.le_trans (Nat.le_refl _) zz2_0), F2_0, F2_1, F2_2, F2_3⟩
theorem ef_m77_equals (m : MethodId) (x1 x2 : Addr) : entryFrame m #[(.ref x1), (.ref x2)] 3 = mkF m 0 #[rv x1, rv x2, uu] [] := by first | rfl | (simp [entryFrame, mkF, argsToLocals, Value.category]; done)
theorem m77_equals (l : Launch) (Z : State) (a0 : Array Value) (hw : HW Z a0) (x1 x2 : Addr) (kk3 kk4 : ClassId) (y5 y6 : Int32) (h0 : Heap) (n0 : Nat) (Z0 : n0 ≤ h0.size) (O0 : Old Z n0 h0) (P1 : Arv Z Z.heap x1 kk3 .byte (1 : Int32) [(.int 69)] (.int 0)) (P2 : Arv Z h0 x2 kk4 .byte (2 : Int32) [(.int y5), (.int y6)] (.int 0)) :
    Ctr l Z [] (⟨s2', "equals", "([B[B)Z"⟩ : MethodName) jdk_43_method_13_code 3 (some .boolean) #[(.ref x1), (.ref x2)] h0 ({ frames := 0, cells := 0, slots := 0, locals := 0 } : Room) (fun v h L => v = some (.int 0) ∧ Fr n0 L ∧ h = h0) := by
  refine Ctr.of (plainFor_of_name pn_java_lang_StringLatin1) (fun m => ef_m77_equals m x1 x2) ?_
  intro p e s m below meth c T0 hx hZ hby hml hown hnm hret hlk X0 e0
  have N0 := Fr.nil n0
  show Aw p e below _ T0 m 0 #[rv x1, rv x2, uu] []
  refine Rch.go (fun t k => XS.aloadN X0.here hx rfl (hb hby d6_0) rfl rfl k) ?_
  show Aw p e below _ T0 m 1 #[rv x1, rv x2, uu] [(.ref x1)]
  obtain ⟨c1, r1, q1, s1, u1, H1, G1⟩ := id (P1.ext O0.2)
  refine Rch.go (fun t k => X0.arraylength hx (by rw [e0]; exact r1.1) (State.isArrayOf_alike hZ.alike r1.2.1) (g := (mkF m 1 #[rv x1, rv x2, uu] [(.ref x1)])) rfl rfl (hb hby d6_1) t (by rw [len_of s1 u1]; exact k)) ?_
  show Aw p e below _ T0 m 2 #[rv x1, rv x2, uu] [(.int 1)]
  refine Rch.go (fun t k => XS.aloadN X0.here hx rfl (hb hby d6_2) rfl rfl k) ?_
  show Aw p e below _ T0 m 3 #[rv x1, rv x2, uu] [(.ref x2), (.int 1)]
  obtain ⟨c2, r2, q2, s2, u2, H2, G2⟩ := id P2
  refine Rch.go (fun t k => X0.arraylength hx (by rw [e0]; exact r2.1) (State.isArrayOf_alike hZ.alike r2.2.1) (g := (mkF m 3 #[rv x1, rv x2, uu] [(.ref x2), (.int 1)])) rfl rfl (hb hby d6_3) t (by rw [len_of s2 u2]; exact k)) ?_
  show Aw p e below _ T0 m 4 #[rv x1, rv x2, uu] [(.int 2), (.int 1)]
  refine Rch.go (fun t k => XS.icmpYes X0.here hx rfl (pc0 := 4) (pc' := 34) rfl (hb hby d6_4) rfl (by decide) (by decide) (by decide) (XS.iconst X0.here hx rfl (hb hby d6_34) k)) ?_
  show Aw p e below _ T0 m 35 #[rv x1, rv x2, uu] [(.int 0)]
  refine Rch.val X0 hx (t := .boolean) hret hlk rfl (mayI (by simp)) (hb hby d6_35) (by decide) (by decide) ?_
  try rw [e0]
  exact ⟨rfl, N0, rfl⟩
theorem ef_m76_equals (m : MethodId) (x1 x2 : Addr) : entryFrame m #[(.ref x1), (.ref x2)] 3 = mkF m 0 #[rv x1, rv x2, uu] [] := by first | rfl | (simp [entryFrame, mkF, argsToLocals, Value.category]; done)
theorem m76_equals (l : Launch) (Z : State) (a0 : Array Value) (hw : HW Z a0) (x1 x2 : Addr) (y3 : Int32) (x4 x5 : Addr) (kk6 kk7 : ClassId) (y8 y9 : Int32) (h0 : Heap) (n0 : Nat) (Z0 : n0 ≤ h0.size) (O0 : Old Z n0 h0) (P1 : x1 ≠ x2) (P2 : Exa Z h0 x2 "java/lang/String") (P3 : Sta Z Z.heap "java/lang/String" "COMPACT_STRINGS" "Z" (.int y3)) (P4 : ¬ (y3 = (0 : Int32))) (P5 : Fld Z Z.heap x1 "java/lang/String" "coder" "B" (.int 0)) (P6 : Fld Z h0 x2 "java/lang/String" "coder" "B" (.int 0)) (P7 : Fld Z Z.heap x1 "java/lang/String" "value" "[B" (.ref x4)) (P8 : Fld Z h0 x2 "java/lang/String" "value" "[B" (.ref x5)) (P9 : Arv Z Z.heap x4 kk6 .byte (1 : Int32) [(.int 69)] (.int 0)) (P10 : Arv Z h0 x5 kk7 .byte (2 : Int32) [(.int y8), (.int y9)] (.int 0)) :
    Ctr l Z [] (⟨"java/lang/String", "equals", s5'⟩ : MethodName) jdk_42_method_66_code 3 (some .boolean) #[(.ref x1), (.ref x2)] h0 ({ frames := 1, cells := 0, slots := 0, locals := 14 } : Room) (fun v h L => v = some (.int 0) ∧ Fr n0 L ∧ h = h0) := by
  refine Ctr.of (plainFor_of_name pn_java_lang_String) (fun m => ef_m76_equals m x1 x2) ?_
  intro p e s m below meth c T0 hx hZ hby hml hown hnm hret hlk X0 e0
  have N0 := Fr.nil n0
  show Aw p e below _ T0 m 0 #[rv x1, rv x2, uu] []
  refine Rch.go (fun t k => XS.aloadN X0.here hx rfl (hb hby d5_0) rfl rfl (XS.aloadN X0.here hx rfl (hb hby d5_1) rfl rfl (acmp X0 hx rfl (x := (.ref x1)) (y := (.ref x2)) rfl rfl (pc0 := 2) (pc' := 7) (same := false) rfl (hb hby d5_2) rfl (decide_eq_false (fun q => absurd (Value.ref.inj q) P1)) (by decide) (by decide) (XS.aloadN X0.here hx rfl (hb hby d5_7) rfl rfl k)))) ?_
  show Aw p e below _ T0 m 8 #[rv x1, rv x2, uu] [(.ref x2)]
  obtain ⟨T1, X1, e1, st1⟩ := instY X0 hx hZ hown (wd_51 hw) e0 (Ins.self P2) (g := (mkF m 8 #[rv x1, rv x2, uu] [(.ref x2)])) rfl rfl (hb hby d5_8)
  refine Rch.go st1 ?_
  show Aw p e below _ T1 m 11 #[rv x1, rv x2, uu] [(.int 1)]
  refine Rch.go (fun t k => XS.ifNo X1.here hx rfl (hb hby d5_11) rfl (by decide) (XS.aloadN X1.here hx rfl (hb hby d5_14) rfl rfl k)) ?_
  show Aw p e below _ T1 m 15 #[rv x1, rv x2, uu] [(.ref x2)]
  obtain ⟨T2, X2, e2, st2⟩ := castY X1 hx hZ hown (wd_51 hw) e1 (Ins.self P2) (g := (mkF m 15 #[rv x1, rv x2, uu] [(.ref x2)])) rfl rfl (hb hby d5_15)
  refine Rch.go st2 ?_
  show Aw p e below _ T2 m 18 #[rv x1, rv x2, uu] [(.ref x2)]
  refine Rch.go (fun t k => XS.astoreN X2.here hx rfl (hb hby d5_18) rfl rfl (l' := #[rv x1, rv x2, rv x2]) rfl k) ?_
  show Aw p e below _ T2 m 19 #[rv x1, rv x2, rv x2] []
  obtain ⟨T3, X3, e3, st3⟩ := getS2 X2 hx hZ hown (host := "") (Or.inl (wd_52 hw)) Via.refl e2 (P3.ext O0.2) (g := (mkF m 19 #[rv x1, rv x2, rv x2] [])) rfl (hb hby d5_19)
  refine Rch.go st3 ?_
  show Aw p e below _ T3 m 22 #[rv x1, rv x2, rv x2] [(.int y3)]
  refine Rch.go (fun t k => XS.ifNo X3.here hx rfl (hb hby d5_22) rfl (XT.i0_eq_f P4) (XS.aloadN X3.here hx rfl (hb hby d5_25) rfl rfl k)) ?_
  show Aw p e below _ T3 m 26 #[rv x1, rv x2, rv x2] [(.ref x1)]
  obtain ⟨T4, X4, e4, st4⟩ := getF X3 hx hZ hown (host := "") (Or.inl (wd_21 hw)) Via.refl e3 (P5.ext O0.2) (g := (mkF m 26 #[rv x1, rv x2, rv x2] [(.ref x1)])) rfl rfl (hb hby d5_26)
  refine Rch.go st4 ?_
  show Aw p e below _ T4 m 29 #[rv x1, rv x2, rv x2] [(.int 0)]
  refine Rch.go (fun t k => XS.aloadN X4.here hx rfl (hb hby d5_29) rfl rfl k) ?_
  show Aw p e below _ T4 m 30 #[rv x1, rv x2, rv x2] [(.ref x2), (.int 0)]
  obtain ⟨T5, X5, e5, st5⟩ := getF X4 hx hZ hown (host := "") (Or.inl (wd_21 hw)) Via.refl e4 P6 (g := (mkF m 30 #[rv x1, rv x2, rv x2] [(.ref x2), (.int 0)])) rfl rfl (hb hby d5_30)
  refine Rch.go st5 ?_
  show Aw p e below _ T5 m 33 #[rv x1, rv x2, rv x2] [(.int 0), (.int 0)]
  refine Rch.go (fun t k => XS.icmpNo X5.here hx rfl (hb hby d5_33) rfl (by decide) (XS.aloadN X5.here hx rfl (hb hby d5_36) rfl rfl k)) ?_
  show Aw p e below _ T5 m 37 #[rv x1, rv x2, rv x2] [(.ref x1)]
  obtain ⟨T6, X6, e6, st6⟩ := getF X5 hx hZ hown (host := "") (Or.inl (wd_20 hw)) Via.refl e5 (P7.ext O0.2) (g := (mkF m 37 #[rv x1, rv x2, rv x2] [(.ref x1)])) rfl rfl (hb hby d5_37)
  refine Rch.go st6 ?_
  show Aw p e below _ T6 m 40 #[rv x1, rv x2, rv x2] [(.ref x4)]
  refine Rch.go (fun t k => XS.aloadN X6.here hx rfl (hb hby d5_40) rfl rfl k) ?_
  show Aw p e below _ T6 m 41 #[rv x1, rv x2, rv x2] [(.ref x2), (.ref x4)]
  obtain ⟨T7, X7, e7, st7⟩ := getF X6 hx hZ hown (host := "") (Or.inl (wd_20 hw)) Via.refl e6 P8 (g := (mkF m 41 #[rv x1, rv x2, rv x2] [(.ref x2), (.ref x4)])) rfl rfl (hb hby d5_41)
  refine Rch.go st7 ?_
  show Aw p e below _ T7 m 44 #[rv x1, rv x2, rv x2] [(.ref x5), (.ref x4)]
  obtain ⟨v8, T8, L8, X8, Q8, st8⟩ := callSt X7 hx hZ (m77_equals l Z a0 hw x4 x5 kk6 kk7 y8 y9 h0 n0 Z0 O0 P9 P10) e7 hown (wd_53 hw) (wd_54 hw) (wd_56 hw) (wd_55 hw) (by decide) (hb hby d5_44) 0 (by decide) (by decide) (by decide) (by decide) (by rw [hml]; rfl) [(.ref x4), (.ref x5)] [] rfl (lenOf pd_5 rfl) rfl (Nat.le_of_eq rfl) (Ls := #[rv x1, rv x2, rv x2])
  obtain ⟨rfl, M8, e8⟩ := Q8
  have N8 := Fr.app N0 M8
  refine Rch.go st8 ?_
  show Aw p e below _ T8 m 47 #[rv x1, rv x2, rv x2] [(.int 0)]
  refine Rch.go (fun t k => XS.ifYes X8.here hx rfl (pc0 := 47) (pc' := 54) rfl (hb hby d5_47) rfl (by decide) (by decide) (by decide) (XS.iconst X8.here hx rfl (hb hby d5_54) k)) ?_
  show Aw p e below _ T8 m 55 #[rv x1, rv x2, rv x2] [(.int 0)]
  refine Rch.val X8 hx (t := .boolean) hret hlk rfl (mayI (by simp)) (hb hby d5_55) (by decide) (by decide) ?_
  try rw [e8]
  exact ⟨rfl, N8, rfl⟩
theorem ef_m79_equals (m : MethodId) (x1 x2 : Addr) : entryFrame m #[(.ref x1), (.ref x2)] 3 = mkF m 0 #[rv x1, rv x2, uu] [] := by first | rfl | (simp [entryFrame, mkF, argsToLocals, Value.category]; done)
theorem m79_equals (l : Launch) (Z : State) (a0 : Array Value) (hw : HW Z a0) (x1 x2 : Addr) (kk3 kk4 : ClassId) (y5 y6 : Int32) (h0 : Heap) (n0 : Nat) (Z0 : n0 ≤ h0.size) (O0 : Old Z n0 h0) (P1 : Arv Z Z.heap x1 kk3 .byte (1 : Int32) [(.int 101)] (.int 0)) (P2 : Arv Z h0 x2 kk4 .byte (2 : Int32) [(.int y5), (.int y6)] (.int 0)) :
    Ctr l Z [] (⟨s2', "equals", "([B[B)Z"⟩ : MethodName) jdk_43_method_13_code 3 (some .boolean) #[(.ref x1), (.ref x2)] h0 ({ frames := 0, cells := 0, slots := 0, locals := 0 } : Room) (fun v h L => v = some (.int 0) ∧ Fr n0 L ∧ h = h0) := by
  refine Ctr.of (plainFor_of_name pn_java_lang_StringLatin1) (fun m => ef_m79_equals m x1 x2) ?_
  intro p e s m below meth c T0 hx hZ hby hml hown hnm hret hlk X0 e0
  have N0 := Fr.nil n0
  show Aw p e below _ T0 m 0 #[rv x1, rv x2, uu] []
  refine Rch.go (fun t k => XS.aloadN X0.here hx rfl (hb hby d6_0) rfl rfl k) ?_
  show Aw p e below _ T0 m 1 #[rv x1, rv x2, uu] [(.ref x1)]
  obtain ⟨c1, r1, q1, s1, u1, H1, G1⟩ := id (P1.ext O0.2)
  refine Rch.go (fun t k => X0.arraylength hx (by rw [e0]; exact r1.1) (State.isArrayOf_alike hZ.alike r1.2.1) (g := (mkF m 1 #[rv x1, rv x2, uu] [(.ref x1)])) rfl rfl (hb hby d6_1) t (by rw [len_of s1 u1]; exact k)) ?_
  show Aw p e below _ T0 m 2 #[rv x1, rv x2, uu] [(.int 1)]
  refine Rch.go (fun t k => XS.aloadN X0.here hx rfl (hb hby d6_2) rfl rfl k) ?_
  show Aw p e below _ T0 m 3 #[rv x1, rv x2, uu] [(.ref x2), (.int 1)]
  obtain ⟨c2, r2, q2, s2, u2, H2, G2⟩ := id P2
  refine Rch.go (fun t k => X0.arraylength hx (by rw [e0]; exact r2.1) (State.isArrayOf_alike hZ.alike r2.2.1) (g := (mkF m 3 #[rv x1, rv x2, uu] [(.ref x2), (.int 1)])) rfl rfl (hb hby d6_3) t (by rw [len_of s2 u2]; exact k)) ?_
  show Aw p e below _ T0 m 4 #[rv x1, rv x2, uu] [(.int 2), (.int 1)]
  refine Rch.go (fun t k => XS.icmpYes X0.here hx rfl (pc0 := 4) (pc' := 34) rfl (hb hby d6_4) rfl (by decide) (by decide) (by decide) (XS.iconst X0.here hx rfl (hb hby d6_34) k)) ?_
  show Aw p e below _ T0 m 35 #[rv x1, rv x2, uu] [(.int 0)]
  refine Rch.val X0 hx (t := .boolean) hret hlk rfl (mayI (by simp)) (hb hby d6_35) (by decide) (by decide) ?_
  try rw [e0]
  exact ⟨rfl, N0, rfl⟩
theorem ef_m78_equals (m : MethodId) (x1 x2 : Addr) : entryFrame m #[(.ref x1), (.ref x2)] 3 = mkF m 0 #[rv x1, rv x2, uu] [] := by first | rfl | (simp [entryFrame, mkF, argsToLocals, Value.category]; done)
theorem m78_equals (l : Launch) (Z : State) (a0 : Array Value) (hw : HW Z a0) (x1 x2 : Addr) (y3 : Int32) (x4 x5 : Addr) (kk6 kk7 : ClassId) (y8 y9 : Int32) (h0 : Heap) (n0 : Nat) (Z0 : n0 ≤ h0.size) (O0 : Old Z n0 h0) (P1 : x1 ≠ x2) (P2 : Exa Z h0 x2 "java/lang/String") (P3 : Sta Z Z.heap "java/lang/String" "COMPACT_STRINGS" "Z" (.int y3)) (P4 : ¬ (y3 = (0 : Int32))) (P5 : Fld Z Z.heap x1 "java/lang/String" "coder" "B" (.int 0)) (P6 : Fld Z h0 x2 "java/lang/String" "coder" "B" (.int 0)) (P7 : Fld Z Z.heap x1 "java/lang/String" "value" "[B" (.ref x4)) (P8 : Fld Z h0 x2 "java/lang/String" "value" "[B" (.ref x5)) (P9 : Arv Z Z.heap x4 kk6 .byte (1 : Int32) [(.int 101)] (.int 0)) (P10 : Arv Z h0 x5 kk7 .byte (2 : Int32) [(.int y8), (.int y9)] (.int 0)) :
    Ctr l Z [] (⟨"java/lang/String", "equals", s5'⟩ : MethodName) jdk_42_method_66_code 3 (some .boolean) #[(.ref x1), (.ref x2)] h0 ({ frames := 1, cells := 0, slots := 0, locals := 14 } : Room) (fun v h L => v = some (.int 0) ∧ Fr n0 L ∧ h = h0) := by
  refine Ctr.of (plainFor_of_name pn_java_lang_String) (fun m => ef_m78_equals m x1 x2) ?_
  intro p e s m below meth c T0 hx hZ hby hml hown hnm hret hlk X0 e0
  have N0 := Fr.nil n0
  show Aw p e below _ T0 m 0 #[rv x1, rv x2, uu] []
  refine Rch.go (fun t k => XS.aloadN X0.here hx rfl (hb hby d5_0) rfl rfl (XS.aloadN X0.here hx rfl (hb hby d5_1) rfl rfl (acmp X0 hx rfl (x := (.ref x1)) (y := (.ref x2)) rfl rfl (pc0 := 2) (pc' := 7) (same := false) rfl (hb hby d5_2) rfl (decide_eq_false (fun q => absurd (Value.ref.inj q) P1)) (by decide) (by decide) (XS.aloadN X0.here hx rfl (hb hby d5_7) rfl rfl k)))) ?_
  show Aw p e below _ T0 m 8 #[rv x1, rv x2, uu] [(.ref x2)]
  obtain ⟨T1, X1, e1, st1⟩ := instY X0 hx hZ hown (wd_51 hw) e0 (Ins.self P2) (g := (mkF m 8 #[rv x1, rv x2, uu] [(.ref x2)])) rfl rfl (hb hby d5_8)
  refine Rch.go st1 ?_
  show Aw p e below _ T1 m 11 #[rv x1, rv x2, uu] [(.int 1)]
  refine Rch.go (fun t k => XS.ifNo X1.here hx rfl (hb hby d5_11) rfl (by decide) (XS.aloadN X1.here hx rfl (hb hby d5_14) rfl rfl k)) ?_
  show Aw p e below _ T1 m 15 #[rv x1, rv x2, uu] [(.ref x2)]
  obtain ⟨T2, X2, e2, st2⟩ := castY X1 hx hZ hown (wd_51 hw) e1 (Ins.self P2) (g := (mkF m 15 #[rv x1, rv x2, uu] [(.ref x2)])) rfl rfl (hb hby d5_15)
  refine Rch.go st2 ?_
  show Aw p e below _ T2 m 18 #[rv x1, rv x2, uu] [(.ref x2)]
  refine Rch.go (fun t k => XS.astoreN X2.here hx rfl (hb hby d5_18) rfl rfl (l' := #[rv x1, rv x2, rv x2]) rfl k) ?_
  show Aw p e below _ T2 m 19 #[rv x1, rv x2, rv x2] []
  obtain ⟨T3, X3, e3, st3⟩ := getS2 X2 hx hZ hown (host := "") (Or.inl (wd_52 hw)) Via.refl e2 (P3.ext O0.2) (g := (mkF m 19 #[rv x1, rv x2, rv x2] [])) rfl (hb hby d5_19)
  refine Rch.go st3 ?_
  show Aw p e below _ T3 m 22 #[rv x1, rv x2, rv x2] [(.int y3)]
  refine Rch.go (fun t k => XS.ifNo X3.here hx rfl (hb hby d5_22) rfl (XT.i0_eq_f P4) (XS.aloadN X3.here hx rfl (hb hby d5_25) rfl rfl k)) ?_
  show Aw p e below _ T3 m 26 #[rv x1, rv x2, rv x2] [(.ref x1)]
  obtain ⟨T4, X4, e4, st4⟩ := getF X3 hx hZ hown (host := "") (Or.inl (wd_21 hw)) Via.refl e3 (P5.ext O0.2) (g := (mkF m 26 #[rv x1, rv x2, rv x2] [(.ref x1)])) rfl rfl (hb hby d5_26)
  refine Rch.go st4 ?_
  show Aw p e below _ T4 m 29 #[rv x1, rv x2, rv x2] [(.int 0)]
  refine Rch.go (fun t k => XS.aloadN X4.here hx rfl (hb hby d5_29) rfl rfl k) ?_
  show Aw p e below _ T4 m 30 #[rv x1, rv x2, rv x2] [(.ref x2), (.int 0)]
  obtain ⟨T5, X5, e5, st5⟩ := getF X4 hx hZ hown (host := "") (Or.inl (wd_21 hw)) Via.refl e4 P6 (g := (mkF m 30 #[rv x1, rv x2, rv x2] [(.ref x2), (.int 0)])) rfl rfl (hb hby d5_30)
  refine Rch.go st5 ?_
  show Aw p e below _ T5 m 33 #[rv x1, rv x2, rv x2] [(.int 0), (.int 0)]
  refine Rch.go (fun t k => XS.icmpNo X5.here hx rfl (hb hby d5_33) rfl (by decide) (XS.aloadN X5.here hx rfl (hb hby d5_36) rfl rfl k)) ?_
  show Aw p e below _ T5 m 37 #[rv x1, rv x2, rv x2] [(.ref x1)]
  obtain ⟨T6, X6, e6, st6⟩ := getF X5 hx hZ hown (host := "") (Or.inl (wd_20 hw)) Via.refl e5 (P7.ext O0.2) (g := (mkF m 37 #[rv x1, rv x2, rv x2] [(.ref x1)])) rfl rfl (hb hby d5_37)
  refine Rch.go st6 ?_
  show Aw p e below _ T6 m 40 #[rv x1, rv x2, rv x2] [(.ref x4)]
  refine Rch.go (fun t k => XS.aloadN X6.here hx rfl (hb hby d5_40) rfl rfl k) ?_
  show Aw p e below _ T6 m 41 #[rv x1, rv x2, rv x2] [(.ref x2), (.ref x4)]
  obtain ⟨T7, X7, e7, st7⟩ := getF X6 hx hZ hown (host := "") (Or.inl (wd_20 hw)) Via.refl e6 P8 (g := (mkF m 41 #[rv x1, rv x2, rv x2] [(.ref x2), (.ref x4)])) rfl rfl (hb hby d5_41)
  refine Rch.go st7 ?_
  show Aw p e below _ T7 m 44 #[rv x1, rv x2, rv x2] [(.ref x5), (.ref x4)]
  obtain ⟨v8, T8, L8, X8, Q8, st8⟩ := callSt X7 hx hZ (m79_equals l Z a0 hw x4 x5 kk6 kk7 y8 y9 h0 n0 Z0 O0 P9 P10) e7 hown (wd_53 hw) (wd_54 hw) (wd_56 hw) (wd_55 hw) (by decide) (hb hby d5_44) 0 (by decide) (by decide) (by decide) (by decide) (by rw [hml]; rfl) [(.ref x4), (.ref x5)] [] rfl (lenOf pd_5 rfl) rfl (Nat.le_of_eq rfl) (Ls := #[rv x1, rv x2, rv x2])
  obtain ⟨rfl, M8, e8⟩ := Q8
  have N8 := Fr.app N0 M8
  refine Rch.go st8 ?_
  show Aw p e below _ T8 m 47 #[rv x1, rv x2, rv x2] [(.int 0)]
  refine Rch.go (fun t k => XS.ifYes X8.here hx rfl (pc0 := 47) (pc' := 54) rfl (hb hby d5_47) rfl (by decide) (by decide) (by decide) (XS.iconst X8.here hx rfl (hb hby d5_54) k)) ?_
  show Aw p e below _ T8 m 55 #[rv x1, rv x2, rv x2] [(.int 0)]
  refine Rch.val X8 hx (t := .boolean) hret hlk rfl (mayI (by simp)) (hb hby d5_55) (by decide) (by decide) ?_
  try rw [e8]
  exact ⟨rfl, N8, rfl⟩
theorem ef_m81_equals (m : MethodId) (x1 x2 : Addr) : entryFrame m #[(.ref x1), (.ref x2)] 3 = mkF m 0 #[rv x1, rv x2, uu] [] := by first | rfl | (simp [entryFrame, mkF, argsToLocals, Value.category]; done)
theorem m81_equals (l : Launch) (Z : State) (a0 : Array Value) (hw : HW Z a0) (x1 x2 : Addr) (kk3 kk4 : ClassId) (y5 y6 : Int32) (h0 : Heap) (n0 : Nat) (Z0 : n0 ≤ h0.size) (O0 : Old Z n0 h0) (P1 : Arv Z Z.heap x1 kk3 .byte (1 : Int32) [(.int 38)] (.int 0)) (P2 : Arv Z h0 x2 kk4 .byte (2 : Int32) [(.int y5), (.int y6)] (.int 0)) :
    Ctr l Z [] (⟨s2', "equals", "([B[B)Z"⟩ : MethodName) jdk_43_method_13_code 3 (some .boolean) #[(.ref x1), (.ref x2)] h0 ({ frames := 0, cells := 0, slots := 0, locals := 0 } : Room) (fun v h L => v = some (.int 0) ∧ Fr n0 L ∧ h = h0) := by
  refine Ctr.of (plainFor_of_name pn_java_lang_StringLatin1) (fun m => ef_m81_equals m x1 x2) ?_
  intro p e s m below meth c T0 hx hZ hby hml hown hnm hret hlk X0 e0
  have N0 := Fr.nil n0
  show Aw p e below _ T0 m 0 #[rv x1, rv x2, uu] []
  refine Rch.go (fun t k => XS.aloadN X0.here hx rfl (hb hby d6_0) rfl rfl k) ?_
  show Aw p e below _ T0 m 1 #[rv x1, rv x2, uu] [(.ref x1)]
  obtain ⟨c1, r1, q1, s1, u1, H1, G1⟩ := id (P1.ext O0.2)
  refine Rch.go (fun t k => X0.arraylength hx (by rw [e0]; exact r1.1) (State.isArrayOf_alike hZ.alike r1.2.1) (g := (mkF m 1 #[rv x1, rv x2, uu] [(.ref x1)])) rfl rfl (hb hby d6_1) t (by rw [len_of s1 u1]; exact k)) ?_
  show Aw p e below _ T0 m 2 #[rv x1, rv x2, uu] [(.int 1)]
  refine Rch.go (fun t k => XS.aloadN X0.here hx rfl (hb hby d6_2) rfl rfl k) ?_
  show Aw p e below _ T0 m 3 #[rv x1, rv x2, uu] [(.ref x2), (.int 1)]
  obtain ⟨c2, r2, q2, s2, u2, H2, G2⟩ := id P2
  refine Rch.go (fun t k => X0.arraylength hx (by rw [e0]; exact r2.1) (State.isArrayOf_alike hZ.alike r2.2.1) (g := (mkF m 3 #[rv x1, rv x2, uu] [(.ref x2), (.int 1)])) rfl rfl (hb hby d6_3) t (by rw [len_of s2 u2]; exact k)) ?_
  show Aw p e below _ T0 m 4 #[rv x1, rv x2, uu] [(.int 2), (.int 1)]
  refine Rch.go (fun t k => XS.icmpYes X0.here hx rfl (pc0 := 4) (pc' := 34) rfl (hb hby d6_4) rfl (by decide) (by decide) (by decide) (XS.iconst X0.here hx rfl (hb hby d6_34) k)) ?_
  show Aw p e below _ T0 m 35 #[rv x1, rv x2, uu] [(.int 0)]
  refine Rch.val X0 hx (t := .boolean) hret hlk rfl (mayI (by simp)) (hb hby d6_35) (by decide) (by decide) ?_
  try rw [e0]
  exact ⟨rfl, N0, rfl⟩
theorem ef_m80_equals (m : MethodId) (x1 x2 : Addr) : entryFrame m #[(.ref x1), (.ref x2)] 3 = mkF m 0 #[rv x1, rv x2, uu] [] := by first | rfl | (simp [entryFrame, mkF, argsToLocals, Value.category]; done)
theorem m80_equals (l : Launch) (Z : State) (a0 : Array Value) (hw : HW Z a0) (x1 x2 : Addr) (y3 : Int32) (x4 x5 : Addr) (kk6 kk7 : ClassId) (y8 y9 : Int32) (h0 : Heap) (n0 : Nat) (Z0 : n0 ≤ h0.size) (O0 : Old Z n0 h0) (P1 : x1 ≠ x2) (P2 : Exa Z h0 x2 "java/lang/String") (P3 : Sta Z Z.heap "java/lang/String" "COMPACT_STRINGS" "Z" (.int y3)) (P4 : ¬ (y3 = (0 : Int32))) (P5 : Fld Z Z.heap x1 "java/lang/String" "coder" "B" (.int 0)) (P6 : Fld Z h0 x2 "java/lang/String" "coder" "B" (.int 0)) (P7 : Fld Z Z.heap x1 "java/lang/String" "value" "[B" (.ref x4)) (P8 : Fld Z h0 x2 "java/lang/String" "value" "[B" (.ref x5)) (P9 : Arv Z Z.heap x4 kk6 .byte (1 : Int32) [(.int 38)] (.int 0)) (P10 : Arv Z h0 x5 kk7 .byte (2 : Int32) [(.int y8), (.int y9)] (.int 0)) :
    Ctr l Z [] (⟨"java/lang/String", "equals", s5'⟩ : MethodName) jdk_42_method_66_code 3 (some .boolean) #[(.ref x1), (.ref x2)] h0 ({ frames := 1, cells := 0, slots := 0, locals := 14 } : Room) (fun v h L => v = some (.int 0) ∧ Fr n0 L ∧ h = h0) := by
  refine Ctr.of (plainFor_of_name pn_java_lang_String) (fun m => ef_m80_equals m x1 x2) ?_
  intro p e s m below meth c T0 hx hZ hby hml hown hnm hret hlk X0 e0
  have N0 := Fr.nil n0
  show Aw p e below _ T0 m 0 #[rv x1, rv x2, uu] []
  refine Rch.go (fun t k => XS.aloadN X0.here hx rfl (hb hby d5_0) rfl rfl (XS.aloadN X0.here hx rfl (hb hby d5_1) rfl rfl (acmp X0 hx rfl (x := (.ref x1)) (y := (.ref x2)) rfl rfl (pc0 := 2) (pc' := 7) (same := false) rfl (hb hby d5_2) rfl (decide_eq_false (fun q => absurd (Value.ref.inj q) P1)) (by decide) (by decide) (XS.aloadN X0.here hx rfl (hb hby d5_7) rfl rfl k)))) ?_
  show Aw p e below _ T0 m 8 #[rv x1, rv x2, uu] [(.ref x2)]
  obtain ⟨T1, X1, e1, st1⟩ := instY X0 hx hZ hown (wd_51 hw) e0 (Ins.self P2) (g := (mkF m 8 #[rv x1, rv x2, uu] [(.ref x2)])) rfl rfl (hb hby d5_8)
  refine Rch.go st1 ?_
  show Aw p e below _ T1 m 11 #[rv x1, rv x2, uu] [(.int 1)]
  refine Rch.go (fun t k => XS.ifNo X1.here hx rfl (hb hby d5_11) rfl (by decide) (XS.aloadN X1.here hx rfl (hb hby d5_14) rfl rfl k)) ?_
  show Aw p e below _ T1 m 15 #[rv x1, rv x2, uu] [(.ref x2)]
  obtain ⟨T2, X2, e2, st2⟩ := castY X1 hx hZ hown (wd_51 hw) e1 (Ins.self P2) (g := (mkF m 15 #[rv x1, rv x2, uu] [(.ref x2)])) rfl rfl (hb hby d5_15)
  refine Rch.go st2 ?_
  show Aw p e below _ T2 m 18 #[rv x1, rv x2, uu] [(.ref x2)]
  refine Rch.go (fun t k => XS.astoreN X2.here hx rfl (hb hby d5_18) rfl rfl (l' := #[rv x1, rv x2, rv x2]) rfl k) ?_
  show Aw p e below _ T2 m 19 #[rv x1, rv x2, rv x2] []
  obtain ⟨T3, X3, e3, st3⟩ := getS2 X2 hx hZ hown (host := "") (Or.inl (wd_52 hw)) Via.refl e2 (P3.ext O0.2) (g := (mkF m 19 #[rv x1, rv x2, rv x2] [])) rfl (hb hby d5_19)
  refine Rch.go st3 ?_
  show Aw p e below _ T3 m 22 #[rv x1, rv x2, rv x2] [(.int y3)]
  refine Rch.go (fun t k => XS.ifNo X3.here hx rfl (hb hby d5_22) rfl (XT.i0_eq_f P4) (XS.aloadN X3.here hx rfl (hb hby d5_25) rfl rfl k)) ?_
  show Aw p e below _ T3 m 26 #[rv x1, rv x2, rv x2] [(.ref x1)]
  obtain ⟨T4, X4, e4, st4⟩ := getF X3 hx hZ hown (host := "") (Or.inl (wd_21 hw)) Via.refl e3 (P5.ext O0.2) (g := (mkF m 26 #[rv x1, rv x2, rv x2] [(.ref x1)])) rfl rfl (hb hby d5_26)
  refine Rch.go st4 ?_
  show Aw p e below _ T4 m 29 #[rv x1, rv x2, rv x2] [(.int 0)]
  refine Rch.go (fun t k => XS.aloadN X4.here hx rfl (hb hby d5_29) rfl rfl k) ?_
  show Aw p e below _ T4 m 30 #[rv x1, rv x2, rv x2] [(.ref x2), (.int 0)]
  obtain ⟨T5, X5, e5, st5⟩ := getF X4 hx hZ hown (host := "") (Or.inl (wd_21 hw)) Via.refl e4 P6 (g := (mkF m 30 #[rv x1, rv x2, rv x2] [(.ref x2), (.int 0)])) rfl rfl (hb hby d5_30)
  refine Rch.go st5 ?_
  show Aw p e below _ T5 m 33 #[rv x1, rv x2, rv x2] [(.int 0), (.int 0)]
  refine Rch.go (fun t k => XS.icmpNo X5.here hx rfl (hb hby d5_33) rfl (by decide) (XS.aloadN X5.here hx rfl (hb hby d5_36) rfl rfl k)) ?_
  show Aw p e below _ T5 m 37 #[rv x1, rv x2, rv x2] [(.ref x1)]
  obtain ⟨T6, X6, e6, st6⟩ := getF X5 hx hZ hown (host := "") (Or.inl (wd_20 hw)) Via.refl e5 (P7.ext O0.2) (g := (mkF m 37 #[rv x1, rv x2, rv x2] [(.ref x1)])) rfl rfl (hb hby d5_37)
  refine Rch.go st6 ?_
  show Aw p e below _ T6 m 40 #[rv x1, rv x2, rv x2] [(.ref x4)]
  refine Rch.go (fun t k => XS.aloadN X6.here hx rfl (hb hby d5_40) rfl rfl k) ?_
  show Aw p e below _ T6 m 41 #[rv x1, rv x2, rv x2] [(.ref x2), (.ref x4)]
  obtain ⟨T7, X7, e7, st7⟩ := getF X6 hx hZ hown (host := "") (Or.inl (wd_20 hw)) Via.refl e6 P8 (g := (mkF m 41 #[rv x1, rv x2, rv x2] [(.ref x2), (.ref x4)])) rfl rfl (hb hby d5_41)
  refine Rch.go st7 ?_
  show Aw p e below _ T7 m 44 #[rv x1, rv x2, rv x2] [(.ref x5), (.ref x4)]
  obtain ⟨v8, T8, L8, X8, Q8, st8⟩ := callSt X7 hx hZ (m81_equals l Z a0 hw x4 x5 kk6 kk7 y8 y9 h0 n0 Z0 O0 P9 P10) e7 hown (wd_53 hw) (wd_54 hw) (wd_56 hw) (wd_55 hw) (by decide) (hb hby d5_44) 0 (by decide) (by decide) (by decide) (by decide) (by rw [hml]; rfl) [(.ref x4), (.ref x5)] [] rfl (lenOf pd_5 rfl) rfl (Nat.le_of_eq rfl) (Ls := #[rv x1, rv x2, rv x2])
  obtain ⟨rfl, M8, e8⟩ := Q8
  have N8 := Fr.app N0 M8
  refine Rch.go st8 ?_
  show Aw p e below _ T8 m 47 #[rv x1, rv x2, rv x2] [(.int 0)]
  refine Rch.go (fun t k => XS.ifYes X8.here hx rfl (pc0 := 47) (pc' := 54) rfl (hb hby d5_47) rfl (by decide) (by decide) (by decide) (XS.iconst X8.here hx rfl (hb hby d5_54) k)) ?_
  show Aw p e below _ T8 m 55 #[rv x1, rv x2, rv x2] [(.int 0)]
  refine Rch.val X8 hx (t := .boolean) hret hlk rfl (mayI (by simp)) (hb hby d5_55) (by decide) (by decide) ?_
  try rw [e8]
  exact ⟨rfl, N8, rfl⟩
theorem ef_m75_of (m : MethodId) (x1 : Addr) : entryFrame m #[(.ref x1)] 5 = mkF m 0 #[rv x1, uu, uu, uu, uu] [] := by first | rfl | (simp [entryFrame, mkF, argsToLocals, Value.category]; done)
theorem m75_of (l : Launch) (Z : State) (a0 : Array Value) (hw : HW Z a0) (x1 x2 : Addr) (kk3 : ClassId) (x4 x5 x6 x7 : Addr) (y8 : Int32) (x9 x10 : Addr) (kk11 kk12 : ClassId) (y13 y14 : Int32) (x15 x16 : Addr) (kk17 : ClassId) (x18 x19 : Addr) (kk20 : ClassId) (h0 : Heap) (n0 : Nat) (Z0 : n0 ≤ h0.size) (O0 : Old Z n0 h0) (P1 : Sta Z Z.heap s1' "$VALUES" s3' (.ref x2)) (P2 : Arv Z Z.heap x2 kk3 (.object s1') (3 : Int32) [(.ref x4), (.ref x5), (.ref x6)] .null) (P3 : Exa Z Z.heap x2 s3') (P4 : Fld Z Z.heap x4 s1' "text" "Ljava/lang/String;" (.ref x7)) (P5 : Exa Z Z.heap x7 "java/lang/String") (P6 : x7 ≠ x1) (P7 : Exa Z h0 x1 "java/lang/String") (P8 : Sta Z Z.heap "java/lang/String" "COMPACT_STRINGS" "Z" (.int y8)) (P9 : ¬ (y8 = (0 : Int32))) (P10 : Fld Z Z.heap x7 "java/lang/String" "coder" "B" (.int 0)) (P11 : Fld Z h0 x1 "java/lang/String" "coder" "B" (.int 0)) (P12 : Fld Z Z.heap x7 "java/lang/String" "value" "[B" (.ref x9)) (P13 : Fld Z h0 x1 "java/lang/String" "value" "[B" (.ref x10)) (P14 : Arv Z Z.heap x9 kk11 .byte (1 : Int32) [(.int 69)] (.int 0)) (P15 : Arv Z h0 x10 kk12 .byte (2 : Int32) [(.int y13), (.int y14)] (.int 0)) (P16 : Fld Z Z.heap x5 s1' "text" "Ljava/lang/String;" (.ref x15)) (P17 : Exa Z Z.heap x15 "java/lang/String") (P18 : x15 ≠ x1) (P19 : Fld Z Z.heap x15 "java/lang/String" "coder" "B" (.int 0)) (P20 : Fld Z Z.heap x15 "java/lang/String" "value" "[B" (.ref x16)) (P21 : Arv Z Z.heap x16 kk17 .byte (1 : Int32) [(.int 101)] (.int 0)) (P22 : Fld Z Z.heap x6 s1' "text" "Ljava/lang/String;" (.ref x18)) (P23 : Exa Z Z.heap x18 "java/lang/String") (P24 : x18 ≠ x1) (P25 : Fld Z Z.heap x18 "java/lang/String" "coder" "B" (.int 0)) (P26 : Fld Z Z.heap x18 "java/lang/String" "value" "[B" (.ref x19)) (P27 : Arv Z Z.heap x19 kk20 .byte (1 : Int32) [(.int 38)] (.int 0)) :
    Ctr l Z [] (⟨s1', "of", s8'⟩ : MethodName) prog_61_method_4_code 5 (some (.object s1')) #[(.ref x1)] h0 ({ frames := 2, cells := 1, slots := 3, locals := 28 } : Room) (fun v h L => v = some .null ∧ Fr n0 L ∧ Keep h0 h []) := by
  refine Ctr.of (plainFor_of_name pn_com_example_knit_theories_knittheories_model_Gather) (fun m => ef_m75_of m x1) ?_
  intro p e s m below meth c T0 hx hZ hby hml hown hnm hret hlk X0 e0
  have N0 := Fr.nil n0
  show Aw p e below _ T0 m 0 #[rv x1, uu, uu, uu, uu] []
  obtain ⟨v1, T1, L1, X1, Q1, st1⟩ := callSt X0 hx hZ (m2_values l Z a0 hw x2 kk3 x4 x5 x6 h0 n0 Z0 O0 P1 P2 P3) e0 hown (wd_26 hw) (wd_27 hw) (wd_28 hw) (wd_24 hw) (by decide) (hb hby d3_0) 0 (by decide) (by decide) (by decide) (by decide) (by rw [hml]; rfl) [] [] rfl (lenOf pd_1 rfl) rfl (Nat.le_of_eq rfl) (Ls := #[rv x1, uu, uu, uu, uu])
  obtain ⟨b1_0, rfl, M1, K1, zz1_0, F1_0, F1_1⟩ := Q1
  have N1 := Fr.app N0 M1
  refine Rch.go st1 ?_
  have g_b1_0 : n0 ≤ b1_0 := Nat.le_trans Z0 zz1_0
  show Aw p e below _ T1 m 3 #[rv x1, uu, uu, uu, uu] [(.ref b1_0)]
  refine Rch.go (fun t k => XS.astoreN X1.here hx rfl (hb hby d3_3) rfl rfl (l' := #[rv x1, rv b1_0, uu, uu, uu]) rfl (XS.aloadN X1.here hx rfl (hb hby d3_4) rfl rfl k)) ?_
  show Aw p e below _ T1 m 5 #[rv x1, rv b1_0, uu, uu, uu] [(.ref b1_0)]
  obtain ⟨c2, r2, q2, s2, u2, H2, G2⟩ := id F1_1
  refine Rch.go (fun t k => X1.arraylength hx r2.1 (State.isArrayOf_alike hZ.alike r2.2.1) (g := (mkF m 5 #[rv x1, rv b1_0, uu, uu, uu] [(.ref b1_0)])) rfl rfl (hb hby d3_5) t (by rw [len_of s2 u2]; exact k)) ?_
  show Aw p e below _ T1 m 6 #[rv x1, rv b1_0, uu, uu, uu] [(.int 3)]
  refine Rch.go (fun t k => XS.istoreN X1.here hx rfl (hb hby d3_6) rfl  (l' := #[rv x1, rv b1_0, iv 3, uu, uu]) rfl (XS.iconst X1.here hx rfl (hb hby d3_7) (XS.istoreN X1.here hx rfl (hb hby d3_8) rfl  (l' := #[rv x1, rv b1_0, iv 3, iv 0, uu]) rfl (XS.iloadN X1.here hx rfl (hb hby d3_9) rfl  (XS.iloadN X1.here hx rfl (hb hby d3_10) rfl  (XS.icmpNo X1.here hx rfl (hb hby d3_11) rfl (by decide) (XS.aloadN X1.here hx rfl (hb hby d3_14) rfl rfl (XS.iloadN X1.here hx rfl (hb hby d3_15) rfl  k)))))))) ?_
  show Aw p e below _ T1 m 16 #[rv x1, rv b1_0, iv 3, iv 0, uu] [(.int 0), (.ref b1_0)]
  obtain ⟨c3, r3, q3, s3, u3, H3, G3⟩ := id F1_1
  refine Rch.go (fun t k => X1.aaload hx (j := (0 : Int32)) (v := (.ref x4)) r3.1 (State.isArrayOf_alike hZ.alike r3.2.1) rfl r3.2.2 (inb_of s3 (by decide)) (H3.at (inb_of s3 (by decide)) rfl) (g := (mkF m 16 #[rv x1, rv b1_0, iv 3, iv 0, uu] [(.int 0), (.ref b1_0)])) rfl rfl (hb hby d3_16) t k) ?_
  show Aw p e below _ T1 m 17 #[rv x1, rv b1_0, iv 3, iv 0, uu] [(.ref x4)]
  refine Rch.go (fun t k => XS.astore X1.here hx rfl (hb hby d3_17) rfl rfl (l' := #[rv x1, rv b1_0, iv 3, iv 0, rv x4]) rfl (XS.aload X1.here hx rfl (hb hby d3_19) rfl rfl k)) ?_
  show Aw p e below _ T1 m 21 #[rv x1, rv b1_0, iv 3, iv 0, rv x4] [(.ref x4)]
  have o5 := (O0.keep K1 all0)
  obtain ⟨T4, X4, e4, st4⟩ := getF X1 hx hZ hown (host := "") (Or.inl (wd_44 hw)) Via.refl rfl (P4.ext o5.2) (g := (mkF m 21 #[rv x1, rv b1_0, iv 3, iv 0, rv x4] [(.ref x4)])) rfl rfl (hb hby d3_21)
  refine Rch.go st4 ?_
  show Aw p e below _ T4 m 24 #[rv x1, rv b1_0, iv 3, iv 0, rv x4] [(.ref x7)]
  refine Rch.go (fun t k => XS.aloadN X4.here hx rfl (hb hby d3_24) rfl rfl k) ?_
  show Aw p e below _ T4 m 25 #[rv x1, rv b1_0, iv 3, iv 0, rv x4] [(.ref x1), (.ref x7)]
  have f6 := (P7.keep K1)
  have f7 := (P11.keep K1 nin0)
  have f8 := (P13.keep K1 nin0)
  have f9 := (P15.keep K1 nin0)
  have z10 := (Nat.le_trans Z0 K1.1)
  obtain ⟨v11, T11, L11, X11, Q11, st11⟩ := callVi X4 hx hZ (m76_equals l Z a0 hw x7 x1 y8 x9 x10 kk11 kk12 y13 y14 T1.heap n0 z10 o5 P6 f6 P8 P9 P10 f7 P12 f8 P14 f9) e4 hown (wd_46 hw) (wd_47 hw) (wd_49 hw) (notFace_of_selects (args := #[]) (mvT hZ (wd_49 hw))) (wd_48 hw) (wd_50 hw) (wd_2 hw) (by decide) (hb hby d3_25) 0 (by decide) (by decide) (by decide) (by decide) (by rw [hml]; rfl) x7 (P5.ext o5.2) [(.ref x1)] [] rfl (lenOf pd_2 rfl) rfl (Nat.le_of_eq rfl) (Ls := #[rv x1, rv b1_0, iv 3, iv 0, rv x4])
  obtain ⟨rfl, M11, e11⟩ := Q11
  have N11 := Fr.app N1 M11
  refine Rch.go st11 ?_
  show Aw p e below _ T11 m 28 #[rv x1, rv b1_0, iv 3, iv 0, rv x4] [(.int 0)]
  refine Rch.go (fun t k => XS.ifYes X11.here hx rfl (pc0 := 28) (pc' := 34) rfl (hb hby d3_28) rfl (by decide) (by decide) (by decide) (XS.iinc X11.here hx rfl (hb hby d3_34) rfl (l' := #[rv x1, rv b1_0, iv 3, iv 1, rv x4]) rfl (XS.goto X11.here hx rfl (pc0 := 37) (pc' := 9) rfl (hb hby d3_37) (by decide) (by decide) (XS.iloadN X11.here hx rfl (hb hby d3_9) rfl  (XS.iloadN X11.here hx rfl (hb hby d3_10) rfl  (XS.icmpNo X11.here hx rfl (hb hby d3_11) rfl (by decide) (XS.aloadN X11.here hx rfl (hb hby d3_14) rfl rfl (XS.iloadN X11.here hx rfl (hb hby d3_15) rfl  k)))))))) ?_
  show Aw p e below _ T11 m 16 #[rv x1, rv b1_0, iv 3, iv 1, rv x4] [(.int 1), (.ref b1_0)]
  obtain ⟨c12, r12, q12, s12, u12, H12, G12⟩ := id F1_1
  refine Rch.go (fun t k => X11.aaload hx (j := (1 : Int32)) (v := (.ref x5)) (by rw [e11]; exact r12.1) (State.isArrayOf_alike hZ.alike r12.2.1) rfl r12.2.2 (inb_of s12 (by decide)) (H12.at (inb_of s12 (by decide)) rfl) (g := (mkF m 16 #[rv x1, rv b1_0, iv 3, iv 1, rv x4] [(.int 1), (.ref b1_0)])) rfl rfl (hb hby d3_16) t k) ?_
  show Aw p e below _ T11 m 17 #[rv x1, rv b1_0, iv 3, iv 1, rv x4] [(.ref x5)]
  refine Rch.go (fun t k => XS.astore X11.here hx rfl (hb hby d3_17) rfl rfl (l' := #[rv x1, rv b1_0, iv 3, iv 1, rv x5]) rfl (XS.aload X11.here hx rfl (hb hby d3_19) rfl rfl k)) ?_
  show Aw p e below _ T11 m 21 #[rv x1, rv b1_0, iv 3, iv 1, rv x5] [(.ref x5)]
  obtain ⟨T13, X13, e13, st13⟩ := getF X11 hx hZ hown (host := "") (Or.inl (wd_44 hw)) Via.refl e11 (P16.ext o5.2) (g := (mkF m 21 #[rv x1, rv b1_0, iv 3, iv 1, rv x5] [(.ref x5)])) rfl rfl (hb hby d3_21)
  refine Rch.go st13 ?_
  show Aw p e below _ T13 m 24 #[rv x1, rv b1_0, iv 3, iv 1, rv x5] [(.ref x15)]
  refine Rch.go (fun t k => XS.aloadN X13.here hx rfl (hb hby d3_24) rfl rfl k) ?_
  show Aw p e below _ T13 m 25 #[rv x1, rv b1_0, iv 3, iv 1, rv x5] [(.ref x1), (.ref x15)]
  obtain ⟨v14, T14, L14, X14, Q14, st14⟩ := callVi X13 hx hZ (m78_equals l Z a0 hw x15 x1 y8 x16 x10 kk17 kk12 y13 y14 T1.heap n0 z10 o5 P18 f6 P8 P9 P19 f7 P20 f8 P21 f9) e13 hown (wd_46 hw) (wd_47 hw) (wd_49 hw) (notFace_of_selects (args := #[]) (mvT hZ (wd_49 hw))) (wd_48 hw) (wd_50 hw) (wd_2 hw) (by decide) (hb hby d3_25) 0 (by decide) (by decide) (by decide) (by decide) (by rw [hml]; rfl) x15 (P17.ext o5.2) [(.ref x1)] [] rfl (lenOf pd_2 rfl) rfl (Nat.le_of_eq rfl) (Ls := #[rv x1, rv b1_0, iv 3, iv 1, rv x5])
  obtain ⟨rfl, M14, e14⟩ := Q14
  have N14 := Fr.app N11 M14
  refine Rch.go st14 ?_
  show Aw p e below _ T14 m 28 #[rv x1, rv b1_0, iv 3, iv 1, rv x5] [(.int 0)]
  refine Rch.go (fun t k => XS.ifYes X14.here hx rfl (pc0 := 28) (pc' := 34) rfl (hb hby d3_28) rfl (by decide) (by decide) (by decide) (XS.iinc X14.here hx rfl (hb hby d3_34) rfl (l' := #[rv x1, rv b1_0, iv 3, iv 2, rv x5]) rfl (XS.goto X14.here hx rfl (pc0 := 37) (pc' := 9) rfl (hb hby d3_37) (by decide) (by decide) (XS.iloadN X14.here hx rfl (hb hby d3_9) rfl  (XS.iloadN X14.here hx rfl (hb hby d3_10) rfl  (XS.icmpNo X14.here hx rfl (hb hby d3_11) rfl (by decide) (XS.aloadN X14.here hx rfl (hb hby d3_14) rfl rfl (XS.iloadN X14.here hx rfl (hb hby d3_15) rfl  k)))))))) ?_
  show Aw p e below _ T14 m 16 #[rv x1, rv b1_0, iv 3, iv 2, rv x5] [(.int 2), (.ref b1_0)]
  obtain ⟨c15, r15, q15, s15, u15, H15, G15⟩ := id F1_1
  refine Rch.go (fun t k => X14.aaload hx (j := (2 : Int32)) (v := (.ref x6)) (by rw [e14]; exact r15.1) (State.isArrayOf_alike hZ.alike r15.2.1) rfl r15.2.2 (inb_of s15 (by decide)) (H15.at (inb_of s15 (by decide)) rfl) (g := (mkF m 16 #[rv x1, rv b1_0, iv 3, iv 2, rv x5] [(.int 2), (.ref b1_0)])) rfl rfl (hb hby d3_16) t k) ?_
  show Aw p e below _ T14 m 17 #[rv x1, rv b1_0, iv 3, iv 2, rv x5] [(.ref x6)]
  refine Rch.go (fun t k => XS.astore X14.here hx rfl (hb hby d3_17) rfl rfl (l' := #[rv x1, rv b1_0, iv 3, iv 2, rv x6]) rfl (XS.aload X14.here hx rfl (hb hby d3_19) rfl rfl k)) ?_
  show Aw p e below _ T14 m 21 #[rv x1, rv b1_0, iv 3, iv 2, rv x6] [(.ref x6)]
  obtain ⟨T16, X16, e16, st16⟩ := getF X14 hx hZ hown (host := "") (Or.inl (wd_44 hw)) Via.refl e14 (P22.ext o5.2) (g := (mkF m 21 #[rv x1, rv b1_0, iv 3, iv 2, rv x6] [(.ref x6)])) rfl rfl (hb hby d3_21)
  refine Rch.go st16 ?_
  show Aw p e below _ T16 m 24 #[rv x1, rv b1_0, iv 3, iv 2, rv x6] [(.ref x18)]
  refine Rch.go (fun t k => XS.aloadN X16.here hx rfl (hb hby d3_24) rfl rfl k) ?_
  show Aw p e below _ T16 m 25 #[rv x1, rv b1_0, iv 3, iv 2, rv x6] [(.ref x1), (.ref x18)]
  obtain ⟨v17, T17, L17, X17, Q17, st17⟩ := callVi X16 hx hZ (m80_equals l Z a0 hw x18 x1 y8 x19 x10 kk20 kk12 y13 y14 T1.heap n0 z10 o5 P24 f6 P8 P9 P25 f7 P26 f8 P27 f9) e16 hown (wd_46 hw) (wd_47 hw) (wd_49 hw) (notFace_of_selects (args := #[]) (mvT hZ (wd_49 hw))) (wd_48 hw) (wd_50 hw) (wd_2 hw) (by decide) (hb hby d3_25) 0 (by decide) (by decide) (by decide) (by decide) (by rw [hml]; rfl) x18 (P23.ext o5.2) [(.ref x1)] [] rfl (lenOf pd_2 rfl) rfl (Nat.le_of_eq rfl) (Ls := #[rv x1, rv b1_0, iv 3, iv 2, rv x6])
  obtain ⟨rfl, M17, e17⟩ := Q17
  have N17 := Fr.app N14 M17
  refine Rch.go st17 ?_
  show Aw p e below _ T17 m 28 #[rv x1, rv b1_0, iv 3, iv 2, rv x6] [(.int 0)]
  refine Rch.go (fun t k => XS.ifYes X17.here hx rfl (pc0 := 28) (pc' := 34) rfl (hb hby d3_28) rfl (by decide) (by decide) (by decide) (XS.iinc X17.here hx rfl (hb hby d3_34) rfl (l' := #[rv x1, rv b1_0, iv 3, iv 3, rv x6]) rfl (XS.goto X17.here hx rfl (pc0 := 37) (pc' := 9) rfl (hb hby d3_37) (by decide) (by decide) (XS.iloadN X17.here hx rfl (hb hby d3_9) rfl  (XS.iloadN X17.here hx rfl (hb hby d3_10) rfl  (XS.icmpYes X17.here hx rfl (pc0 := 11) (pc' := 40) rfl (hb hby d3_11) rfl (by decide) (by decide) (by decide) (XS.aconstNull X17.here hx rfl (hb hby d3_40) k))))))) ?_
  show Aw p e below _ T17 m 41 #[rv x1, rv b1_0, iv 3, iv 3, rv x6] [.null]
  refine Rch.val X17 hx (t := (.object s1')) hret hlk rfl (Or.inr (Or.inr (Or.inr (Or.inr ⟨rfl, rfl, rfl⟩)))) (hb hby d3_41) (by decide) (by decide) ?_
  try rw [e17]
  exact ⟨rfl, N17, ((Keep.refl _ _).trans K1 all0)⟩
theorem ef_m82_length (m : MethodId) (x1 : Addr) : entryFrame m #[(.ref x1)] 1 = mkF m 0 #[rv x1] [] := by first | rfl | (simp [entryFrame, mkF, argsToLocals, Value.category]; done)
theorem m82_length (l : Launch) (Z : State) (a0 : Array Value) (hw : HW Z a0) (x1 x2 : Addr) (kk3 : ClassId) (y4 y5 y6 : Int32) (h0 : Heap) (n0 : Nat) (Z0 : n0 ≤ h0.size) (O0 : Old Z n0 h0) (P1 : Fld Z h0 x1 "java/lang/String" "value" "[B" (.ref x2)) (P2 : Arv Z h0 x2 kk3 .byte (2 : Int32) [(.int y4), (.int y5)] (.int 0)) (P3 : Exa Z h0 x1 "java/lang/String") (P4 : Sta Z Z.heap "java/lang/String" "COMPACT_STRINGS" "Z" (.int y6)) (P5 : ¬ (y6 = (0 : Int32))) (P6 : Fld Z h0 x1 "java/lang/String" "coder" "B" (.int 0)) :
    Ctr l Z [] (⟨"java/lang/String", "length", "()I"⟩ : MethodName) jdk_42_method_54_code 1 (some .int) #[(.ref x1)] h0 ({ frames := 1, cells := 0, slots := 0, locals := 13 } : Room) (fun v h L => v = some (.int 2) ∧ Fr n0 L ∧ h = h0) := by
  refine Ctr.of (plainFor_of_name pn_java_lang_String) (fun m => ef_m82_length m x1) ?_
  intro p e s m below meth c T0 hx hZ hby hml hown hnm hret hlk X0 e0
  have N0 := Fr.nil n0
  show Aw p e below _ T0 m 0 #[rv x1] []
  refine Rch.go (fun t k => XS.aloadN X0.here hx rfl (hb hby d7_0) rfl rfl k) ?_
  show Aw p e below _ T0 m 1 #[rv x1] [(.ref x1)]
  obtain ⟨T1, X1, e1, st1⟩ := getF X0 hx hZ hown (host := "") (Or.inl (wd_20 hw)) Via.refl e0 P1 (g := (mkF m 1 #[rv x1] [(.ref x1)])) rfl rfl (hb hby d7_1)
  refine Rch.go st1 ?_
  show Aw p e below _ T1 m 4 #[rv x1] [(.ref x2)]
  obtain ⟨c2, r2, q2, s2, u2, H2, G2⟩ := id P2
  refine Rch.go (fun t k => X1.arraylength hx (by rw [e1]; exact r2.1) (State.isArrayOf_alike hZ.alike r2.2.1) (g := (mkF m 4 #[rv x1] [(.ref x2)])) rfl rfl (hb hby d7_4) t (by rw [len_of s2 u2]; exact k)) ?_
  show Aw p e below _ T1 m 5 #[rv x1] [(.int 2)]
  refine Rch.go (fun t k => XS.aloadN X1.here hx rfl (hb hby d7_5) rfl rfl k) ?_
  show Aw p e below _ T1 m 6 #[rv x1] [(.ref x1), (.int 2)]
  obtain ⟨v3, T3, L3, X3, Q3, st3⟩ := callVi X1 hx hZ (m12_coder l Z a0 hw x1 y6 h0 n0 Z0 O0 P4 P5 P6) e1 hown (wd_62 hw) (wd_63 hw) (wd_65 hw) (notFace_of_selects (args := #[]) (mvT hZ (wd_65 hw))) (wd_64 hw) (wd_66 hw) (wd_2 hw) (by decide) (hb hby d7_6) 1 (by decide) (by decide) (by decide) (by decide) (by rw [hml]; rfl) x1 P3 [] [(.int 2)] rfl (lenOf pd_6 rfl) rfl (Nat.le_of_eq rfl) (Ls := #[rv x1])
  obtain ⟨rfl, M3, e3⟩ := Q3
  have N3 := Fr.app N0 M3
  refine Rch.go st3 ?_
  show Aw p e below _ T3 m 9 #[rv x1] [(.int 0), (.int 2)]
  refine Rch.go (fun t k => XS.ishr X3.here hx rfl (hb hby d7_9) rfl k) ?_
  show Aw p e below _ T3 m 10 #[rv x1] [(.int 2)]
  refine Rch.val X3 hx (t := .int) hret hlk rfl (mayI (by simp)) (hb hby d7_10) (by decide) (by decide) ?_
  try rw [e3]
  exact ⟨rfl, N3, rfl⟩
theorem ef_law_1 (m : MethodId) (p0 p1 p2 : Int32) : entryFrame m #[(.int p0), (.int p1), (.int p2)] maxLocals = mkF m 0 #[iv p0, iv p1, iv p2, uu, uu, uu, uu, uu] [] := by first | rfl | (simp [entryFrame, mkF, argsToLocals, Value.category, maxLocals]; done)
theorem law_1 (l : Launch) (Z : State) (a0 : Array Value) (hw : HW Z a0) (p0 p1 p2 : Int32) (ro0 ro1 ro2 ro3 ro4 ro5 ro6 ro7 ro8 ro9 : Addr) (ww10 : Int32) (ww11 : Value) (kk_ro0 kk_ro5 kk_ro7 kk_ro9 : ClassId) (h0 : Heap) (n0 : Nat) (Z0 : n0 ≤ h0.size) (O0 : Old Z n0 h0) (G : Olds Z ro0 ro1 ro2 ro3 ro4 ro5 ro6 ro7 ro8 ro9 ww10 ww11 kk_ro0 kk_ro5 kk_ro7 kk_ro9) :
    CtrJ l Z tables_1 x code maxLocals ret #[(.int p0), (.int p1), (.int p2)] h0 room_1 (fun vm => CHv Z EL0 vm h0) (fun v h L => v = some (.int 1) ∧ Fr n0 L) := by
  refine CtrJ.of (plainFor_of_name pn_com_example_knit_theories_knittheories_model_GatherOfPinLaw) (fun m => ef_law_1 m p0 p1 p2) ?_
  intro p e s vm0 m below meth c T0 hx hZ hby hml hown hnm hret hlk Y0 J0 X0 e0
  have N0 := Fr.nil n0
  have hret : meth.sig.returnType = some .boolean := hret
  show Aw p e below _ T0 m 0 #[iv p0, iv p1, iv p2, uu, uu, uu, uu, uu] []
  refine Rch.go (fun t k => XS.iloadN X0.here hx rfl (hb hby at_0) rfl  (XS.iconst X0.here hx rfl (hb hby at_1) (XS.iand X0.here hx rfl (hb hby at_2) rfl (XS.istoreN X0.here hx rfl (hb hby at_3) rfl  (l' := #[iv p0, iv p1, iv p2, .val (.int (p0 &&& (3 : Int32))), uu, uu, uu, uu]) rfl (XS.iloadN X0.here hx rfl (hb hby at_4) rfl  (XS.iconst X0.here hx rfl (hb hby at_5) k)))))) ?_
  show Aw p e below _ T0 m 6 #[iv p0, iv p1, iv p2, .val (.int (p0 &&& (3 : Int32))), uu, uu, uu, uu] [(.int 3), (.int (p0 &&& (3 : Int32)))]
  by_cases hf6 : (p0 &&& (3 : Int32)) = (3 : Int32)
  · show Aw p e below _ T0 m 6 #[iv p0, iv p1, iv p2, .val (.int (p0 &&& (3 : Int32))), uu, uu, uu, uu] [(.int 3), (.int (p0 &&& (3 : Int32)))]
    refine Rch.go (fun t k => XS.icmpNo X0.here hx rfl (hb hby at_6) rfl (XT.ii_ne_f hf6) (XS.aconstNull X0.here hx rfl (hb hby at_9) (XS.astore X0.here hx rfl (hb hby at_10) rfl rfl (l' := #[iv p0, iv p1, iv p2, .val (.int (p0 &&& (3 : Int32))), .val .null, uu, uu, uu]) rfl (XS.goto X0.here hx rfl (pc0 := 12) (pc' := 98) rfl (hb hby at_12) (by decide) (by decide) (XS.aload X0.here hx rfl (hb hby at_98) rfl rfl k))))) ?_
    show Aw p e below _ T0 m 100 #[iv p0, iv p1, iv p2, .val (.int (p0 &&& (3 : Int32))), .val .null, uu, uu, uu] [.null]
    obtain ⟨v1, T1, L1, X1, Q1, st1⟩ := callSt X0 hx hZ (m1_of l Z a0 hw ro0 kk_ro0 ro1 ro2 ro3 ro4 ro6 ro8 h0 n0 Z0 O0 G.1 G.2.2.2.2.2.2.2.2.2.2.2.2.2.2.2.2.2.2.2.2.2.2.1 G.2.1 G.2.2.2.2.2.2.2.2.1 G.2.2.2.2.2.2.2.2.2.1 G.2.2.2.2.2.2.2.2.2.2.2.1 G.2.2.2.2.2.2.2.2.2.2.2.2.1 G.2.2.2.2.2.2.2.2.2.2.2.2.2.2.1 G.2.2.2.2.2.2.2.2.2.2.2.2.2.2.2.1) e0 hown (wd_22 hw) (wd_23 hw) (wd_25 hw) (wd_24 hw) (by decide) (hb hby at_100) 0 (by decide) (by decide) (by decide) (by decide) (by rw [hml]; rfl) [.null] [] rfl (lenOf pd_3 rfl) rfl (Nat.le_of_eq rfl) (Ls := #[iv p0, iv p1, iv p2, .val (.int (p0 &&& (3 : Int32))), .val .null, uu, uu, uu])
    obtain ⟨rfl, M1, K1⟩ := Q1
    have N1 := Fr.app N0 M1
    refine Rch.go st1 ?_
    show Aw p e below _ T1 m 103 #[iv p0, iv p1, iv p2, .val (.int (p0 &&& (3 : Int32))), .val .null, uu, uu, uu] [.null]
    refine Rch.go (fun t k => XS.astore X1.here hx rfl (hb hby at_103) rfl rfl (l' := #[iv p0, iv p1, iv p2, .val (.int (p0 &&& (3 : Int32))), .val .null, .val .null, uu, uu]) rfl (XS.aconstNull X1.here hx rfl (hb hby at_105) (XS.astore X1.here hx rfl (hb hby at_106) rfl rfl (l' := #[iv p0, iv p1, iv p2, .val (.int (p0 &&& (3 : Int32))), .val .null, .val .null, .val .null, uu]) rfl (XS.aload X1.here hx rfl (hb hby at_108) rfl rfl (XS.ifnullYes X1.here hx rfl (pc0 := 110) (pc' := 172) rfl (hb hby at_110) rfl (by decide) (by decide) (XS.aload X1.here hx rfl (hb hby at_172) rfl rfl (XS.aload X1.here hx rfl (hb hby at_174) rfl rfl (acmp X1 hx rfl (x := .null) (y := .null) rfl rfl (pc0 := 176) (pc' := 179) (same := true) rfl (hb hby at_176) rfl (decide_eq_true rfl) (by decide) (by decide) (XS.iconst X1.here hx rfl (hb hby at_179) (XS.goto X1.here hx rfl (pc0 := 180) (pc' := 184) rfl (hb hby at_180) (by decide) (by decide) k)))))))))) ?_
    show Aw p e below _ T1 m 184 #[iv p0, iv p1, iv p2, .val (.int (p0 &&& (3 : Int32))), .val .null, .val .null, .val .null, uu] [(.int 1)]
    refine Rch.valW X1 hx Y0 rfl (Nat.le_trans (Nat.le_refl _) K1.1) (t := .boolean) hret hlk rfl (mayI (by simp)) (hb hby at_184) (by decide) (by decide) ?_
    exact ⟨rfl, N1⟩
  · show Aw p e below _ T0 m 6 #[iv p0, iv p1, iv p2, .val (.int (p0 &&& (3 : Int32))), uu, uu, uu, uu] [(.int 3), (.int (p0 &&& (3 : Int32)))]
    refine Rch.go (fun t k => XS.icmpYes X0.here hx rfl (pc0 := 6) (pc' := 15) rfl (hb hby at_6) rfl (XT.ii_ne_t hf6) (by decide) (by decide) (XS.iloadN X0.here hx rfl (hb hby at_15) rfl  k)) ?_
    show Aw p e below _ T0 m 16 #[iv p0, iv p1, iv p2, .val (.int (p0 &&& (3 : Int32))), uu, uu, uu, uu] [(.int (p0 &&& (3 : Int32)))]
    by_cases hf16 : (p0 &&& (3 : Int32)) = (0 : Int32)
    · show Aw p e below _ T0 m 16 #[iv p0, iv p1, iv p2, .val (.int (p0 &&& (3 : Int32))), uu, uu, uu, uu] [(.int (p0 &&& (3 : Int32)))]
      refine Rch.go (fun t k => XS.ifNo X0.here hx rfl (hb hby at_16) rfl (XT.i0_ne_f hf16) k) ?_
      show Aw p e below _ T0 m 19 #[iv p0, iv p1, iv p2, .val (.int (p0 &&& (3 : Int32))), uu, uu, uu, uu] []
      obtain ⟨T2, h2, X2, e2, E2, A2, D2, -, st2⟩ := newO X0 hx hZ hown (wd_0 hw) (wd_1 hw) (wd_2 hw) e0 (g := (mkF m 19 #[iv p0, iv p1, iv p2, .val (.int (p0 &&& (3 : Int32))), uu, uu, uu, uu] [])) rfl (hb hby at_19) (by decide) (by decide)
      obtain ⟨b2, g2⟩ : ∃ z, z = h0.size := ⟨_, rfl⟩
      rw [← g2] at A2 D2 st2
      refine Rch.go st2 ?_
      have g_b2 : n0 ≤ b2 := Nat.le_trans Z0 (Nat.le_of_eq g2.symm)
      have F2_value : Fld Z h2 b2 "java/lang/String" "value" "[B" .null := (D2 (Or.inr (wd_16 hw)) (ty := (.array .byte)) (by decide))
      have F2_coder : Fld Z h2 b2 "java/lang/String" "coder" "B" (.int 0) := (D2 (Or.inr (wd_17 hw)) (ty := .byte) (by decide))
      show Aw p e below _ T2 m 22 #[iv p0, iv p1, iv p2, .val (.int (p0 &&& (3 : Int32))), uu, uu, uu, uu] [(.ref b2)]
      refine Rch.go (fun t k => XS.dup X2.here hx rfl (hb hby at_22) rfl rfl (XS.iconst X2.here hx rfl (hb hby at_23) k)) ?_
      show Aw p e below _ T2 m 24 #[iv p0, iv p1, iv p2, .val (.int (p0 &&& (3 : Int32))), uu, uu, uu, uu] [(.int 0), (.ref b2), (.ref b2)]
      obtain ⟨T3, h3, k3, X3, e3, E3, A3, B3, st3⟩ := newPE (aty := .char) X2 hx hZ (wd_3 hw) e2 (g := (mkF m 24 #[iv p0, iv p1, iv p2, .val (.int (p0 &&& (3 : Int32))), uu, uu, uu, uu] [(.int 0), (.ref b2), (.ref b2)])) rfl (hb hby at_24) rfl (by decide) (cap := 0) (by decide) (by decide) (by decide) (by decide) (ad := "[C") (by decide +kernel)
      obtain ⟨b3, g3⟩ : ∃ z, z = h2.size := ⟨_, rfl⟩
      rw [← g3] at A3 B3 st3
      refine Rch.go st3 ?_
      have z4 := (Nat.le_trans Z0 E2.1)
      have g_b3 : n0 ≤ b3 := Nat.le_trans z4 (Nat.le_of_eq g3.symm)
      have V3 : Arv Z h3 b3 k3 .char (0 : Int32) [] (.int 0) := (Arv.new A3 (by decide)).pad (pad_rep [] (.int 0) 0)
      show Aw p e below _ T3 m 26 #[iv p0, iv p1, iv p2, .val (.int (p0 &&& (3 : Int32))), uu, uu, uu, uu] [(.ref b3), (.ref b2), (.ref b2)]
      have js5 : JS Z h3 b2 vm0 := ⟨((J0.ext E2).ext E3), (Safe.ext E3 (J0.ext E2) (Safe.ext E2 J0 (Safe.new (Nat.le_of_eq g2.symm))))⟩
      have f6 := (A2.ext E3)
      have f7 := (F2_value.ext E3)
      have f8 := (F2_coder.ext E3)
      have z9 := (Nat.le_trans z4 E3.1)
      have o10 := ((O0.ext E2).ext E3)
      obtain ⟨v11, T11, L11, X11, Q11, Y11, hZ11, hown11, st11⟩ := callSpJ X3 hx hZ Y0 (Nat.le_trans (Nat.le_trans (Nat.le_refl _) E2.1) E3.1) (estr1 l Z a0 hw b2 b3 k3 .null (.int 0) h3 n0 z9 o10 f6 f7 f8 g_b2 V3) e3 (own_js (wd_14 hw) hZ f6.lt js5) hown rfl (wd_4 hw) (wd_5 hw) (wd_6 hw) (wd_2 hw) (by decide) (hb hby at_26) 1 (by decide) (by decide) (by decide) (by decide) (by rw [hml]; rfl) b2 [(.ref b3)] [(.ref b2)] rfl (lenOf pd_4 rfl) rfl (Nat.le_of_eq rfl) (Ls := #[iv p0, iv p1, iv p2, .val (.int (p0 &&& (3 : Int32))), uu, uu, uu, uu])
      obtain ⟨b11, k11, rfl, M11, K11, F11, G11, R11, l11⟩ := Q11
      have N11 := Fr.app N0 M11
      refine Rch.go st11 ?_
      show Aw p e below _ T11 m 29 #[iv p0, iv p1, iv p2, .val (.int (p0 &&& (3 : Int32))), uu, uu, uu, uu] [(.ref b2)]
      refine Rch.go (fun t k => XS.astore X11.here hx rfl (hb hby at_29) rfl rfl (l' := #[iv p0, iv p1, iv p2, .val (.int (p0 &&& (3 : Int32))), rv b2, uu, uu, uu]) rfl (XS.goto X11.here hx rfl (pc0 := 31) (pc' := 98) rfl (hb hby at_31) (by decide) (by decide) (XS.aload X11.here hx rfl (hb hby at_98) rfl rfl k))) ?_
      show Aw p e below _ T11 m 100 #[iv p0, iv p1, iv p2, .val (.int (p0 &&& (3 : Int32))), rv b2, uu, uu, uu] [(.ref b2)]
      have lt12 := (G.2.2.2.2.2.2.2.2.2.1.ext O0.2).lt
      have ne13 : ro4 ≠ b2 := Nat.ne_of_lt (Nat.lt_of_lt_of_le lt12 (Nat.le_of_eq g2.symm))
      have f14 := (f6.keep K11)
      have lt15 := (G.2.2.2.2.2.2.2.2.2.2.2.2.1.ext O0.2).lt
      have ne16 : ro6 ≠ b2 := Nat.ne_of_lt (Nat.lt_of_lt_of_le lt15 (Nat.le_of_eq g2.symm))
      have lt17 := (G.2.2.2.2.2.2.2.2.2.2.2.2.2.2.2.1.ext O0.2).lt
      have ne18 : ro8 ≠ b2 := Nat.ne_of_lt (Nat.lt_of_lt_of_le lt17 (Nat.le_of_eq g2.symm))
      have z19 := (Nat.le_trans z9 K11.1)
      have o20 := (o10.keep K11 (allS g_b2 all0))
      obtain ⟨v21, T21, L21, X21, Q21, st21⟩ := callSt X11 hx hZ11 (m4_of l Z a0 hw b2 ro0 kk_ro0 ro1 ro2 ro3 ro4 ww10 ro5 b11 kk_ro5 k11 ro6 ro7 kk_ro7 ro8 ro9 kk_ro9 T11.heap n0 z19 o20 G.1 G.2.2.2.2.2.2.2.2.2.2.2.2.2.2.2.2.2.2.2.2.2.2.1 G.2.1 G.2.2.2.2.2.2.2.2.1 G.2.2.2.2.2.2.2.2.2.1 ne13 f14 G.2.2.2.2.2.2.2.2.2.2.2.2.2.2.2.2.2.2.2.2.1 G.2.2.2.2.2.2.2.2.2.2.2.2.2.2.2.2.2.2.2.2.2.2.2.2.2.2.1 G.2.2.2.2.2.2.2.2.2.2.2.2.2.2.2.2.2.1 G11 G.2.2.2.2.2.2.2.2.2.2.1 F11 G.2.2.2.2.2.2.2.2.2.2.2.2.2.2.2.2.2.2.2.2.2.2.2.1 R11 G.2.2.2.2.2.2.2.2.2.2.2.1 G.2.2.2.2.2.2.2.2.2.2.2.2.1 ne16 G.2.2.2.2.2.2.2.2.2.2.2.2.2.2.2.2.2.2.1 G.2.2.2.2.2.2.2.2.2.2.2.2.2.1 G.2.2.2.2.2.2.2.2.2.2.2.2.2.2.2.2.2.2.2.2.2.2.2.2.1 G.2.2.2.2.2.2.2.2.2.2.2.2.2.2.1 G.2.2.2.2.2.2.2.2.2.2.2.2.2.2.2.1 ne18 G.2.2.2.2.2.2.2.2.2.2.2.2.2.2.2.2.2.2.2.1 G.2.2.2.2.2.2.2.2.2.2.2.2.2.2.2.2.1 G.2.2.2.2.2.2.2.2.2.2.2.2.2.2.2.2.2.2.2.2.2.2.2.2.2.1) rfl hown11 (wd_22 hw) (wd_23 hw) (wd_25 hw) (wd_24 hw) (by decide) (hb hby at_100) 0 (by decide) (by decide) (by decide) (by decide) (by rw [hml]; rfl) [(.ref b2)] [] rfl (lenOf pd_3 rfl) rfl (Nat.le_of_eq rfl) (Ls := #[iv p0, iv p1, iv p2, .val (.int (p0 &&& (3 : Int32))), rv b2, uu, uu, uu])
      obtain ⟨rfl, M21, K21⟩ := Q21
      have N21 := Fr.app N11 M21
      refine Rch.go st21 ?_
      show Aw p e below _ T21 m 103 #[iv p0, iv p1, iv p2, .val (.int (p0 &&& (3 : Int32))), rv b2, uu, uu, uu] [.null]
      refine Rch.go (fun t k => XS.astore X21.here hx rfl (hb hby at_103) rfl rfl (l' := #[iv p0, iv p1, iv p2, .val (.int (p0 &&& (3 : Int32))), rv b2, .val .null, uu, uu]) rfl (XS.aconstNull X21.here hx rfl (hb hby at_105) (XS.astore X21.here hx rfl (hb hby at_106) rfl rfl (l' := #[iv p0, iv p1, iv p2, .val (.int (p0 &&& (3 : Int32))), rv b2, .val .null, .val .null, uu]) rfl (XS.aload X21.here hx rfl (hb hby at_108) rfl rfl (XS.ifnullNo X21.here hx rfl (hb hby at_110) rfl (XS.aload X21.here hx rfl (hb hby at_113) rfl rfl k)))))) ?_
      show Aw p e below _ T21 m 115 #[iv p0, iv p1, iv p2, .val (.int (p0 &&& (3 : Int32))), rv b2, .val .null, .val .null, uu] [(.ref b2)]
      have f22 := (F11.keep K21 nin0)
      have f23 := (R11.keep K21 nin0)
      have f24 := (f14.keep K21)
      have f25 := (G11.keep K21 nin0)
      have z26 := (Nat.le_trans z19 K21.1)
      have o27 := (o20.keep K21 all0)
      obtain ⟨v28, T28, L28, X28, Q28, st28⟩ := callVi X21 hx hZ11 (m11_length l Z a0 hw b2 b11 k11 ww10 T21.heap n0 z26 o27 f22 f23 f24 G.2.2.2.2.2.2.2.2.2.2.2.2.2.2.2.2.2.2.2.2.1 G.2.2.2.2.2.2.2.2.2.2.2.2.2.2.2.2.2.2.2.2.2.2.2.2.2.2.1 f25) rfl hown11 (wd_57 hw) (wd_58 hw) (wd_60 hw) (notFace_of_selects (args := #[]) (mvT hZ11 (wd_60 hw))) (wd_59 hw) (wd_61 hw) (wd_2 hw) (by decide) (hb hby at_115) 0 (by decide) (by decide) (by decide) (by decide) (by rw [hml]; rfl) b2 f24 [] [] rfl (lenOf pd_7 rfl) rfl (Nat.le_of_eq rfl) (Ls := #[iv p0, iv p1, iv p2, .val (.int (p0 &&& (3 : Int32))), rv b2, .val .null, .val .null, uu])
      obtain ⟨rfl, M28, e28⟩ := Q28
      have N28 := Fr.app N21 M28
      refine Rch.go st28 ?_
      show Aw p e below _ T28 m 118 #[iv p0, iv p1, iv p2, .val (.int (p0 &&& (3 : Int32))), rv b2, .val .null, .val .null, uu] [(.int 0)]
      refine Rch.go (fun t k => XS.iconst X28.here hx rfl (hb hby at_118) (XS.icmpYes X28.here hx rfl (pc0 := 119) (pc' := 172) rfl (hb hby at_119) rfl (by decide) (by decide) (by decide) (XS.aload X28.here hx rfl (hb hby at_172) rfl rfl (XS.aload X28.here hx rfl (hb hby at_174) rfl rfl (acmp X28 hx rfl (x := .null) (y := .null) rfl rfl (pc0 := 176) (pc' := 179) (same := true) rfl (hb hby at_176) rfl (decide_eq_true rfl) (by decide) (by decide) (XS.iconst X28.here hx rfl (hb hby at_179) (XS.goto X28.here hx rfl (pc0 := 180) (pc' := 184) rfl (hb hby at_180) (by decide) (by decide) k))))))) ?_
      show Aw p e below _ T28 m 184 #[iv p0, iv p1, iv p2, .val (.int (p0 &&& (3 : Int32))), rv b2, .val .null, .val .null, uu] [(.int 1)]
      refine Rch.valW X28 hx Y11 e28 (Nat.le_trans (Nat.le_refl _) K21.1) (t := .boolean) hret hlk rfl (mayI (by simp)) (hb hby at_184) (by decide) (by decide) ?_
      exact ⟨rfl, N28⟩
    · show Aw p e below _ T0 m 16 #[iv p0, iv p1, iv p2, .val (.int (p0 &&& (3 : Int32))), uu, uu, uu, uu] [(.int (p0 &&& (3 : Int32)))]
      refine Rch.go (fun t k => XS.ifYes X0.here hx rfl (pc0 := 16) (pc' := 34) rfl (hb hby at_16) rfl (XT.i0_ne_t hf16) (by decide) (by decide) (XS.iloadN X0.here hx rfl (hb hby at_34) rfl  (XS.iconst X0.here hx rfl (hb hby at_35) k))) ?_
      show Aw p e below _ T0 m 36 #[iv p0, iv p1, iv p2, .val (.int (p0 &&& (3 : Int32))), uu, uu, uu, uu] [(.int 1), (.int (p0 &&& (3 : Int32)))]
      by_cases hf36 : (p0 &&& (3 : Int32)) = (1 : Int32)
      · show Aw p e below _ T0 m 36 #[iv p0, iv p1, iv p2, .val (.int (p0 &&& (3 : Int32))), uu, uu, uu, uu] [(.int 1), (.int (p0 &&& (3 : Int32)))]
        refine Rch.go (fun t k => XS.icmpNo X0.here hx rfl (hb hby at_36) rfl (XT.ii_ne_f hf36) (XS.iconst X0.here hx rfl (hb hby at_39) k)) ?_
        show Aw p e below _ T0 m 40 #[iv p0, iv p1, iv p2, .val (.int (p0 &&& (3 : Int32))), uu, uu, uu, uu] [(.int 1)]
        obtain ⟨T29, h29, k29, X29, e29, E29, A29, B29, st29⟩ := newPE (aty := .char) X0 hx hZ (wd_3 hw) e0 (g := (mkF m 40 #[iv p0, iv p1, iv p2, .val (.int (p0 &&& (3 : Int32))), uu, uu, uu, uu] [(.int 1)])) rfl (hb hby at_40) rfl (by decide) (cap := 1) (by decide) (by decide) (by decide) (by decide) (ad := "[C") (by decide +kernel)
        obtain ⟨b29, g29⟩ : ∃ z, z = h0.size := ⟨_, rfl⟩
        rw [← g29] at A29 B29 st29
        refine Rch.go st29 ?_
        have g_b29 : n0 ≤ b29 := Nat.le_trans Z0 (Nat.le_of_eq g29.symm)
        have V29 : Arv Z h29 b29 k29 .char (1 : Int32) [(.int 0)] (.int 0) := (Arv.new A29 (by decide)).pad (pad_rep [] (.int 0) 1)
        show Aw p e below _ T29 m 42 #[iv p0, iv p1, iv p2, .val (.int (p0 &&& (3 : Int32))), uu, uu, uu, uu] [(.ref b29)]
        refine Rch.go (fun t k => XS.astore X29.here hx rfl (hb hby at_42) rfl rfl (l' := #[iv p0, iv p1, iv p2, .val (.int (p0 &&& (3 : Int32))), uu, rv b29, uu, uu]) rfl (XS.aload X29.here hx rfl (hb hby at_44) rfl rfl (XS.iconst X29.here hx rfl (hb hby at_46) (XS.iloadN X29.here hx rfl (hb hby at_47) rfl  k)))) ?_
        show Aw p e below _ T29 m 48 #[iv p0, iv p1, iv p2, .val (.int (p0 &&& (3 : Int32))), uu, rv b29, uu, uu] [(.int p1), (.int 0), (.ref b29)]
        have z30 := (Nat.le_trans Z0 E29.1)
        have o31 := (O0.ext E29)
        obtain ⟨v32, T32, L32, X32, Q32, st32⟩ := callSt X29 hx hZ (pick l Z a0 hw p1 h29 n0 z30 o31) e29 hown (wd_67 hw) (wd_68 hw) (wd_70 hw) (wd_69 hw) (by decide) (hb hby at_48) 2 (by decide) (by decide) (by decide) (by decide) (by rw [hml]; rfl) [(.int p1)] [(.int 0), (.ref b29)] rfl (lenOf pd_8 rfl) rfl (Nat.le_of_eq rfl) (Ls := #[iv p0, iv p1, iv p2, .val (.int (p0 &&& (3 : Int32))), uu, rv b29, uu, uu])
        obtain ⟨ch32, rfl, hn32, hl32, hg32, M32, e32⟩ := Q32
        have N32 := Fr.app N0 M32
        refine Rch.go st32 ?_
        show Aw p e below _ T32 m 51 #[iv p0, iv p1, iv p2, .val (.int (p0 &&& (3 : Int32))), uu, rv b29, uu, uu] [(.int ch32), (.int 0), (.ref b29)]
        rcases own_four ch32 with rfl | rfl | rfl | ⟨ha32, hb32, hc32⟩
        · show Aw p e below _ T32 m 51 #[iv p0, iv p1, iv p2, .val (.int (p0 &&& (3 : Int32))), uu, rv b29, uu, uu] [(.int 69), (.int 0), (.ref b29)]
          obtain ⟨c33, r33, q33, s33, u33, H33, G33⟩ := id V29
          obtain ⟨T34, h34, X34, e34, W34, st34⟩ := stC X32 hx hZ e32 r33 (j := (0 : Int32)) (inb_of s33 (by decide)) (g := (mkF m 51 #[iv p0, iv p1, iv p2, .val (.int (p0 &&& (3 : Int32))), uu, rv b29, uu, uu] [(.int 69), (.int 0), (.ref b29)])) rfl rfl (hb hby at_51)
          refine Rch.go st34 ?_
          have V34 : Arv Z h34 b29 k29 .char (1 : Int32) [(.int 69)] (.int 0) := Arv.set r33 q33 s33 u33 H33 G33 (fits_nar_char _) W34 0 rfl (Nat.le_of_ble_eq_true rfl)
          have N34 := Fr.snoc X34 N32 g_b29
          show Aw p e below _ T34 m 52 #[iv p0, iv p1, iv p2, .val (.int (p0 &&& (3 : Int32))), uu, rv b29, uu, uu] []
          obtain ⟨T35, h35, X35, e35, E35, A35, D35, -, st35⟩ := newO X34 hx hZ hown (wd_0 hw) (wd_1 hw) (wd_2 hw) e34 (g := (mkF m 52 #[iv p0, iv p1, iv p2, .val (.int (p0 &&& (3 : Int32))), uu, rv b29, uu, uu] [])) rfl (hb hby at_52) (by decide) (by decide)
          obtain ⟨b35, g35⟩ : ∃ z, z = h34.size := ⟨_, rfl⟩
          rw [← g35] at A35 D35 st35
          refine Rch.go st35 ?_
          have z36 := (Nat.le_trans z30 (Nat.le_of_eq W34.size.symm))
          have g_b35 : n0 ≤ b35 := Nat.le_trans z36 (Nat.le_of_eq g35.symm)
          have F35_value : Fld Z h35 b35 "java/lang/String" "value" "[B" .null := (D35 (Or.inr (wd_16 hw)) (ty := (.array .byte)) (by decide))
          have F35_coder : Fld Z h35 b35 "java/lang/String" "coder" "B" (.int 0) := (D35 (Or.inr (wd_17 hw)) (ty := .byte) (by decide))
          show Aw p e below _ T35 m 55 #[iv p0, iv p1, iv p2, .val (.int (p0 &&& (3 : Int32))), uu, rv b29, uu, uu] [(.ref b35)]
          refine Rch.go (fun t k => XS.dup X35.here hx rfl (hb hby at_55) rfl rfl (XS.aload X35.here hx rfl (hb hby at_56) rfl rfl k)) ?_
          show Aw p e below _ T35 m 58 #[iv p0, iv p1, iv p2, .val (.int (p0 &&& (3 : Int32))), uu, rv b29, uu, uu] [(.ref b29), (.ref b35), (.ref b35)]
          have f37 := (V34.ext E35)
          have z38 := (Nat.le_trans z36 E35.1)
          have o39 := ((o31.wr W34 g_b29).ext E35)
          obtain ⟨v40, T40, L40, X40, Q40, st40⟩ := callSp X35 hx hZ (m13_init l Z a0 hw b35 b29 k29 ww10 h35 n0 z38 o39 f37 G.2.2.2.2.2.2.2.2.2.2.2.2.2.2.2.2.2.2.2.2.1 G.2.2.2.2.2.2.2.2.2.2.2.2.2.2.2.2.2.2.2.2.2.2.2.2.2.2.1 A35 F35_coder g_b35 F35_value) e35 hown rfl (wd_4 hw) (wd_5 hw) (wd_6 hw) (wd_2 hw) (by decide) (hb hby at_58) 1 (by decide) (by decide) (by decide) (by decide) (by rw [hml]; rfl) b35 [(.ref b29)] [(.ref b35)] rfl (lenOf pd_4 rfl) rfl (Nat.le_of_eq rfl) (Ls := #[iv p0, iv p1, iv p2, .val (.int (p0 &&& (3 : Int32))), uu, rv b29, uu, uu])
          obtain ⟨b40_0, k40_0, rfl, M40, K40, zz40_0, F40_0, F40_1, F40_2, F40_3⟩ := Q40
          have N40 := Fr.app N34 M40
          refine Rch.go st40 ?_
          have g_b40_0 : n0 ≤ b40_0 := Nat.le_trans z38 zz40_0
          show Aw p e below _ T40 m 61 #[iv p0, iv p1, iv p2, .val (.int (p0 &&& (3 : Int32))), uu, rv b29, uu, uu] [(.ref b35)]
          refine Rch.go (fun t k => XS.astore X40.here hx rfl (hb hby at_61) rfl rfl (l' := #[iv p0, iv p1, iv p2, .val (.int (p0 &&& (3 : Int32))), rv b35, rv b29, uu, uu]) rfl (XS.goto X40.here hx rfl (pc0 := 63) (pc' := 98) rfl (hb hby at_63) (by decide) (by decide) (XS.aload X40.here hx rfl (hb hby at_98) rfl rfl k))) ?_
          show Aw p e below _ T40 m 100 #[iv p0, iv p1, iv p2, .val (.int (p0 &&& (3 : Int32))), rv b35, rv b29, uu, uu] [(.ref b35)]
          have lt41 := (Nat.lt_of_lt_of_le (Nat.lt_of_lt_of_le (G.2.2.2.2.2.2.2.2.2.1.ext O0.2).lt E29.1) (Nat.le_of_eq W34.size.symm))
          have ne42 : ro4 ≠ b35 := Nat.ne_of_lt (Nat.lt_of_lt_of_le lt41 (Nat.le_of_eq g35.symm))
          have f43 := (A35.keep K40)
          have lt44 := (Nat.lt_of_lt_of_le (Nat.lt_of_lt_of_le (G.2.2.2.2.2.2.2.2.2.2.2.2.1.ext O0.2).lt E29.1) (Nat.le_of_eq W34.size.symm))
          have ne45 : ro6 ≠ b35 := Nat.ne_of_lt (Nat.lt_of_lt_of_le lt44 (Nat.le_of_eq g35.symm))
          have lt46 := (Nat.lt_of_lt_of_le (Nat.lt_of_lt_of_le (G.2.2.2.2.2.2.2.2.2.2.2.2.2.2.2.1.ext O0.2).lt E29.1) (Nat.le_of_eq W34.size.symm))
          have ne47 : ro8 ≠ b35 := Nat.ne_of_lt (Nat.lt_of_lt_of_le lt46 (Nat.le_of_eq g35.symm))
          have z48 := (Nat.le_trans z38 K40.1)
          have o49 := (o39.keep K40 (allS g_b35 all0))
          obtain ⟨v50, T50, L50, X50, Q50, st50⟩ := callSt X40 hx hZ (m18_of l Z a0 hw b35 ro0 kk_ro0 ro1 ro2 ro3 ro4 ww10 ro5 b40_0 kk_ro5 k40_0 T40.heap n0 z48 o49 G.1 G.2.2.2.2.2.2.2.2.2.2.2.2.2.2.2.2.2.2.2.2.2.2.1 G.2.1 G.2.2.2.2.2.2.2.2.1 G.2.2.2.2.2.2.2.2.2.1 ne42 f43 G.2.2.2.2.2.2.2.2.2.2.2.2.2.2.2.2.2.2.2.2.1 G.2.2.2.2.2.2.2.2.2.2.2.2.2.2.2.2.2.2.2.2.2.2.2.2.2.2.1 G.2.2.2.2.2.2.2.2.2.2.2.2.2.2.2.2.2.1 F40_2 G.2.2.2.2.2.2.2.2.2.2.1 F40_3 G.2.2.2.2.2.2.2.2.2.2.2.2.2.2.2.2.2.2.2.2.2.2.2.1 F40_1) rfl hown (wd_22 hw) (wd_23 hw) (wd_25 hw) (wd_24 hw) (by decide) (hb hby at_100) 0 (by decide) (by decide) (by decide) (by decide) (by rw [hml]; rfl) [(.ref b35)] [] rfl (lenOf pd_3 rfl) rfl (Nat.le_of_eq rfl) (Ls := #[iv p0, iv p1, iv p2, .val (.int (p0 &&& (3 : Int32))), rv b35, rv b29, uu, uu])
          obtain ⟨rfl, M50, K50⟩ := Q50
          have N50 := Fr.app N40 M50
          refine Rch.go st50 ?_
          show Aw p e below _ T50 m 103 #[iv p0, iv p1, iv p2, .val (.int (p0 &&& (3 : Int32))), rv b35, rv b29, uu, uu] [(.ref ro1)]
          refine Rch.go (fun t k => XS.astore X50.here hx rfl (hb hby at_103) rfl rfl (l' := #[iv p0, iv p1, iv p2, .val (.int (p0 &&& (3 : Int32))), rv b35, rv ro1, uu, uu]) rfl (XS.aconstNull X50.here hx rfl (hb hby at_105) (XS.astore X50.here hx rfl (hb hby at_106) rfl rfl (l' := #[iv p0, iv p1, iv p2, .val (.int (p0 &&& (3 : Int32))), rv b35, rv ro1, .val .null, uu]) rfl (XS.aload X50.here hx rfl (hb hby at_108) rfl rfl (XS.ifnullNo X50.here hx rfl (hb hby at_110) rfl (XS.aload X50.here hx rfl (hb hby at_113) rfl rfl k)))))) ?_
          show Aw p e below _ T50 m 115 #[iv p0, iv p1, iv p2, .val (.int (p0 &&& (3 : Int32))), rv b35, rv ro1, .val .null, uu] [(.ref b35)]
          have f51 := (F40_3.keep K50 nin0)
          have f52 := (F40_1.keep K50 nin0)
          have f53 := (f43.keep K50)
          have f54 := (F40_2.keep K50 nin0)
          have z55 := (Nat.le_trans z48 K50.1)
          have o56 := (o49.keep K50 all0)
          obtain ⟨v57, T57, L57, X57, Q57, st57⟩ := callVi X50 hx hZ (m21_length l Z a0 hw b35 b40_0 k40_0 ww10 T50.heap n0 z55 o56 f51 f52 f53 G.2.2.2.2.2.2.2.2.2.2.2.2.2.2.2.2.2.2.2.2.1 G.2.2.2.2.2.2.2.2.2.2.2.2.2.2.2.2.2.2.2.2.2.2.2.2.2.2.1 f54) rfl hown (wd_57 hw) (wd_58 hw) (wd_60 hw) (notFace_of_selects (args := #[]) (mvT hZ (wd_60 hw))) (wd_59 hw) (wd_61 hw) (wd_2 hw) (by decide) (hb hby at_115) 0 (by decide) (by decide) (by decide) (by decide) (by rw [hml]; rfl) b35 f53 [] [] rfl (lenOf pd_7 rfl) rfl (Nat.le_of_eq rfl) (Ls := #[iv p0, iv p1, iv p2, .val (.int (p0 &&& (3 : Int32))), rv b35, rv ro1, .val .null, uu])
          obtain ⟨rfl, M57, e57⟩ := Q57
          have N57 := Fr.app N50 M57
          refine Rch.go st57 ?_
          show Aw p e below _ T57 m 118 #[iv p0, iv p1, iv p2, .val (.int (p0 &&& (3 : Int32))), rv b35, rv ro1, .val .null, uu] [(.int 1)]
          refine Rch.go (fun t k => XS.iconst X57.here hx rfl (hb hby at_118) (XS.icmpNo X57.here hx rfl (hb hby at_119) rfl (by decide) (XS.aload X57.here hx rfl (hb hby at_122) rfl rfl (XS.iconst X57.here hx rfl (hb hby at_124) k)))) ?_
          show Aw p e below _ T57 m 125 #[iv p0, iv p1, iv p2, .val (.int (p0 &&& (3 : Int32))), rv b35, rv ro1, .val .null, uu] [(.int 0), (.ref b35)]
          obtain ⟨v58, T58, L58, X58, Q58, st58⟩ := callVi X57 hx hZ (m22_charAt l Z a0 hw b35 ww10 b40_0 k40_0 ww11 T50.heap n0 z55 o56 f53 G.2.2.2.2.2.2.2.2.2.2.2.2.2.2.2.2.2.2.2.2.1 G.2.2.2.2.2.2.2.2.2.2.2.2.2.2.2.2.2.2.2.2.2.2.2.2.2.2.1 f54 f51 f52 G.2.2.2.2.2.2.2.2.2.2.2.2.2.2.2.2.2.2.2.2.2.2.2.2.2.2.2 G.2.2.2.2.2.2.2.2.2.2.2.2.2.2.2.2.2.2.2.2.2.1) e57 hown (wd_81 hw) (wd_82 hw) (wd_84 hw) (notFace_of_selects (args := #[]) (mvT hZ (wd_84 hw))) (wd_83 hw) (wd_85 hw) (wd_2 hw) (by decide) (hb hby at_125) 0 (by decide) (by decide) (by decide) (by decide) (by rw [hml]; rfl) b35 f53 [(.int 0)] [] rfl (lenOf pd_8 rfl) rfl (Nat.le_of_eq rfl) (Ls := #[iv p0, iv p1, iv p2, .val (.int (p0 &&& (3 : Int32))), rv b35, rv ro1, .val .null, uu])
          obtain ⟨rfl, M58, e58⟩ := Q58
          have N58 := Fr.app N57 M58
          refine Rch.go st58 ?_
          show Aw p e below _ T58 m 128 #[iv p0, iv p1, iv p2, .val (.int (p0 &&& (3 : Int32))), rv b35, rv ro1, .val .null, uu] [(.int 69)]
          refine Rch.go (fun t k => XS.istore X58.here hx rfl (hb hby at_128) rfl  (l' := #[iv p0, iv p1, iv p2, .val (.int (p0 &&& (3 : Int32))), rv b35, rv ro1, .val .null, iv 69]) rfl (XS.iload X58.here hx rfl (hb hby at_130) rfl  (XS.bipush X58.here hx rfl (hb hby at_132) (XS.icmpNo X58.here hx rfl (hb hby at_134) rfl (by decide) k)))) ?_
          show Aw p e below _ T58 m 137 #[iv p0, iv p1, iv p2, .val (.int (p0 &&& (3 : Int32))), rv b35, rv ro1, .val .null, iv 69] []
          obtain ⟨T59, X59, e59, st59⟩ := getS2 X58 hx hZ hown (host := "") (Or.inl (wd_103 hw)) Via.refl e58 (G.2.2.1.ext o56.2) (g := (mkF m 137 #[iv p0, iv p1, iv p2, .val (.int (p0 &&& (3 : Int32))), rv b35, rv ro1, .val .null, iv 69] [])) rfl (hb hby at_137)
          refine Rch.go st59 ?_
          show Aw p e below _ T59 m 140 #[iv p0, iv p1, iv p2, .val (.int (p0 &&& (3 : Int32))), rv b35, rv ro1, .val .null, iv 69] [(.ref ro1)]
          refine Rch.go (fun t k => XS.astore X59.here hx rfl (hb hby at_140) rfl rfl (l' := #[iv p0, iv p1, iv p2, .val (.int (p0 &&& (3 : Int32))), rv b35, rv ro1, rv ro1, iv 69]) rfl (XS.goto X59.here hx rfl (pc0 := 142) (pc' := 172) rfl (hb hby at_142) (by decide) (by decide) (XS.aload X59.here hx rfl (hb hby at_172) rfl rfl (XS.aload X59.here hx rfl (hb hby at_174) rfl rfl (acmp X59 hx rfl (x := (.ref ro1)) (y := (.ref ro1)) rfl rfl (pc0 := 176) (pc' := 179) (same := true) rfl (hb hby at_176) rfl (decide_eq_true rfl) (by decide) (by decide) (XS.iconst X59.here hx rfl (hb hby at_179) (XS.goto X59.here hx rfl (pc0 := 180) (pc' := 184) rfl (hb hby at_180) (by decide) (by decide) k))))))) ?_
          show Aw p e below _ T59 m 184 #[iv p0, iv p1, iv p2, .val (.int (p0 &&& (3 : Int32))), rv b35, rv ro1, rv ro1, iv 69] [(.int 1)]
          refine Rch.valW X59 hx Y0 e59 (Nat.le_trans (Nat.le_trans (Nat.le_trans (Nat.le_trans (Nat.le_trans (Nat.le_refl _) E29.1) (Nat.le_of_eq W34.size.symm)) E35.1) K40.1) K50.1) (t := .boolean) hret hlk rfl (mayI (by simp)) (hb hby at_184) (by decide) (by decide) ?_
          exact ⟨rfl, N58⟩
        · show Aw p e below _ T32 m 51 #[iv p0, iv p1, iv p2, .val (.int (p0 &&& (3 : Int32))), uu, rv b29, uu, uu] [(.int 101), (.int 0), (.ref b29)]
          obtain ⟨c60, r60, q60, s60, u60, H60, G60⟩ := id V29
          obtain ⟨T61, h61, X61, e61, W61, st61⟩ := stC X32 hx hZ e32 r60 (j := (0 : Int32)) (inb_of s60 (by decide)) (g := (mkF m 51 #[iv p0, iv p1, iv p2, .val (.int (p0 &&& (3 : Int32))), uu, rv b29, uu, uu] [(.int 101), (.int 0), (.ref b29)])) rfl rfl (hb hby at_51)
          refine Rch.go st61 ?_
          have V61 : Arv Z h61 b29 k29 .char (1 : Int32) [(.int 101)] (.int 0) := Arv.set r60 q60 s60 u60 H60 G60 (fits_nar_char _) W61 0 rfl (Nat.le_of_ble_eq_true rfl)
          have N61 := Fr.snoc X61 N32 g_b29
          show Aw p e below _ T61 m 52 #[iv p0, iv p1, iv p2, .val (.int (p0 &&& (3 : Int32))), uu, rv b29, uu, uu] []
          obtain ⟨T62, h62, X62, e62, E62, A62, D62, -, st62⟩ := newO X61 hx hZ hown (wd_0 hw) (wd_1 hw) (wd_2 hw) e61 (g := (mkF m 52 #[iv p0, iv p1, iv p2, .val (.int (p0 &&& (3 : Int32))), uu, rv b29, uu, uu] [])) rfl (hb hby at_52) (by decide) (by decide)
          obtain ⟨b62, g62⟩ : ∃ z, z = h61.size := ⟨_, rfl⟩
          rw [← g62] at A62 D62 st62
          refine Rch.go st62 ?_
          have z63 := (Nat.le_trans z30 (Nat.le_of_eq W61.size.symm))
          have g_b62 : n0 ≤ b62 := Nat.le_trans z63 (Nat.le_of_eq g62.symm)
          have F62_value : Fld Z h62 b62 "java/lang/String" "value" "[B" .null := (D62 (Or.inr (wd_16 hw)) (ty := (.array .byte)) (by decide))
          have F62_coder : Fld Z h62 b62 "java/lang/String" "coder" "B" (.int 0) := (D62 (Or.inr (wd_17 hw)) (ty := .byte) (by decide))
          show Aw p e below _ T62 m 55 #[iv p0, iv p1, iv p2, .val (.int (p0 &&& (3 : Int32))), uu, rv b29, uu, uu] [(.ref b62)]
          refine Rch.go (fun t k => XS.dup X62.here hx rfl (hb hby at_55) rfl rfl (XS.aload X62.here hx rfl (hb hby at_56) rfl rfl k)) ?_
          show Aw p e below _ T62 m 58 #[iv p0, iv p1, iv p2, .val (.int (p0 &&& (3 : Int32))), uu, rv b29, uu, uu] [(.ref b29), (.ref b62), (.ref b62)]
          have f64 := (V61.ext E62)
          have z65 := (Nat.le_trans z63 E62.1)
          have o66 := ((o31.wr W61 g_b29).ext E62)
          obtain ⟨v67, T67, L67, X67, Q67, st67⟩ := callSp X62 hx hZ (m27_init l Z a0 hw b62 b29 k29 ww10 h62 n0 z65 o66 f64 G.2.2.2.2.2.2.2.2.2.2.2.2.2.2.2.2.2.2.2.2.1 G.2.2.2.2.2.2.2.2.2.2.2.2.2.2.2.2.2.2.2.2.2.2.2.2.2.2.1 A62 F62_coder g_b62 F62_value) e62 hown rfl (wd_4 hw) (wd_5 hw) (wd_6 hw) (wd_2 hw) (by decide) (hb hby at_58) 1 (by decide) (by decide) (by decide) (by decide) (by rw [hml]; rfl) b62 [(.ref b29)] [(.ref b62)] rfl (lenOf pd_4 rfl) rfl (Nat.le_of_eq rfl) (Ls := #[iv p0, iv p1, iv p2, .val (.int (p0 &&& (3 : Int32))), uu, rv b29, uu, uu])
          obtain ⟨b67_0, k67_0, rfl, M67, K67, zz67_0, F67_0, F67_1, F67_2, F67_3⟩ := Q67
          have N67 := Fr.app N61 M67
          refine Rch.go st67 ?_
          have g_b67_0 : n0 ≤ b67_0 := Nat.le_trans z65 zz67_0
          show Aw p e below _ T67 m 61 #[iv p0, iv p1, iv p2, .val (.int (p0 &&& (3 : Int32))), uu, rv b29, uu, uu] [(.ref b62)]
          refine Rch.go (fun t k => XS.astore X67.here hx rfl (hb hby at_61) rfl rfl (l' := #[iv p0, iv p1, iv p2, .val (.int (p0 &&& (3 : Int32))), rv b62, rv b29, uu, uu]) rfl (XS.goto X67.here hx rfl (pc0 := 63) (pc' := 98) rfl (hb hby at_63) (by decide) (by decide) (XS.aload X67.here hx rfl (hb hby at_98) rfl rfl k))) ?_
          show Aw p e below _ T67 m 100 #[iv p0, iv p1, iv p2, .val (.int (p0 &&& (3 : Int32))), rv b62, rv b29, uu, uu] [(.ref b62)]
          have lt68 := (Nat.lt_of_lt_of_le (Nat.lt_of_lt_of_le (G.2.2.2.2.2.2.2.2.2.1.ext O0.2).lt E29.1) (Nat.le_of_eq W61.size.symm))
          have ne69 : ro4 ≠ b62 := Nat.ne_of_lt (Nat.lt_of_lt_of_le lt68 (Nat.le_of_eq g62.symm))
          have f70 := (A62.keep K67)
          have lt71 := (Nat.lt_of_lt_of_le (Nat.lt_of_lt_of_le (G.2.2.2.2.2.2.2.2.2.2.2.2.1.ext O0.2).lt E29.1) (Nat.le_of_eq W61.size.symm))
          have ne72 : ro6 ≠ b62 := Nat.ne_of_lt (Nat.lt_of_lt_of_le lt71 (Nat.le_of_eq g62.symm))
          have lt73 := (Nat.lt_of_lt_of_le (Nat.lt_of_lt_of_le (G.2.2.2.2.2.2.2.2.2.2.2.2.2.2.2.1.ext O0.2).lt E29.1) (Nat.le_of_eq W61.size.symm))
          have ne74 : ro8 ≠ b62 := Nat.ne_of_lt (Nat.lt_of_lt_of_le lt73 (Nat.le_of_eq g62.symm))
          have z75 := (Nat.le_trans z65 K67.1)
          have o76 := (o66.keep K67 (allS g_b62 all0))
          obtain ⟨v77, T77, L77, X77, Q77, st77⟩ := callSt X67 hx hZ (m32_of l Z a0 hw b62 ro0 kk_ro0 ro1 ro2 ro3 ro4 ww10 ro5 b67_0 kk_ro5 k67_0 ro6 ro7 kk_ro7 T67.heap n0 z75 o76 G.1 G.2.2.2.2.2.2.2.2.2.2.2.2.2.2.2.2.2.2.2.2.2.2.1 G.2.1 G.2.2.2.2.2.2.2.2.1 G.2.2.2.2.2.2.2.2.2.1 ne69 f70 G.2.2.2.2.2.2.2.2.2.2.2.2.2.2.2.2.2.2.2.2.1 G.2.2.2.2.2.2.2.2.2.2.2.2.2.2.2.2.2.2.2.2.2.2.2.2.2.2.1 G.2.2.2.2.2.2.2.2.2.2.2.2.2.2.2.2.2.1 F67_2 G.2.2.2.2.2.2.2.2.2.2.1 F67_3 G.2.2.2.2.2.2.2.2.2.2.2.2.2.2.2.2.2.2.2.2.2.2.2.1 F67_1 G.2.2.2.2.2.2.2.2.2.2.2.1 G.2.2.2.2.2.2.2.2.2.2.2.2.1 ne72 G.2.2.2.2.2.2.2.2.2.2.2.2.2.2.2.2.2.2.1 G.2.2.2.2.2.2.2.2.2.2.2.2.2.1 G.2.2.2.2.2.2.2.2.2.2.2.2.2.2.2.2.2.2.2.2.2.2.2.2.1) rfl hown (wd_22 hw) (wd_23 hw) (wd_25 hw) (wd_24 hw) (by decide) (hb hby at_100) 0 (by decide) (by decide) (by decide) (by decide) (by rw [hml]; rfl) [(.ref b62)] [] rfl (lenOf pd_3 rfl) rfl (Nat.le_of_eq rfl) (Ls := #[iv p0, iv p1, iv p2, .val (.int (p0 &&& (3 : Int32))), rv b62, rv b29, uu, uu])
          obtain ⟨rfl, M77, K77⟩ := Q77
          have N77 := Fr.app N67 M77
          refine Rch.go st77 ?_
          show Aw p e below _ T77 m 103 #[iv p0, iv p1, iv p2, .val (.int (p0 &&& (3 : Int32))), rv b62, rv b29, uu, uu] [(.ref ro2)]
          refine Rch.go (fun t k => XS.astore X77.here hx rfl (hb hby at_103) rfl rfl (l' := #[iv p0, iv p1, iv p2, .val (.int (p0 &&& (3 : Int32))), rv b62, rv ro2, uu, uu]) rfl (XS.aconstNull X77.here hx rfl (hb hby at_105) (XS.astore X77.here hx rfl (hb hby at_106) rfl rfl (l' := #[iv p0, iv p1, iv p2, .val (.int (p0 &&& (3 : Int32))), rv b62, rv ro2, .val .null, uu]) rfl (XS.aload X77.here hx rfl (hb hby at_108) rfl rfl (XS.ifnullNo X77.here hx rfl (hb hby at_110) rfl (XS.aload X77.here hx rfl (hb hby at_113) rfl rfl k)))))) ?_
          show Aw p e below _ T77 m 115 #[iv p0, iv p1, iv p2, .val (.int (p0 &&& (3 : Int32))), rv b62, rv ro2, .val .null, uu] [(.ref b62)]
          have f78 := (F67_3.keep K77 nin0)
          have f79 := (F67_1.keep K77 nin0)
          have f80 := (f70.keep K77)
          have f81 := (F67_2.keep K77 nin0)
          have z82 := (Nat.le_trans z75 K77.1)
          have o83 := (o76.keep K77 all0)
          obtain ⟨v84, T84, L84, X84, Q84, st84⟩ := callVi X77 hx hZ (m37_length l Z a0 hw b62 b67_0 k67_0 ww10 T77.heap n0 z82 o83 f78 f79 f80 G.2.2.2.2.2.2.2.2.2.2.2.2.2.2.2.2.2.2.2.2.1 G.2.2.2.2.2.2.2.2.2.2.2.2.2.2.2.2.2.2.2.2.2.2.2.2.2.2.1 f81) rfl hown (wd_57 hw) (wd_58 hw) (wd_60 hw) (notFace_of_selects (args := #[]) (mvT hZ (wd_60 hw))) (wd_59 hw) (wd_61 hw) (wd_2 hw) (by decide) (hb hby at_115) 0 (by decide) (by decide) (by decide) (by decide) (by rw [hml]; rfl) b62 f80 [] [] rfl (lenOf pd_7 rfl) rfl (Nat.le_of_eq rfl) (Ls := #[iv p0, iv p1, iv p2, .val (.int (p0 &&& (3 : Int32))), rv b62, rv ro2, .val .null, uu])
          obtain ⟨rfl, M84, e84⟩ := Q84
          have N84 := Fr.app N77 M84
          refine Rch.go st84 ?_
          show Aw p e below _ T84 m 118 #[iv p0, iv p1, iv p2, .val (.int (p0 &&& (3 : Int32))), rv b62, rv ro2, .val .null, uu] [(.int 1)]
          refine Rch.go (fun t k => XS.iconst X84.here hx rfl (hb hby at_118) (XS.icmpNo X84.here hx rfl (hb hby at_119) rfl (by decide) (XS.aload X84.here hx rfl (hb hby at_122) rfl rfl (XS.iconst X84.here hx rfl (hb hby at_124) k)))) ?_
          show Aw p e below _ T84 m 125 #[iv p0, iv p1, iv p2, .val (.int (p0 &&& (3 : Int32))), rv b62, rv ro2, .val .null, uu] [(.int 0), (.ref b62)]
          obtain ⟨v85, T85, L85, X85, Q85, st85⟩ := callVi X84 hx hZ (m38_charAt l Z a0 hw b62 ww10 b67_0 k67_0 ww11 T77.heap n0 z82 o83 f80 G.2.2.2.2.2.2.2.2.2.2.2.2.2.2.2.2.2.2.2.2.1 G.2.2.2.2.2.2.2.2.2.2.2.2.2.2.2.2.2.2.2.2.2.2.2.2.2.2.1 f81 f78 f79 G.2.2.2.2.2.2.2.2.2.2.2.2.2.2.2.2.2.2.2.2.2.2.2.2.2.2.2 G.2.2.2.2.2.2.2.2.2.2.2.2.2.2.2.2.2.2.2.2.2.1) e84 hown (wd_81 hw) (wd_82 hw) (wd_84 hw) (notFace_of_selects (args := #[]) (mvT hZ (wd_84 hw))) (wd_83 hw) (wd_85 hw) (wd_2 hw) (by decide) (hb hby at_125) 0 (by decide) (by decide) (by decide) (by decide) (by rw [hml]; rfl) b62 f80 [(.int 0)] [] rfl (lenOf pd_8 rfl) rfl (Nat.le_of_eq rfl) (Ls := #[iv p0, iv p1, iv p2, .val (.int (p0 &&& (3 : Int32))), rv b62, rv ro2, .val .null, uu])
          obtain ⟨rfl, M85, e85⟩ := Q85
          have N85 := Fr.app N84 M85
          refine Rch.go st85 ?_
          show Aw p e below _ T85 m 128 #[iv p0, iv p1, iv p2, .val (.int (p0 &&& (3 : Int32))), rv b62, rv ro2, .val .null, uu] [(.int 101)]
          refine Rch.go (fun t k => XS.istore X85.here hx rfl (hb hby at_128) rfl  (l' := #[iv p0, iv p1, iv p2, .val (.int (p0 &&& (3 : Int32))), rv b62, rv ro2, .val .null, iv 101]) rfl (XS.iload X85.here hx rfl (hb hby at_130) rfl  (XS.bipush X85.here hx rfl (hb hby at_132) (XS.icmpYes X85.here hx rfl (pc0 := 134) (pc' := 145) rfl (hb hby at_134) rfl (by decide) (by decide) (by decide) (XS.iload X85.here hx rfl (hb hby at_145) rfl  (XS.bipush X85.here hx rfl (hb hby at_147) (XS.icmpNo X85.here hx rfl (hb hby at_149) rfl (by decide) k))))))) ?_
          show Aw p e below _ T85 m 152 #[iv p0, iv p1, iv p2, .val (.int (p0 &&& (3 : Int32))), rv b62, rv ro2, .val .null, iv 101] []
          obtain ⟨T86, X86, e86, st86⟩ := getS2 X85 hx hZ hown (host := "") (Or.inl (wd_102 hw)) Via.refl e85 (G.2.2.2.2.1.ext o83.2) (g := (mkF m 152 #[iv p0, iv p1, iv p2, .val (.int (p0 &&& (3 : Int32))), rv b62, rv ro2, .val .null, iv 101] [])) rfl (hb hby at_152)
          refine Rch.go st86 ?_
          show Aw p e below _ T86 m 155 #[iv p0, iv p1, iv p2, .val (.int (p0 &&& (3 : Int32))), rv b62, rv ro2, .val .null, iv 101] [(.ref ro2)]
          refine Rch.go (fun t k => XS.astore X86.here hx rfl (hb hby at_155) rfl rfl (l' := #[iv p0, iv p1, iv p2, .val (.int (p0 &&& (3 : Int32))), rv b62, rv ro2, rv ro2, iv 101]) rfl (XS.goto X86.here hx rfl (pc0 := 157) (pc' := 172) rfl (hb hby at_157) (by decide) (by decide) (XS.aload X86.here hx rfl (hb hby at_172) rfl rfl (XS.aload X86.here hx rfl (hb hby at_174) rfl rfl (acmp X86 hx rfl (x := (.ref ro2)) (y := (.ref ro2)) rfl rfl (pc0 := 176) (pc' := 179) (same := true) rfl (hb hby at_176) rfl (decide_eq_true rfl) (by decide) (by decide) (XS.iconst X86.here hx rfl (hb hby at_179) (XS.goto X86.here hx rfl (pc0 := 180) (pc' := 184) rfl (hb hby at_180) (by decide) (by decide) k))))))) ?_
          show Aw p e below _ T86 m 184 #[iv p0, iv p1, iv p2, .val (.int (p0 &&& (3 : Int32))), rv b62, rv ro2, rv ro2, iv 101] [(.int 1)]
          refine Rch.valW X86 hx Y0 e86 (Nat.le_trans (Nat.le_trans (Nat.le_trans (Nat.le_trans (Nat.le_trans (Nat.le_refl _) E29.1) (Nat.le_of_eq W61.size.symm)) E62.1) K67.1) K77.1) (t := .boolean) hret hlk rfl (mayI (by simp)) (hb hby at_184) (by decide) (by decide) ?_
          exact ⟨rfl, N85⟩
        · show Aw p e below _ T32 m 51 #[iv p0, iv p1, iv p2, .val (.int (p0 &&& (3 : Int32))), uu, rv b29, uu, uu] [(.int 38), (.int 0), (.ref b29)]
          obtain ⟨c87, r87, q87, s87, u87, H87, G87⟩ := id V29
          obtain ⟨T88, h88, X88, e88, W88, st88⟩ := stC X32 hx hZ e32 r87 (j := (0 : Int32)) (inb_of s87 (by decide)) (g := (mkF m 51 #[iv p0, iv p1, iv p2, .val (.int (p0 &&& (3 : Int32))), uu, rv b29, uu, uu] [(.int 38), (.int 0), (.ref b29)])) rfl rfl (hb hby at_51)
          refine Rch.go st88 ?_
          have V88 : Arv Z h88 b29 k29 .char (1 : Int32) [(.int 38)] (.int 0) := Arv.set r87 q87 s87 u87 H87 G87 (fits_nar_char _) W88 0 rfl (Nat.le_of_ble_eq_true rfl)
          have N88 := Fr.snoc X88 N32 g_b29
          show Aw p e below _ T88 m 52 #[iv p0, iv p1, iv p2, .val (.int (p0 &&& (3 : Int32))), uu, rv b29, uu, uu] []
          obtain ⟨T89, h89, X89, e89, E89, A89, D89, -, st89⟩ := newO X88 hx hZ hown (wd_0 hw) (wd_1 hw) (wd_2 hw) e88 (g := (mkF m 52 #[iv p0, iv p1, iv p2, .val (.int (p0 &&& (3 : Int32))), uu, rv b29, uu, uu] [])) rfl (hb hby at_52) (by decide) (by decide)
          obtain ⟨b89, g89⟩ : ∃ z, z = h88.size := ⟨_, rfl⟩
          rw [← g89] at A89 D89 st89
          refine Rch.go st89 ?_
          have z90 := (Nat.le_trans z30 (Nat.le_of_eq W88.size.symm))
          have g_b89 : n0 ≤ b89 := Nat.le_trans z90 (Nat.le_of_eq g89.symm)
          have F89_value : Fld Z h89 b89 "java/lang/String" "value" "[B" .null := (D89 (Or.inr (wd_16 hw)) (ty := (.array .byte)) (by decide))
          have F89_coder : Fld Z h89 b89 "java/lang/String" "coder" "B" (.int 0) := (D89 (Or.inr (wd_17 hw)) (ty := .byte) (by decide))
          show Aw p e below _ T89 m 55 #[iv p0, iv p1, iv p2, .val (.int (p0 &&& (3 : Int32))), uu, rv b29, uu, uu] [(.ref b89)]
          refine Rch.go (fun t k => XS.dup X89.here hx rfl (hb hby at_55) rfl rfl (XS.aload X89.here hx rfl (hb hby at_56) rfl rfl k)) ?_
          show Aw p e below _ T89 m 58 #[iv p0, iv p1, iv p2, .val (.int (p0 &&& (3 : Int32))), uu, rv b29, uu, uu] [(.ref b29), (.ref b89), (.ref b89)]
          have f91 := (V88.ext E89)
          have z92 := (Nat.le_trans z90 E89.1)
          have o93 := ((o31.wr W88 g_b29).ext E89)
          obtain ⟨v94, T94, L94, X94, Q94, st94⟩ := callSp X89 hx hZ (m40_init l Z a0 hw b89 b29 k29 ww10 h89 n0 z92 o93 f91 G.2.2.2.2.2.2.2.2.2.2.2.2.2.2.2.2.2.2.2.2.1 G.2.2.2.2.2.2.2.2.2.2.2.2.2.2.2.2.2.2.2.2.2.2.2.2.2.2.1 A89 F89_coder g_b89 F89_value) e89 hown rfl (wd_4 hw) (wd_5 hw) (wd_6 hw) (wd_2 hw) (by decide) (hb hby at_58) 1 (by decide) (by decide) (by decide) (by decide) (by rw [hml]; rfl) b89 [(.ref b29)] [(.ref b89)] rfl (lenOf pd_4 rfl) rfl (Nat.le_of_eq rfl) (Ls := #[iv p0, iv p1, iv p2, .val (.int (p0 &&& (3 : Int32))), uu, rv b29, uu, uu])
          obtain ⟨b94_0, k94_0, rfl, M94, K94, zz94_0, F94_0, F94_1, F94_2, F94_3⟩ := Q94
          have N94 := Fr.app N88 M94
          refine Rch.go st94 ?_
          have g_b94_0 : n0 ≤ b94_0 := Nat.le_trans z92 zz94_0
          show Aw p e below _ T94 m 61 #[iv p0, iv p1, iv p2, .val (.int (p0 &&& (3 : Int32))), uu, rv b29, uu, uu] [(.ref b89)]
          refine Rch.go (fun t k => XS.astore X94.here hx rfl (hb hby at_61) rfl rfl (l' := #[iv p0, iv p1, iv p2, .val (.int (p0 &&& (3 : Int32))), rv b89, rv b29, uu, uu]) rfl (XS.goto X94.here hx rfl (pc0 := 63) (pc' := 98) rfl (hb hby at_63) (by decide) (by decide) (XS.aload X94.here hx rfl (hb hby at_98) rfl rfl k))) ?_
          show Aw p e below _ T94 m 100 #[iv p0, iv p1, iv p2, .val (.int (p0 &&& (3 : Int32))), rv b89, rv b29, uu, uu] [(.ref b89)]
          have lt95 := (Nat.lt_of_lt_of_le (Nat.lt_of_lt_of_le (G.2.2.2.2.2.2.2.2.2.1.ext O0.2).lt E29.1) (Nat.le_of_eq W88.size.symm))
          have ne96 : ro4 ≠ b89 := Nat.ne_of_lt (Nat.lt_of_lt_of_le lt95 (Nat.le_of_eq g89.symm))
          have f97 := (A89.keep K94)
          have lt98 := (Nat.lt_of_lt_of_le (Nat.lt_of_lt_of_le (G.2.2.2.2.2.2.2.2.2.2.2.2.1.ext O0.2).lt E29.1) (Nat.le_of_eq W88.size.symm))
          have ne99 : ro6 ≠ b89 := Nat.ne_of_lt (Nat.lt_of_lt_of_le lt98 (Nat.le_of_eq g89.symm))
          have lt100 := (Nat.lt_of_lt_of_le (Nat.lt_of_lt_of_le (G.2.2.2.2.2.2.2.2.2.2.2.2.2.2.2.1.ext O0.2).lt E29.1) (Nat.le_of_eq W88.size.symm))
          have ne101 : ro8 ≠ b89 := Nat.ne_of_lt (Nat.lt_of_lt_of_le lt100 (Nat.le_of_eq g89.symm))
          have z102 := (Nat.le_trans z92 K94.1)
          have o103 := (o93.keep K94 (allS g_b89 all0))
          obtain ⟨v104, T104, L104, X104, Q104, st104⟩ := callSt X94 hx hZ (m45_of l Z a0 hw b89 ro0 kk_ro0 ro1 ro2 ro3 ro4 ww10 ro5 b94_0 kk_ro5 k94_0 ro6 ro7 kk_ro7 ro8 ro9 kk_ro9 T94.heap n0 z102 o103 G.1 G.2.2.2.2.2.2.2.2.2.2.2.2.2.2.2.2.2.2.2.2.2.2.1 G.2.1 G.2.2.2.2.2.2.2.2.1 G.2.2.2.2.2.2.2.2.2.1 ne96 f97 G.2.2.2.2.2.2.2.2.2.2.2.2.2.2.2.2.2.2.2.2.1 G.2.2.2.2.2.2.2.2.2.2.2.2.2.2.2.2.2.2.2.2.2.2.2.2.2.2.1 G.2.2.2.2.2.2.2.2.2.2.2.2.2.2.2.2.2.1 F94_2 G.2.2.2.2.2.2.2.2.2.2.1 F94_3 G.2.2.2.2.2.2.2.2.2.2.2.2.2.2.2.2.2.2.2.2.2.2.2.1 F94_1 G.2.2.2.2.2.2.2.2.2.2.2.1 G.2.2.2.2.2.2.2.2.2.2.2.2.1 ne99 G.2.2.2.2.2.2.2.2.2.2.2.2.2.2.2.2.2.2.1 G.2.2.2.2.2.2.2.2.2.2.2.2.2.1 G.2.2.2.2.2.2.2.2.2.2.2.2.2.2.2.2.2.2.2.2.2.2.2.2.1 G.2.2.2.2.2.2.2.2.2.2.2.2.2.2.1 G.2.2.2.2.2.2.2.2.2.2.2.2.2.2.2.1 ne101 G.2.2.2.2.2.2.2.2.2.2.2.2.2.2.2.2.2.2.2.1 G.2.2.2.2.2.2.2.2.2.2.2.2.2.2.2.2.1 G.2.2.2.2.2.2.2.2.2.2.2.2.2.2.2.2.2.2.2.2.2.2.2.2.2.1) rfl hown (wd_22 hw) (wd_23 hw) (wd_25 hw) (wd_24 hw) (by decide) (hb hby at_100) 0 (by decide) (by decide) (by decide) (by decide) (by rw [hml]; rfl) [(.ref b89)] [] rfl (lenOf pd_3 rfl) rfl (Nat.le_of_eq rfl) (Ls := #[iv p0, iv p1, iv p2, .val (.int (p0 &&& (3 : Int32))), rv b89, rv b29, uu, uu])
          obtain ⟨rfl, M104, K104⟩ := Q104
          have N104 := Fr.app N94 M104
          refine Rch.go st104 ?_
          show Aw p e below _ T104 m 103 #[iv p0, iv p1, iv p2, .val (.int (p0 &&& (3 : Int32))), rv b89, rv b29, uu, uu] [(.ref ro3)]
          refine Rch.go (fun t k => XS.astore X104.here hx rfl (hb hby at_103) rfl rfl (l' := #[iv p0, iv p1, iv p2, .val (.int (p0 &&& (3 : Int32))), rv b89, rv ro3, uu, uu]) rfl (XS.aconstNull X104.here hx rfl (hb hby at_105) (XS.astore X104.here hx rfl (hb hby at_106) rfl rfl (l' := #[iv p0, iv p1, iv p2, .val (.int (p0 &&& (3 : Int32))), rv b89, rv ro3, .val .null, uu]) rfl (XS.aload X104.here hx rfl (hb hby at_108) rfl rfl (XS.ifnullNo X104.here hx rfl (hb hby at_110) rfl (XS.aload X104.here hx rfl (hb hby at_113) rfl rfl k)))))) ?_
          show Aw p e below _ T104 m 115 #[iv p0, iv p1, iv p2, .val (.int (p0 &&& (3 : Int32))), rv b89, rv ro3, .val .null, uu] [(.ref b89)]
          have f105 := (F94_3.keep K104 nin0)
          have f106 := (F94_1.keep K104 nin0)
          have f107 := (f97.keep K104)
          have f108 := (F94_2.keep K104 nin0)
          have z109 := (Nat.le_trans z102 K104.1)
          have o110 := (o103.keep K104 all0)
          obtain ⟨v111, T111, L111, X111, Q111, st111⟩ := callVi X104 hx hZ (m52_length l Z a0 hw b89 b94_0 k94_0 ww10 T104.heap n0 z109 o110 f105 f106 f107 G.2.2.2.2.2.2.2.2.2.2.2.2.2.2.2.2.2.2.2.2.1 G.2.2.2.2.2.2.2.2.2.2.2.2.2.2.2.2.2.2.2.2.2.2.2.2.2.2.1 f108) rfl hown (wd_57 hw) (wd_58 hw) (wd_60 hw) (notFace_of_selects (args := #[]) (mvT hZ (wd_60 hw))) (wd_59 hw) (wd_61 hw) (wd_2 hw) (by decide) (hb hby at_115) 0 (by decide) (by decide) (by decide) (by decide) (by rw [hml]; rfl) b89 f107 [] [] rfl (lenOf pd_7 rfl) rfl (Nat.le_of_eq rfl) (Ls := #[iv p0, iv p1, iv p2, .val (.int (p0 &&& (3 : Int32))), rv b89, rv ro3, .val .null, uu])
          obtain ⟨rfl, M111, e111⟩ := Q111
          have N111 := Fr.app N104 M111
          refine Rch.go st111 ?_
          show Aw p e below _ T111 m 118 #[iv p0, iv p1, iv p2, .val (.int (p0 &&& (3 : Int32))), rv b89, rv ro3, .val .null, uu] [(.int 1)]
          refine Rch.go (fun t k => XS.iconst X111.here hx rfl (hb hby at_118) (XS.icmpNo X111.here hx rfl (hb hby at_119) rfl (by decide) (XS.aload X111.here hx rfl (hb hby at_122) rfl rfl (XS.iconst X111.here hx rfl (hb hby at_124) k)))) ?_
          show Aw p e below _ T111 m 125 #[iv p0, iv p1, iv p2, .val (.int (p0 &&& (3 : Int32))), rv b89, rv ro3, .val .null, uu] [(.int 0), (.ref b89)]
          obtain ⟨v112, T112, L112, X112, Q112, st112⟩ := callVi X111 hx hZ (m53_charAt l Z a0 hw b89 ww10 b94_0 k94_0 ww11 T104.heap n0 z109 o110 f107 G.2.2.2.2.2.2.2.2.2.2.2.2.2.2.2.2.2.2.2.2.1 G.2.2.2.2.2.2.2.2.2.2.2.2.2.2.2.2.2.2.2.2.2.2.2.2.2.2.1 f108 f105 f106 G.2.2.2.2.2.2.2.2.2.2.2.2.2.2.2.2.2.2.2.2.2.2.2.2.2.2.2 G.2.2.2.2.2.2.2.2.2.2.2.2.2.2.2.2.2.2.2.2.2.1) e111 hown (wd_81 hw) (wd_82 hw) (wd_84 hw) (notFace_of_selects (args := #[]) (mvT hZ (wd_84 hw))) (wd_83 hw) (wd_85 hw) (wd_2 hw) (by decide) (hb hby at_125) 0 (by decide) (by decide) (by decide) (by decide) (by rw [hml]; rfl) b89 f107 [(.int 0)] [] rfl (lenOf pd_8 rfl) rfl (Nat.le_of_eq rfl) (Ls := #[iv p0, iv p1, iv p2, .val (.int (p0 &&& (3 : Int32))), rv b89, rv ro3, .val .null, uu])
          obtain ⟨rfl, M112, e112⟩ := Q112
          have N112 := Fr.app N111 M112
          refine Rch.go st112 ?_
          show Aw p e below _ T112 m 128 #[iv p0, iv p1, iv p2, .val (.int (p0 &&& (3 : Int32))), rv b89, rv ro3, .val .null, uu] [(.int 38)]
          refine Rch.go (fun t k => XS.istore X112.here hx rfl (hb hby at_128) rfl  (l' := #[iv p0, iv p1, iv p2, .val (.int (p0 &&& (3 : Int32))), rv b89, rv ro3, .val .null, iv 38]) rfl (XS.iload X112.here hx rfl (hb hby at_130) rfl  (XS.bipush X112.here hx rfl (hb hby at_132) (XS.icmpYes X112.here hx rfl (pc0 := 134) (pc' := 145) rfl (hb hby at_134) rfl (by decide) (by decide) (by decide) (XS.iload X112.here hx rfl (hb hby at_145) rfl  (XS.bipush X112.here hx rfl (hb hby at_147) (XS.icmpYes X112.here hx rfl (pc0 := 149) (pc' := 160) rfl (hb hby at_149) rfl (by decide) (by decide) (by decide) (XS.iload X112.here hx rfl (hb hby at_160) rfl  (XS.bipush X112.here hx rfl (hb hby at_162) (XS.icmpNo X112.here hx rfl (hb hby at_164) rfl (by decide) k)))))))))) ?_
          show Aw p e below _ T112 m 167 #[iv p0, iv p1, iv p2, .val (.int (p0 &&& (3 : Int32))), rv b89, rv ro3, .val .null, iv 38] []
          obtain ⟨T113, X113, e113, st113⟩ := getS2 X112 hx hZ hown (host := "") (Or.inl (wd_104 hw)) Via.refl e112 (G.2.2.2.2.2.2.1.ext o110.2) (g := (mkF m 167 #[iv p0, iv p1, iv p2, .val (.int (p0 &&& (3 : Int32))), rv b89, rv ro3, .val .null, iv 38] [])) rfl (hb hby at_167)
          refine Rch.go st113 ?_
          show Aw p e below _ T113 m 170 #[iv p0, iv p1, iv p2, .val (.int (p0 &&& (3 : Int32))), rv b89, rv ro3, .val .null, iv 38] [(.ref ro3)]
          refine Rch.go (fun t k => XS.astore X113.here hx rfl (hb hby at_170) rfl rfl (l' := #[iv p0, iv p1, iv p2, .val (.int (p0 &&& (3 : Int32))), rv b89, rv ro3, rv ro3, iv 38]) rfl (XS.aload X113.here hx rfl (hb hby at_172) rfl rfl (XS.aload X113.here hx rfl (hb hby at_174) rfl rfl (acmp X113 hx rfl (x := (.ref ro3)) (y := (.ref ro3)) rfl rfl (pc0 := 176) (pc' := 179) (same := true) rfl (hb hby at_176) rfl (decide_eq_true rfl) (by decide) (by decide) (XS.iconst X113.here hx rfl (hb hby at_179) (XS.goto X113.here hx rfl (pc0 := 180) (pc' := 184) rfl (hb hby at_180) (by decide) (by decide) k)))))) ?_
          show Aw p e below _ T113 m 184 #[iv p0, iv p1, iv p2, .val (.int (p0 &&& (3 : Int32))), rv b89, rv ro3, rv ro3, iv 38] [(.int 1)]
          refine Rch.valW X113 hx Y0 e113 (Nat.le_trans (Nat.le_trans (Nat.le_trans (Nat.le_trans (Nat.le_trans (Nat.le_refl _) E29.1) (Nat.le_of_eq W88.size.symm)) E89.1) K94.1) K104.1) (t := .boolean) hret hlk rfl (mayI (by simp)) (hb hby at_184) (by decide) (by decide) ?_
          exact ⟨rfl, N112⟩
        · show Aw p e below _ T32 m 51 #[iv p0, iv p1, iv p2, .val (.int (p0 &&& (3 : Int32))), uu, rv b29, uu, uu] [(.int ch32), (.int 0), (.ref b29)]
          obtain ⟨c114, r114, q114, s114, u114, H114, G114⟩ := id V29
          obtain ⟨T115, h115, X115, e115, W115, st115⟩ := stC X32 hx hZ e32 r114 (j := (0 : Int32)) (inb_of s114 (by decide)) (g := (mkF m 51 #[iv p0, iv p1, iv p2, .val (.int (p0 &&& (3 : Int32))), uu, rv b29, uu, uu] [(.int ch32), (.int 0), (.ref b29)])) rfl rfl (hb hby at_51)
          rw [hn32] at W115
          refine Rch.go st115 ?_
          have V115 : Arv Z h115 b29 k29 .char (1 : Int32) [(.int ch32)] (.int 0) := Arv.set r114 q114 s114 u114 H114 G114 (by rw [← hn32]; exact (fits_nar_char _)) W115 0 rfl (Nat.le_of_ble_eq_true rfl)
          have N115 := Fr.snoc X115 N32 g_b29
          show Aw p e below _ T115 m 52 #[iv p0, iv p1, iv p2, .val (.int (p0 &&& (3 : Int32))), uu, rv b29, uu, uu] []
          obtain ⟨T116, h116, X116, e116, E116, A116, D116, -, st116⟩ := newO X115 hx hZ hown (wd_0 hw) (wd_1 hw) (wd_2 hw) e115 (g := (mkF m 52 #[iv p0, iv p1, iv p2, .val (.int (p0 &&& (3 : Int32))), uu, rv b29, uu, uu] [])) rfl (hb hby at_52) (by decide) (by decide)
          obtain ⟨b116, g116⟩ : ∃ z, z = h115.size := ⟨_, rfl⟩
          rw [← g116] at A116 D116 st116
          refine Rch.go st116 ?_
          have z117 := (Nat.le_trans z30 (Nat.le_of_eq W115.size.symm))
          have g_b116 : n0 ≤ b116 := Nat.le_trans z117 (Nat.le_of_eq g116.symm)
          have F116_value : Fld Z h116 b116 "java/lang/String" "value" "[B" .null := (D116 (Or.inr (wd_16 hw)) (ty := (.array .byte)) (by decide))
          have F116_coder : Fld Z h116 b116 "java/lang/String" "coder" "B" (.int 0) := (D116 (Or.inr (wd_17 hw)) (ty := .byte) (by decide))
          show Aw p e below _ T116 m 55 #[iv p0, iv p1, iv p2, .val (.int (p0 &&& (3 : Int32))), uu, rv b29, uu, uu] [(.ref b116)]
          refine Rch.go (fun t k => XS.dup X116.here hx rfl (hb hby at_55) rfl rfl (XS.aload X116.here hx rfl (hb hby at_56) rfl rfl k)) ?_
          show Aw p e below _ T116 m 58 #[iv p0, iv p1, iv p2, .val (.int (p0 &&& (3 : Int32))), uu, rv b29, uu, uu] [(.ref b29), (.ref b116), (.ref b116)]
          have f118 := (V115.ext E116)
          have z119 := (Nat.le_trans z117 E116.1)
          have o120 := ((o31.wr W115 g_b29).ext E116)
          obtain ⟨v121, T121, L121, X121, Q121, st121⟩ := callSp X116 hx hZ (m55_init l Z a0 hw b116 b29 k29 ch32 ww10 h116 n0 z119 o120 f118 G.2.2.2.2.2.2.2.2.2.2.2.2.2.2.2.2.2.2.2.2.1 G.2.2.2.2.2.2.2.2.2.2.2.2.2.2.2.2.2.2.2.2.2.2.2.2.2.2.1 A116 F116_coder g_b116 F116_value hl32) e116 hown rfl (wd_4 hw) (wd_5 hw) (wd_6 hw) (wd_2 hw) (by decide) (hb hby at_58) 1 (by decide) (by decide) (by decide) (by decide) (by rw [hml]; rfl) b116 [(.ref b29)] [(.ref b116)] rfl (lenOf pd_4 rfl) rfl (Nat.le_of_eq rfl) (Ls := #[iv p0, iv p1, iv p2, .val (.int (p0 &&& (3 : Int32))), uu, rv b29, uu, uu])
          obtain ⟨b121_0, k121_0, rfl, M121, K121, zz121_0, F121_0, F121_1, F121_2, F121_3⟩ := Q121
          have N121 := Fr.app N115 M121
          refine Rch.go st121 ?_
          have g_b121_0 : n0 ≤ b121_0 := Nat.le_trans z119 zz121_0
          show Aw p e below _ T121 m 61 #[iv p0, iv p1, iv p2, .val (.int (p0 &&& (3 : Int32))), uu, rv b29, uu, uu] [(.ref b116)]
          refine Rch.go (fun t k => XS.astore X121.here hx rfl (hb hby at_61) rfl rfl (l' := #[iv p0, iv p1, iv p2, .val (.int (p0 &&& (3 : Int32))), rv b116, rv b29, uu, uu]) rfl (XS.goto X121.here hx rfl (pc0 := 63) (pc' := 98) rfl (hb hby at_63) (by decide) (by decide) (XS.aload X121.here hx rfl (hb hby at_98) rfl rfl k))) ?_
          show Aw p e below _ T121 m 100 #[iv p0, iv p1, iv p2, .val (.int (p0 &&& (3 : Int32))), rv b116, rv b29, uu, uu] [(.ref b116)]
          have lt122 := (Nat.lt_of_lt_of_le (Nat.lt_of_lt_of_le (G.2.2.2.2.2.2.2.2.2.1.ext O0.2).lt E29.1) (Nat.le_of_eq W115.size.symm))
          have ne123 : ro4 ≠ b116 := Nat.ne_of_lt (Nat.lt_of_lt_of_le lt122 (Nat.le_of_eq g116.symm))
          have f124 := (A116.keep K121)
          have lt125 := (Nat.lt_of_lt_of_le (Nat.lt_of_lt_of_le (G.2.2.2.2.2.2.2.2.2.2.2.2.1.ext O0.2).lt E29.1) (Nat.le_of_eq W115.size.symm))
          have ne126 : ro6 ≠ b116 := Nat.ne_of_lt (Nat.lt_of_lt_of_le lt125 (Nat.le_of_eq g116.symm))
          have lt127 := (Nat.lt_of_lt_of_le (Nat.lt_of_lt_of_le (G.2.2.2.2.2.2.2.2.2.2.2.2.2.2.2.1.ext O0.2).lt E29.1) (Nat.le_of_eq W115.size.symm))
          have ne128 : ro8 ≠ b116 := Nat.ne_of_lt (Nat.lt_of_lt_of_le lt127 (Nat.le_of_eq g116.symm))
          have z129 := (Nat.le_trans z119 K121.1)
          have o130 := (o120.keep K121 (allS g_b116 all0))
          obtain ⟨v131, T131, L131, X131, Q131, st131⟩ := callSt X121 hx hZ (m60_of l Z a0 hw b116 ro0 kk_ro0 ro1 ro2 ro3 ro4 ww10 ro5 b121_0 kk_ro5 k121_0 (nar .byte (ch32.toInt8.toInt32)) ro6 ro7 kk_ro7 ro8 ro9 kk_ro9 T121.heap n0 z129 o130 G.1 G.2.2.2.2.2.2.2.2.2.2.2.2.2.2.2.2.2.2.2.2.2.2.1 G.2.1 G.2.2.2.2.2.2.2.2.1 G.2.2.2.2.2.2.2.2.2.1 ne123 f124 G.2.2.2.2.2.2.2.2.2.2.2.2.2.2.2.2.2.2.2.2.1 G.2.2.2.2.2.2.2.2.2.2.2.2.2.2.2.2.2.2.2.2.2.2.2.2.2.2.1 G.2.2.2.2.2.2.2.2.2.2.2.2.2.2.2.2.2.1 F121_2 G.2.2.2.2.2.2.2.2.2.2.1 F121_3 G.2.2.2.2.2.2.2.2.2.2.2.2.2.2.2.2.2.2.2.2.2.2.2.1 F121_1 (own_nb ha32 hl32 hg32 rfl) G.2.2.2.2.2.2.2.2.2.2.2.1 G.2.2.2.2.2.2.2.2.2.2.2.2.1 ne126 G.2.2.2.2.2.2.2.2.2.2.2.2.2.2.2.2.2.2.1 G.2.2.2.2.2.2.2.2.2.2.2.2.2.1 G.2.2.2.2.2.2.2.2.2.2.2.2.2.2.2.2.2.2.2.2.2.2.2.2.1 (own_nb hb32 hl32 hg32 rfl) G.2.2.2.2.2.2.2.2.2.2.2.2.2.2.1 G.2.2.2.2.2.2.2.2.2.2.2.2.2.2.2.1 ne128 G.2.2.2.2.2.2.2.2.2.2.2.2.2.2.2.2.2.2.2.1 G.2.2.2.2.2.2.2.2.2.2.2.2.2.2.2.2.1 G.2.2.2.2.2.2.2.2.2.2.2.2.2.2.2.2.2.2.2.2.2.2.2.2.2.1 (own_nb hc32 hl32 hg32 rfl)) rfl hown (wd_22 hw) (wd_23 hw) (wd_25 hw) (wd_24 hw) (by decide) (hb hby at_100) 0 (by decide) (by decide) (by decide) (by decide) (by rw [hml]; rfl) [(.ref b116)] [] rfl (lenOf pd_3 rfl) rfl (Nat.le_of_eq rfl) (Ls := #[iv p0, iv p1, iv p2, .val (.int (p0 &&& (3 : Int32))), rv b116, rv b29, uu, uu])
          obtain ⟨rfl, M131, K131⟩ := Q131
          have N131 := Fr.app N121 M131
          refine Rch.go st131 ?_
          show Aw p e below _ T131 m 103 #[iv p0, iv p1, iv p2, .val (.int (p0 &&& (3 : Int32))), rv b116, rv b29, uu, uu] [.null]
          refine Rch.go (fun t k => XS.astore X131.here hx rfl (hb hby at_103) rfl rfl (l' := #[iv p0, iv p1, iv p2, .val (.int (p0 &&& (3 : Int32))), rv b116, .val .null, uu, uu]) rfl (XS.aconstNull X131.here hx rfl (hb hby at_105) (XS.astore X131.here hx rfl (hb hby at_106) rfl rfl (l' := #[iv p0, iv p1, iv p2, .val (.int (p0 &&& (3 : Int32))), rv b116, .val .null, .val .null, uu]) rfl (XS.aload X131.here hx rfl (hb hby at_108) rfl rfl (XS.ifnullNo X131.here hx rfl (hb hby at_110) rfl (XS.aload X131.here hx rfl (hb hby at_113) rfl rfl k)))))) ?_
          show Aw p e below _ T131 m 115 #[iv p0, iv p1, iv p2, .val (.int (p0 &&& (3 : Int32))), rv b116, .val .null, .val .null, uu] [(.ref b116)]
          have f132 := (F121_3.keep K131 nin0)
          have f133 := (F121_1.keep K131 nin0)
          have f134 := (f124.keep K131)
          have f135 := (F121_2.keep K131 nin0)
          have z136 := (Nat.le_trans z129 K131.1)
          have o137 := (o130.keep K131 all0)
          obtain ⟨v138, T138, L138, X138, Q138, st138⟩ := callVi X131 hx hZ (m67_length l Z a0 hw b116 b121_0 k121_0 (nar .byte (ch32.toInt8.toInt32)) ww10 T131.heap n0 z136 o137 f132 f133 f134 G.2.2.2.2.2.2.2.2.2.2.2.2.2.2.2.2.2.2.2.2.1 G.2.2.2.2.2.2.2.2.2.2.2.2.2.2.2.2.2.2.2.2.2.2.2.2.2.2.1 f135) rfl hown (wd_57 hw) (wd_58 hw) (wd_60 hw) (notFace_of_selects (args := #[]) (mvT hZ (wd_60 hw))) (wd_59 hw) (wd_61 hw) (wd_2 hw) (by decide) (hb hby at_115) 0 (by decide) (by decide) (by decide) (by decide) (by rw [hml]; rfl) b116 f134 [] [] rfl (lenOf pd_7 rfl) rfl (Nat.le_of_eq rfl) (Ls := #[iv p0, iv p1, iv p2, .val (.int (p0 &&& (3 : Int32))), rv b116, .val .null, .val .null, uu])
          obtain ⟨rfl, M138, e138⟩ := Q138
          have N138 := Fr.app N131 M138
          refine Rch.go st138 ?_
          show Aw p e below _ T138 m 118 #[iv p0, iv p1, iv p2, .val (.int (p0 &&& (3 : Int32))), rv b116, .val .null, .val .null, uu] [(.int 1)]
          refine Rch.go (fun t k => XS.iconst X138.here hx rfl (hb hby at_118) (XS.icmpNo X138.here hx rfl (hb hby at_119) rfl (by decide) (XS.aload X138.here hx rfl (hb hby at_122) rfl rfl (XS.iconst X138.here hx rfl (hb hby at_124) k)))) ?_
          show Aw p e below _ T138 m 125 #[iv p0, iv p1, iv p2, .val (.int (p0 &&& (3 : Int32))), rv b116, .val .null, .val .null, uu] [(.int 0), (.ref b116)]
          obtain ⟨v139, T139, L139, X139, Q139, st139⟩ := callVi X138 hx hZ (m68_charAt l Z a0 hw b116 ww10 b121_0 k121_0 (nar .byte (ch32.toInt8.toInt32)) ww11 T131.heap n0 z136 o137 f134 G.2.2.2.2.2.2.2.2.2.2.2.2.2.2.2.2.2.2.2.2.1 G.2.2.2.2.2.2.2.2.2.2.2.2.2.2.2.2.2.2.2.2.2.2.2.2.2.2.1 f135 f132 f133 G.2.2.2.2.2.2.2.2.2.2.2.2.2.2.2.2.2.2.2.2.2.2.2.2.2.2.2 G.2.2.2.2.2.2.2.2.2.2.2.2.2.2.2.2.2.2.2.2.2.1) e138 hown (wd_81 hw) (wd_82 hw) (wd_84 hw) (notFace_of_selects (args := #[]) (mvT hZ (wd_84 hw))) (wd_83 hw) (wd_85 hw) (wd_2 hw) (by decide) (hb hby at_125) 0 (by decide) (by decide) (by decide) (by decide) (by rw [hml]; rfl) b116 f134 [(.int 0)] [] rfl (lenOf pd_8 rfl) rfl (Nat.le_of_eq rfl) (Ls := #[iv p0, iv p1, iv p2, .val (.int (p0 &&& (3 : Int32))), rv b116, .val .null, .val .null, uu])
          obtain ⟨rfl, M139, e139⟩ := Q139
          have N139 := Fr.app N138 M139
          refine Rch.go st139 ?_
          show Aw p e below _ T139 m 128 #[iv p0, iv p1, iv p2, .val (.int (p0 &&& (3 : Int32))), rv b116, .val .null, .val .null, uu] [(.int (((nar .byte (ch32.toInt8.toInt32)) &&& (255 : Int32)).toUInt32.toUInt16.toUInt32.toInt32))]
          refine Rch.go (fun t k => XS.istore X139.here hx rfl (hb hby at_128) rfl  (l' := #[iv p0, iv p1, iv p2, .val (.int (p0 &&& (3 : Int32))), rv b116, .val .null, .val .null, .val (.int (((nar .byte (ch32.toInt8.toInt32)) &&& (255 : Int32)).toUInt32.toUInt16.toUInt32.toInt32))]) rfl (XS.iload X139.here hx rfl (hb hby at_130) rfl  (XS.bipush X139.here hx rfl (hb hby at_132) (XS.icmpYes X139.here hx rfl (pc0 := 134) (pc' := 145) rfl (hb hby at_134) rfl (XT.ii_ne_t (own_nc ha32 hl32 hg32)) (by decide) (by decide) (XS.iload X139.here hx rfl (hb hby at_145) rfl  (XS.bipush X139.here hx rfl (hb hby at_147) (XS.icmpYes X139.here hx rfl (pc0 := 149) (pc' := 160) rfl (hb hby at_149) rfl (XT.ii_ne_t (own_nc hb32 hl32 hg32)) (by decide) (by decide) (XS.iload X139.here hx rfl (hb hby at_160) rfl  (XS.bipush X139.here hx rfl (hb hby at_162) (XS.icmpYes X139.here hx rfl (pc0 := 164) (pc' := 172) rfl (hb hby at_164) rfl (XT.ii_ne_t (own_nc hc32 hl32 hg32)) (by decide) (by decide) (XS.aload X139.here hx rfl (hb hby at_172) rfl rfl (XS.aload X139.here hx rfl (hb hby at_174) rfl rfl k)))))))))))) ?_
          show Aw p e below _ T139 m 176 #[iv p0, iv p1, iv p2, .val (.int (p0 &&& (3 : Int32))), rv b116, .val .null, .val .null, .val (.int (((nar .byte (ch32.toInt8.toInt32)) &&& (255 : Int32)).toUInt32.toUInt16.toUInt32.toInt32))] [.null, .null]
          refine Rch.go (fun t k => acmp X139 hx rfl (x := .null) (y := .null) rfl rfl (pc0 := 176) (pc' := 179) (same := true) rfl (hb hby at_176) rfl (decide_eq_true rfl) (by decide) (by decide) (XS.iconst X139.here hx rfl (hb hby at_179) (XS.goto X139.here hx rfl (pc0 := 180) (pc' := 184) rfl (hb hby at_180) (by decide) (by decide) k))) ?_
          show Aw p e below _ T139 m 184 #[iv p0, iv p1, iv p2, .val (.int (p0 &&& (3 : Int32))), rv b116, .val .null, .val .null, .val (.int (((nar .byte (ch32.toInt8.toInt32)) &&& (255 : Int32)).toUInt32.toUInt16.toUInt32.toInt32))] [(.int 1)]
          refine Rch.valW X139 hx Y0 e139 (Nat.le_trans (Nat.le_trans (Nat.le_trans (Nat.le_trans (Nat.le_trans (Nat.le_refl _) E29.1) (Nat.le_of_eq W115.size.symm)) E116.1) K121.1) K131.1) (t := .boolean) hret hlk rfl (mayI (by simp)) (hb hby at_184) (by decide) (by decide) ?_
          exact ⟨rfl, N139⟩
      · show Aw p e below _ T0 m 36 #[iv p0, iv p1, iv p2, .val (.int (p0 &&& (3 : Int32))), uu, uu, uu, uu] [(.int 1), (.int (p0 &&& (3 : Int32)))]
        refine Rch.go (fun t k => XS.icmpYes X0.here hx rfl (pc0 := 36) (pc' := 66) rfl (hb hby at_36) rfl (XT.ii_ne_t hf36) (by decide) (by decide) (XS.iconst X0.here hx rfl (hb hby at_66) k)) ?_
        show Aw p e below _ T0 m 67 #[iv p0, iv p1, iv p2, .val (.int (p0 &&& (3 : Int32))), uu, uu, uu, uu] [(.int 2)]
        obtain ⟨T140, h140, k140, X140, e140, E140, A140, B140, st140⟩ := newPE (aty := .char) X0 hx hZ (wd_3 hw) e0 (g := (mkF m 67 #[iv p0, iv p1, iv p2, .val (.int (p0 &&& (3 : Int32))), uu, uu, uu, uu] [(.int 2)])) rfl (hb hby at_67) rfl (by decide) (cap := 2) (by decide) (by decide) (by decide) (by decide) (ad := "[C") (by decide +kernel)
        obtain ⟨b140, g140⟩ : ∃ z, z = h0.size := ⟨_, rfl⟩
        rw [← g140] at A140 B140 st140
        refine Rch.go st140 ?_
        have g_b140 : n0 ≤ b140 := Nat.le_trans Z0 (Nat.le_of_eq g140.symm)
        have V140 : Arv Z h140 b140 k140 .char (2 : Int32) [(.int 0), (.int 0)] (.int 0) := (Arv.new A140 (by decide)).pad (pad_rep [] (.int 0) 2)
        show Aw p e below _ T140 m 69 #[iv p0, iv p1, iv p2, .val (.int (p0 &&& (3 : Int32))), uu, uu, uu, uu] [(.ref b140)]
        refine Rch.go (fun t k => XS.astore X140.here hx rfl (hb hby at_69) rfl rfl (l' := #[iv p0, iv p1, iv p2, .val (.int (p0 &&& (3 : Int32))), uu, rv b140, uu, uu]) rfl (XS.aload X140.here hx rfl (hb hby at_71) rfl rfl (XS.iconst X140.here hx rfl (hb hby at_73) (XS.iloadN X140.here hx rfl (hb hby at_74) rfl  k)))) ?_
        show Aw p e below _ T140 m 75 #[iv p0, iv p1, iv p2, .val (.int (p0 &&& (3 : Int32))), uu, rv b140, uu, uu] [(.int p1), (.int 0), (.ref b140)]
        have z141 := (Nat.le_trans Z0 E140.1)
        have o142 := (O0.ext E140)
        obtain ⟨v143, T143, L143, X143, Q143, st143⟩ := callSt X140 hx hZ (pick l Z a0 hw p1 h140 n0 z141 o142) e140 hown (wd_67 hw) (wd_68 hw) (wd_70 hw) (wd_69 hw) (by decide) (hb hby at_75) 2 (by decide) (by decide) (by decide) (by decide) (by rw [hml]; rfl) [(.int p1)] [(.int 0), (.ref b140)] rfl (lenOf pd_8 rfl) rfl (Nat.le_of_eq rfl) (Ls := #[iv p0, iv p1, iv p2, .val (.int (p0 &&& (3 : Int32))), uu, rv b140, uu, uu])
        obtain ⟨ch143, rfl, hn143, hl143, hg143, M143, e143⟩ := Q143
        have N143 := Fr.app N0 M143
        refine Rch.go st143 ?_
        show Aw p e below _ T143 m 78 #[iv p0, iv p1, iv p2, .val (.int (p0 &&& (3 : Int32))), uu, rv b140, uu, uu] [(.int ch143), (.int 0), (.ref b140)]
        obtain ⟨c144, r144, q144, s144, u144, H144, G144⟩ := id V140
        obtain ⟨T145, h145, X145, e145, W145, st145⟩ := stC X143 hx hZ e143 r144 (j := (0 : Int32)) (inb_of s144 (by decide)) (g := (mkF m 78 #[iv p0, iv p1, iv p2, .val (.int (p0 &&& (3 : Int32))), uu, rv b140, uu, uu] [(.int ch143), (.int 0), (.ref b140)])) rfl rfl (hb hby at_78)
        rw [hn143] at W145
        refine Rch.go st145 ?_
        have V145 : Arv Z h145 b140 k140 .char (2 : Int32) [(.int ch143), (.int 0)] (.int 0) := Arv.set r144 q144 s144 u144 H144 G144 (by rw [← hn143]; exact (fits_nar_char _)) W145 0 rfl (Nat.le_of_ble_eq_true rfl)
        have N145 := Fr.snoc X145 N143 g_b140
        show Aw p e below _ T145 m 79 #[iv p0, iv p1, iv p2, .val (.int (p0 &&& (3 : Int32))), uu, rv b140, uu, uu] []
        refine Rch.go (fun t k => XS.aload X145.here hx rfl (hb hby at_79) rfl rfl (XS.iconst X145.here hx rfl (hb hby at_81) (XS.iloadN X145.here hx rfl (hb hby at_82) rfl  k))) ?_
        show Aw p e below _ T145 m 83 #[iv p0, iv p1, iv p2, .val (.int (p0 &&& (3 : Int32))), uu, rv b140, uu, uu] [(.int p2), (.int 1), (.ref b140)]
        have z146 := (Nat.le_trans z141 (Nat.le_of_eq W145.size.symm))
        have o147 := (o142.wr W145 g_b140)
        obtain ⟨v148, T148, L148, X148, Q148, st148⟩ := callSt X145 hx hZ (pick l Z a0 hw p2 h145 n0 z146 o147) e145 hown (wd_67 hw) (wd_68 hw) (wd_70 hw) (wd_69 hw) (by decide) (hb hby at_83) 2 (by decide) (by decide) (by decide) (by decide) (by rw [hml]; rfl) [(.int p2)] [(.int 1), (.ref b140)] rfl (lenOf pd_8 rfl) rfl (Nat.le_of_eq rfl) (Ls := #[iv p0, iv p1, iv p2, .val (.int (p0 &&& (3 : Int32))), uu, rv b140, uu, uu])
        obtain ⟨ch148, rfl, hn148, hl148, hg148, M148, e148⟩ := Q148
        have N148 := Fr.app N145 M148
        refine Rch.go st148 ?_
        show Aw p e below _ T148 m 86 #[iv p0, iv p1, iv p2, .val (.int (p0 &&& (3 : Int32))), uu, rv b140, uu, uu] [(.int ch148), (.int 1), (.ref b140)]
        obtain ⟨c149, r149, q149, s149, u149, H149, G149⟩ := id V145
        obtain ⟨T150, h150, X150, e150, W150, st150⟩ := stC X148 hx hZ e148 r149 (j := (1 : Int32)) (inb_of s149 (by decide)) (g := (mkF m 86 #[iv p0, iv p1, iv p2, .val (.int (p0 &&& (3 : Int32))), uu, rv b140, uu, uu] [(.int ch148), (.int 1), (.ref b140)])) rfl rfl (hb hby at_86)
        rw [hn148] at W150
        refine Rch.go st150 ?_
        have V150 : Arv Z h150 b140 k140 .char (2 : Int32) [(.int ch143), (.int ch148)] (.int 0) := Arv.set r149 q149 s149 u149 H149 G149 (by rw [← hn148]; exact (fits_nar_char _)) W150 1 rfl (Nat.le_of_ble_eq_true rfl)
        have N150 := Fr.snoc X150 N148 g_b140
        show Aw p e below _ T150 m 87 #[iv p0, iv p1, iv p2, .val (.int (p0 &&& (3 : Int32))), uu, rv b140, uu, uu] []
        obtain ⟨T151, h151, X151, e151, E151, A151, D151, -, st151⟩ := newO X150 hx hZ hown (wd_0 hw) (wd_1 hw) (wd_2 hw) e150 (g := (mkF m 87 #[iv p0, iv p1, iv p2, .val (.int (p0 &&& (3 : Int32))), uu, rv b140, uu, uu] [])) rfl (hb hby at_87) (by decide) (by decide)
        obtain ⟨b151, g151⟩ : ∃ z, z = h150.size := ⟨_, rfl⟩
        rw [← g151] at A151 D151 st151
        refine Rch.go st151 ?_
        have z152 := (Nat.le_trans z146 (Nat.le_of_eq W150.size.symm))
        have g_b151 : n0 ≤ b151 := Nat.le_trans z152 (Nat.le_of_eq g151.symm)
        have F151_value : Fld Z h151 b151 "java/lang/String" "value" "[B" .null := (D151 (Or.inr (wd_16 hw)) (ty := (.array .byte)) (by decide))
        have F151_coder : Fld Z h151 b151 "java/lang/String" "coder" "B" (.int 0) := (D151 (Or.inr (wd_17 hw)) (ty := .byte) (by decide))
        show Aw p e below _ T151 m 90 #[iv p0, iv p1, iv p2, .val (.int (p0 &&& (3 : Int32))), uu, rv b140, uu, uu] [(.ref b151)]
        refine Rch.go (fun t k => XS.dup X151.here hx rfl (hb hby at_90) rfl rfl (XS.aload X151.here hx rfl (hb hby at_91) rfl rfl k)) ?_
        show Aw p e below _ T151 m 93 #[iv p0, iv p1, iv p2, .val (.int (p0 &&& (3 : Int32))), uu, rv b140, uu, uu] [(.ref b140), (.ref b151), (.ref b151)]
        have f153 := (V150.ext E151)
        have z154 := (Nat.le_trans z152 E151.1)
        have o155 := ((o147.wr W150 g_b140).ext E151)
        obtain ⟨v156, T156, L156, X156, Q156, st156⟩ := callSp X151 hx hZ (m70_init l Z a0 hw b151 b140 k140 ch143 ch148 ww10 h151 n0 z154 o155 f153 G.2.2.2.2.2.2.2.2.2.2.2.2.2.2.2.2.2.2.2.2.1 G.2.2.2.2.2.2.2.2.2.2.2.2.2.2.2.2.2.2.2.2.2.2.2.2.2.2.1 hl143 hl148 A151 F151_coder g_b151 F151_value) e151 hown rfl (wd_4 hw) (wd_5 hw) (wd_6 hw) (wd_2 hw) (by decide) (hb hby at_93) 1 (by decide) (by decide) (by decide) (by decide) (by rw [hml]; rfl) b151 [(.ref b140)] [(.ref b151)] rfl (lenOf pd_4 rfl) rfl (Nat.le_of_eq rfl) (Ls := #[iv p0, iv p1, iv p2, .val (.int (p0 &&& (3 : Int32))), uu, rv b140, uu, uu])
        obtain ⟨b156_0, k156_0, rfl, M156, K156, zz156_0, F156_0, F156_1, F156_2, F156_3⟩ := Q156
        have N156 := Fr.app N150 M156
        refine Rch.go st156 ?_
        have g_b156_0 : n0 ≤ b156_0 := Nat.le_trans z154 zz156_0
        show Aw p e below _ T156 m 96 #[iv p0, iv p1, iv p2, .val (.int (p0 &&& (3 : Int32))), uu, rv b140, uu, uu] [(.ref b151)]
        refine Rch.go (fun t k => XS.astore X156.here hx rfl (hb hby at_96) rfl rfl (l' := #[iv p0, iv p1, iv p2, .val (.int (p0 &&& (3 : Int32))), rv b151, rv b140, uu, uu]) rfl (XS.aload X156.here hx rfl (hb hby at_98) rfl rfl k)) ?_
        show Aw p e below _ T156 m 100 #[iv p0, iv p1, iv p2, .val (.int (p0 &&& (3 : Int32))), rv b151, rv b140, uu, uu] [(.ref b151)]
        have lt157 := (Nat.lt_of_lt_of_le (Nat.lt_of_lt_of_le (Nat.lt_of_lt_of_le (G.2.2.2.2.2.2.2.2.2.1.ext O0.2).lt E140.1) (Nat.le_of_eq W145.size.symm)) (Nat.le_of_eq W150.size.symm))
        have ne158 : ro4 ≠ b151 := Nat.ne_of_lt (Nat.lt_of_lt_of_le lt157 (Nat.le_of_eq g151.symm))
        have f159 := (A151.keep K156)
        have lt160 := (Nat.lt_of_lt_of_le (Nat.lt_of_lt_of_le (Nat.lt_of_lt_of_le (G.2.2.2.2.2.2.2.2.2.2.2.2.1.ext O0.2).lt E140.1) (Nat.le_of_eq W145.size.symm)) (Nat.le_of_eq W150.size.symm))
        have ne161 : ro6 ≠ b151 := Nat.ne_of_lt (Nat.lt_of_lt_of_le lt160 (Nat.le_of_eq g151.symm))
        have lt162 := (Nat.lt_of_lt_of_le (Nat.lt_of_lt_of_le (Nat.lt_of_lt_of_le (G.2.2.2.2.2.2.2.2.2.2.2.2.2.2.2.1.ext O0.2).lt E140.1) (Nat.le_of_eq W145.size.symm)) (Nat.le_of_eq W150.size.symm))
        have ne163 : ro8 ≠ b151 := Nat.ne_of_lt (Nat.lt_of_lt_of_le lt162 (Nat.le_of_eq g151.symm))
        have z164 := (Nat.le_trans z154 K156.1)
        have o165 := (o155.keep K156 (allS g_b151 all0))
        obtain ⟨v166, T166, L166, X166, Q166, st166⟩ := callSt X156 hx hZ (m75_of l Z a0 hw b151 ro0 kk_ro0 ro1 ro2 ro3 ro4 ww10 ro5 b156_0 kk_ro5 k156_0 (nar .byte (ch143.toInt8.toInt32)) (nar .byte (ch148.toInt8.toInt32)) ro6 ro7 kk_ro7 ro8 ro9 kk_ro9 T156.heap n0 z164 o165 G.1 G.2.2.2.2.2.2.2.2.2.2.2.2.2.2.2.2.2.2.2.2.2.2.1 G.2.1 G.2.2.2.2.2.2.2.2.1 G.2.2.2.2.2.2.2.2.2.1 ne158 f159 G.2.2.2.2.2.2.2.2.2.2.2.2.2.2.2.2.2.2.2.2.1 G.2.2.2.2.2.2.2.2.2.2.2.2.2.2.2.2.2.2.2.2.2.2.2.2.2.2.1 G.2.2.2.2.2.2.2.2.2.2.2.2.2.2.2.2.2.1 F156_2 G.2.2.2.2.2.2.2.2.2.2.1 F156_3 G.2.2.2.2.2.2.2.2.2.2.2.2.2.2.2.2.2.2.2.2.2.2.2.1 F156_1 G.2.2.2.2.2.2.2.2.2.2.2.1 G.2.2.2.2.2.2.2.2.2.2.2.2.1 ne161 G.2.2.2.2.2.2.2.2.2.2.2.2.2.2.2.2.2.2.1 G.2.2.2.2.2.2.2.2.2.2.2.2.2.1 G.2.2.2.2.2.2.2.2.2.2.2.2.2.2.2.2.2.2.2.2.2.2.2.2.1 G.2.2.2.2.2.2.2.2.2.2.2.2.2.2.1 G.2.2.2.2.2.2.2.2.2.2.2.2.2.2.2.1 ne163 G.2.2.2.2.2.2.2.2.2.2.2.2.2.2.2.2.2.2.2.1 G.2.2.2.2.2.2.2.2.2.2.2.2.2.2.2.2.1 G.2.2.2.2.2.2.2.2.2.2.2.2.2.2.2.2.2.2.2.2.2.2.2.2.2.1) rfl hown (wd_22 hw) (wd_23 hw) (wd_25 hw) (wd_24 hw) (by decide) (hb hby at_100) 0 (by decide) (by decide) (by decide) (by decide) (by rw [hml]; rfl) [(.ref b151)] [] rfl (lenOf pd_3 rfl) rfl (Nat.le_of_eq rfl) (Ls := #[iv p0, iv p1, iv p2, .val (.int (p0 &&& (3 : Int32))), rv b151, rv b140, uu, uu])
        obtain ⟨rfl, M166, K166⟩ := Q166
        have N166 := Fr.app N156 M166
        refine Rch.go st166 ?_
        show Aw p e below _ T166 m 103 #[iv p0, iv p1, iv p2, .val (.int (p0 &&& (3 : Int32))), rv b151, rv b140, uu, uu] [.null]
        refine Rch.go (fun t k => XS.astore X166.here hx rfl (hb hby at_103) rfl rfl (l' := #[iv p0, iv p1, iv p2, .val (.int (p0 &&& (3 : Int32))), rv b151, .val .null, uu, uu]) rfl (XS.aconstNull X166.here hx rfl (hb hby at_105) (XS.astore X166.here hx rfl (hb hby at_106) rfl rfl (l' := #[iv p0, iv p1, iv p2, .val (.int (p0 &&& (3 : Int32))), rv b151, .val .null, .val .null, uu]) rfl (XS.aload X166.here hx rfl (hb hby at_108) rfl rfl (XS.ifnullNo X166.here hx rfl (hb hby at_110) rfl (XS.aload X166.here hx rfl (hb hby at_113) rfl rfl k)))))) ?_
        show Aw p e below _ T166 m 115 #[iv p0, iv p1, iv p2, .val (.int (p0 &&& (3 : Int32))), rv b151, .val .null, .val .null, uu] [(.ref b151)]
        have f167 := (F156_3.keep K166 nin0)
        have f168 := (F156_1.keep K166 nin0)
        have f169 := (f159.keep K166)
        have f170 := (F156_2.keep K166 nin0)
        have z171 := (Nat.le_trans z164 K166.1)
        have o172 := (o165.keep K166 all0)
        obtain ⟨v173, T173, L173, X173, Q173, st173⟩ := callVi X166 hx hZ (m82_length l Z a0 hw b151 b156_0 k156_0 (nar .byte (ch143.toInt8.toInt32)) (nar .byte (ch148.toInt8.toInt32)) ww10 T166.heap n0 z171 o172 f167 f168 f169 G.2.2.2.2.2.2.2.2.2.2.2.2.2.2.2.2.2.2.2.2.1 G.2.2.2.2.2.2.2.2.2.2.2.2.2.2.2.2.2.2.2.2.2.2.2.2.2.2.1 f170) rfl hown (wd_57 hw) (wd_58 hw) (wd_60 hw) (notFace_of_selects (args := #[]) (mvT hZ (wd_60 hw))) (wd_59 hw) (wd_61 hw) (wd_2 hw) (by decide) (hb hby at_115) 0 (by decide) (by decide) (by decide) (by decide) (by rw [hml]; rfl) b151 f169 [] [] rfl (lenOf pd_7 rfl) rfl (Nat.le_of_eq rfl) (Ls := #[iv p0, iv p1, iv p2, .val (.int (p0 &&& (3 : Int32))), rv b151, .val .null, .val .null, uu])
        obtain ⟨rfl, M173, e173⟩ := Q173
        have N173 := Fr.app N166 M173
        refine Rch.go st173 ?_
        show Aw p e below _ T173 m 118 #[iv p0, iv p1, iv p2, .val (.int (p0 &&& (3 : Int32))), rv b151, .val .null, .val .null, uu] [(.int 2)]
        refine Rch.go (fun t k => XS.iconst X173.here hx rfl (hb hby at_118) (XS.icmpYes X173.here hx rfl (pc0 := 119) (pc' := 172) rfl (hb hby at_119) rfl (by decide) (by decide) (by decide) (XS.aload X173.here hx rfl (hb hby at_172) rfl rfl (XS.aload X173.here hx rfl (hb hby at_174) rfl rfl (acmp X173 hx rfl (x := .null) (y := .null) rfl rfl (pc0 := 176) (pc' := 179) (same := true) rfl (hb hby at_176) rfl (decide_eq_true rfl) (by decide) (by decide) (XS.iconst X173.here hx rfl (hb hby at_179) (XS.goto X173.here hx rfl (pc0 := 180) (pc' := 184) rfl (hb hby at_180) (by decide) (by decide) k))))))) ?_
        show Aw p e below _ T173 m 184 #[iv p0, iv p1, iv p2, .val (.int (p0 &&& (3 : Int32))), rv b151, .val .null, .val .null, uu] [(.int 1)]
        refine Rch.valW X173 hx Y0 e173 (Nat.le_trans (Nat.le_trans (Nat.le_trans (Nat.le_trans (Nat.le_trans (Nat.le_trans (Nat.le_refl _) E140.1) (Nat.le_of_eq W145.size.symm)) (Nat.le_of_eq W150.size.symm)) E151.1) K156.1) K166.1) (t := .boolean) hret hlk rfl (mayI (by simp)) (hb hby at_184) (by decide) (by decide) ?_
        exact ⟨rfl, N173⟩
theorem comes_1 {Post : Tables → Env → Array Value → State → Outcome → State → Prop} (hpost : ∀ tb e args s v u, (limb_1_1.after args s (.returned v) u = true ∧ limb_1_2.after args s (.returned v) u = true ∧ True) → ReturnedEndW s (.returned v) u (Jvm.fieldLocs frame_1_writes args s ++ Jvm.arrayLocs frame_1_arrays args s ++ Jvm.staticLocs frame_1_statics s) 24 1152 → Post tb e args s (.returned v) u) :
    ArmFor flags0 classFile x code maxLocals ret World_1 tables_1 room_1 Calls_1 rest_1 Pre_1 Post := by
  intro l hfl _ _ p e ha hc hk s m args below hf hA hF happ hP
  obtain ⟨hcalls, hrest, hpre⟩ := hP
  obtain ⟨-, -, -, hnamed, -, -, -, hat⟩ := (Spec.applies_iff hf).mp happ
  obtain ⟨hg, hn⟩ := and_e (Cond.before_iff.mp (show (Jvm.Cond.and given_1 narrow_1).before args s = true from hpre))
  obtain ⟨gv0, hg⟩ := and_e hg
  obtain ⟨gv1, hg⟩ := and_e hg
  obtain ⟨gv2, hg⟩ := and_e hg
  have gv3 := hg
  obtain ⟨w0, w1, w2, rfl⟩ : ∃ w0 w1 w2 : Value, args = #[w0, w1, w2] := by
    have hs : args.size = 3 := by simpa [Cond.value, given_1] using gv0
    obtain ⟨L⟩ := args
    match L, hs with
    | [w0, w1, w2], _ => exact ⟨w0, w1, w2, rfl⟩
  have hw : HW s _ := fun d (hd : d ∈ tables_1) => atoms_spec (ws := Jvm.Cond.code x code maxLocals ret :: tables_1) hat d (List.mem_cons_of_mem _ hd)
  have hfit : Fit s := fun {y c} hc i hi => by
    obtain ⟨ha, rfl⟩ := Array.getElem?_eq_some_iff.mp hc
    have q := List.all_eq_true.mp ((Array.all_eq_true_iff_forall_mem.mp hF) _ (Array.getElem_mem ha)) i (List.mem_range.mpr hi)
    simpa [Array.getElem?_eq_getElem hi] using q
  obtain ⟨i0, ei0⟩ := is_v gv1
  obtain rfl : w0 = (.int i0) := Option.some.inj ei0
  obtain ⟨i1, ei1⟩ := is_v gv2
  obtain rfl : w1 = (.int i1) := Option.some.inj ei1
  obtain ⟨i2, ei2⟩ := is_v gv3
  obtain rfl : w2 = (.int i2) := Option.some.inj ei2
  obtain ⟨n0, hn⟩ := and_e hn
  obtain ⟨n1, hn⟩ := and_e hn
  obtain ⟨n2, hn⟩ := and_e hn
  obtain ⟨n3, hn⟩ := and_e hn
  obtain ⟨n4, hn⟩ := and_e hn
  obtain ⟨n5, hn⟩ := and_e hn
  obtain ⟨n6, hn⟩ := and_e hn
  obtain ⟨n7, hn⟩ := and_e hn
  obtain ⟨n8, hn⟩ := and_e hn
  obtain ⟨n9, hn⟩ := and_e hn
  obtain ⟨n10, hn⟩ := and_e hn
  obtain ⟨n11, hn⟩ := and_e hn
  obtain ⟨n12, hn⟩ := and_e hn
  obtain ⟨n13, hn⟩ := and_e hn
  obtain ⟨n14, hn⟩ := and_e hn
  obtain ⟨n15, hn⟩ := and_e hn
  obtain ⟨n16, hn⟩ := and_e hn
  obtain ⟨n17, hn⟩ := and_e hn
  obtain ⟨n18, hn⟩ := and_e hn
  obtain ⟨n19, hn⟩ := and_e hn
  obtain ⟨n20, hn⟩ := and_e hn
  obtain ⟨n21, hn⟩ := and_e hn
  obtain ⟨n22, hn⟩ := and_e hn
  have n23 := hn
  obtain ⟨hsets, hown0⟩ := atoms_of _ (rest_1_c_eq ▸ (show rest_1_c.before _ s = true from hrest))
  obtain ⟨ro0, ev_ro0⟩ := arr_v n0
  obtain ⟨ro1, ev_ro1⟩ := exa_v n3
  obtain ⟨ro2, ev_ro2⟩ := exa_v n5
  obtain ⟨ro3, ev_ro3⟩ := exa_v n7
  obtain ⟨ro4, ev_ro4⟩ := exa_v n9
  obtain ⟨ro5, ev_ro5⟩ := arr_v n11
  obtain ⟨ro6, ev_ro6⟩ := exa_v n13
  obtain ⟨ro7, ev_ro7⟩ := arr_v n15
  obtain ⟨ro8, ev_ro8⟩ := exa_v n17
  obtain ⟨ro9, ev_ro9⟩ := arr_v n19
  have ev_10 := own_eqI n10
  have ev_11 := own_eqI n14
  have ev_12 := own_eqI n18
  obtain ⟨ww10, ev_ww10⟩ := is_v (Cond.before_iff.mp (hsets _ (List.mem_of_getElem? (i := 1) rfl)))
  obtain ⟨ww11, ev_ww11, rf_ww11⟩ := isR_v (Cond.before_iff.mp (hsets _ (List.mem_of_getElem? (i := 8) rfl)))
  obtain ⟨cl_ro0, ar_ro0, sz_ro0, le_ro0⟩ := own_len ev_ro0 n0 n2
  obtain ⟨kk_ro0, q_ro0⟩ : ∃ z, z = cl_ro0.cls := ⟨_, rfl⟩
  have el_ro0_0 := own_elem ar_ro0 ev_ro0 (own_eqR ev_ro1 n4)
  have el_ro0_1 := own_elem ar_ro0 ev_ro0 (own_eqR ev_ro2 n6)
  have el_ro0_2 := own_elem ar_ro0 ev_ro0 (own_eqR ev_ro3 n8)
  obtain ⟨cl_ro5, ar_ro5, sz_ro5, le_ro5⟩ := own_len ev_ro5 n11 n12
  obtain ⟨kk_ro5, q_ro5⟩ : ∃ z, z = cl_ro5.cls := ⟨_, rfl⟩
  have el_ro5_0 := own_elem ar_ro5 ev_ro5 (own_eqI n21)
  obtain ⟨cl_ro7, ar_ro7, sz_ro7, le_ro7⟩ := own_len ev_ro7 n15 n16
  obtain ⟨kk_ro7, q_ro7⟩ : ∃ z, z = cl_ro7.cls := ⟨_, rfl⟩
  have el_ro7_0 := own_elem ar_ro7 ev_ro7 (own_eqI n22)
  obtain ⟨cl_ro9, ar_ro9, sz_ro9, le_ro9⟩ := own_len ev_ro9 n19 n20
  obtain ⟨kk_ro9, q_ro9⟩ : ∃ z, z = cl_ro9.cls := ⟨_, rfl⟩
  have el_ro9_0 := own_elem ar_ro9 ev_ro9 (own_eqI n23)
  have G : Olds s ro0 ro1 ro2 ro3 ro4 ro5 ro6 ro7 ro8 ro9 ww10 ww11 kk_ro0 kk_ro5 kk_ro7 kk_ro9 := ⟨(Sta.start ev_ro0 (Or.inl (wd_41 hw))), (Exa.start ev_ro0 n1), (Sta.start ev_ro1 (Or.inr ⟨(wd_24 hw), (wd_38 hw)⟩)), (Exa.start ev_ro1 n3), (Sta.start ev_ro2 (Or.inr ⟨(wd_24 hw), (wd_39 hw)⟩)), (Exa.start ev_ro2 n5), (Sta.start ev_ro3 (Or.inr ⟨(wd_24 hw), (wd_40 hw)⟩)), (Exa.start ev_ro3 n7), (own_fldV ev_ro1 ev_ro4), (Exa.start ev_ro4 n9), (own_fldV ev_ro4 ev_ro5), (own_fldV ev_ro2 ev_ro6), (Exa.start ev_ro6 n13), (own_fldV ev_ro6 ev_ro7), (own_fldV ev_ro3 ev_ro8), (Exa.start ev_ro8 n17), (own_fldV ev_ro8 ev_ro9), (own_fldV ev_ro4 ev_10), (own_fldV ev_ro6 ev_11), (own_fldV ev_ro8 ev_12), (Sta.start ev_ww10 (Or.inl (((hsets _ (List.mem_of_getElem? (i := 0) rfl)))))), (Sta.start ev_ww11 (Or.inl (((hsets _ (List.mem_of_getElem? (i := 7) rfl)))))), (q_ro0 ▸ Arv.start hfit ar_ro0 sz_ro0 le_ro0 (by decide) (by first | decide | rfl) ⟨el_ro0_0, el_ro0_1, el_ro0_2, trivial⟩), (q_ro5 ▸ Arv.start hfit ar_ro5 sz_ro5 le_ro5 (by decide) (by first | decide | rfl) ⟨el_ro5_0, trivial⟩), (q_ro7 ▸ Arv.start hfit ar_ro7 sz_ro7 le_ro7 (by decide) (by first | decide | rfl) ⟨el_ro7_0, trivial⟩), (q_ro9 ▸ Arv.start hfit ar_ro9 sz_ro9 le_ro9 (by decide) (by first | decide | rfl) ⟨el_ro9_0, trivial⟩), (own_neI ev_ww10 (Cond.before_iff.mp (hsets _ (List.mem_of_getElem? (i := 2) rfl)))), (rf_ww11)⟩
  obtain ⟨n, o, h1, h2, h3, _, L, rfl, ⟨rfl, N⟩, hq⟩ := law_1 l s _ hw i0 i1 i2 ro0 ro1 ro2 ro3 ro4 ro5 ro6 ro7 ro8 ro9 ww10 ww11 kk_ro0 kk_ro5 kk_ro7 kk_ro9 s.heap s.heap.size (Nat.le_refl _) (Old.start s) G p e ha hc hk s m _ below hf ((Spec.applies_iff_loose hf).mp happ).1 ⟨rfl, State.Warmed39.refl s, rfl, CHv.start (own_ew (wd_14 hw)) (fun p hp => hcalls.1 p hp) (hsets _ (List.mem_of_getElem? (i := 2) rfl)) (wd_15 hw) (wd_1 hw)⟩ trivial
  refine ⟨n, _, h1, h2, h3, hpost _ _ _ _ _ _ ⟨Cond.after_iff.mpr rfl, Cond.after_iff.mpr (eq_i res_at (Term.int_eval (1)) rfl), trivial⟩ ⟨hq.1, hq.2.1, hq.2.2.1, (hq.2.2.2.sift fun y hy => Or.inr (N y hy)).mono (by decide) (by decide)⟩⟩
theorem main_1_1 : Claimed_1_1 := comes_1 fun _ _ _ _ _ _ h hF => ⟨h.1, hF⟩
theorem main_1_2 : Claimed_1_2 := comes_1 fun _ _ _ _ _ _ h hF => ⟨h.2.1, hF⟩
end Jvm.Pilot.@@N@@
namespace Jvm.Pilot.@@N@@
open Jvm Jvm.ClassFile Sem Op Lib Jvm.Free Jvm.Stand Jvm.Pilot.@@N@@.Jvm.D
/-! MADE BY PROGRAM (witnessworld.py) out of the Statement's table words and the real class files: 22 classes; the members and pool entries that the words name. The judged class is class 1, her method 2. -/
namespace start1
open Jvm.ClassFile
def u (s : String) : CpInfo := .utf8 (stringToUtf16 s)
/-- a pool by its gaps: so many unusable entries, then the entry; so many at the end -/
def gap : Nat → List CpInfo → List CpInfo
  | 0, r => r
  | n + 1, r => .unusable :: gap n r
def poolList (es : List (Nat × CpInfo)) (last : Nat) : List CpInfo := es.foldr (fun e r => gap e.1 (e.2 :: r)) (gap last [])
def pool (es : List (Nat × CpInfo)) (last : Nat) : Array CpInfo := ⟨poolList es last⟩
def fileOf (pool : Array CpInfo) (this : Nat) (attrs : Array Attribute := #[]) (ms : Array MethodInfo := #[]) (fl : Nat := 33) (sup : Nat := 0) (ifs : Array Nat := #[]) (fds : Array FieldInfo := #[]) : ClassFile where
  minorVersion := 0
  majorVersion := 65
  constantPool := pool
  accessFlags := fl
  thisClass := this
  superClass := sup
  interfaces := ifs
  fields := fds
  methods := ms
  attributes := attrs
def plain (name : String) (sup : Option ClassId) : Class where
  name := name
  kind := .ordinary
  loader := none
  accessFlags := 33
  super := sup
  interfaces := #[]
  cf := none
  fields := #[]
  methods := #[]
  instanceTypes := #[]
  staticTypes := #[]
  resolved := #[]
  callSites := []
  init := .initialized
  statics := none
  mirror := none

def pool0 : Array CpInfo := pool [(5, u "<init>"), (0, u "()V"), (1, .class_ 10), (1, u "java/lang/Object"), (85, u "clone"), (0, u "()Ljava/lang/Object;")] 26

def k0c0 : Code := { maxStack := 0, maxLocals := 1, code := object_method_1_code, exceptionTable := #[], attributes := #[] }
def k0m0 : Method := { name := "<init>", desc := "()V", sig := { parameters := [], returnType := none }, accessFlags := 1, code := some k0c0 }
def k0m1 : Method := { name := "clone", desc := "()Ljava/lang/Object;", sig := { parameters := [], returnType := some (.object "java/lang/Object") }, accessFlags := 260, code := none }
/-- java/lang/Object -/
def k0 : Class := { plain "java/lang/Object" none with
  accessFlags := 33
  interfaces := #[]
  cf := some (fileOf pool0 8 #[] #[{ accessFlags := 1, nameIndex := 5, descriptorIndex := 6, attributes := #[] }, { accessFlags := 260, nameIndex := 96, descriptorIndex := 97, attributes := #[] }] 33 0 #[] #[])
  fields := #[]
  methods := #[k0m0, k0m1]
  instanceTypes := #[]
  staticTypes := #[]
  resolved := Array.replicate 124 none
  statics := none }

def pool1 : Array CpInfo := pool [(2, .class_ 4), (1, u "java/lang/Object"), (0, u "<init>"), (0, u "()V"), (0, .class_ 8), (0, u "java/lang/String"), (0, .methodref 7 10), (0, .nameAndType 5 11), (0, u "([C)V"), (0, .methodref 13 14), (0, .class_ 15), (0, .nameAndType 16 17), (0, u "com/example/knit_theories/knittheories/model/GatherOfPinLaw"), (0, u "pick"), (0, u "(I)C"), (0, .methodref 19 20), (0, .class_ 21), (0, .nameAndType 22 23), (0, u "com/example/knit_theories/knittheories/model/Gather"), (0, u "of"), (0, u "(Ljava/lang/String;)Lcom/example/knit_theories/knittheories/model/Gather;"), (0, .methodref 7 25), (0, .nameAndType 26 27), (0, u "length"), (0, u "()I"), (0, .methodref 7 29), (0, .nameAndType 30 17), (0, u "charAt"), (0, .fieldref 19 32), (0, .nameAndType 33 34), (0, u "AT_MOST"), (0, u "Lcom/example/knit_theories/knittheories/model/Gather;"), (0, .fieldref 19 36), (0, .nameAndType 37 34), (0, u "BELOW"), (0, .fieldref 19 39), (0, .nameAndType 40 34), (0, u "ANY"), (3, u "law"), (0, u "(III)Z")] 2

def k1m0 : Method := { name := "<init>", desc := "()V", sig := { parameters := [], returnType := none }, accessFlags := 1, code := none }
def k1c1 : Code := { maxStack := 2, maxLocals := 2, code := method_2_code, exceptionTable := #[], attributes := #[] }
def k1m1 : Method := { name := "pick", desc := "(I)C", sig := { parameters := [.int], returnType := some .char }, accessFlags := 10, code := some k1c1 }
def k1c2 : Code := { maxStack := 3, maxLocals := 8, code := code, exceptionTable := #[], attributes := #[] }
def k1m2 : Method := { name := "law", desc := "(III)Z", sig := { parameters := [.int, .int, .int], returnType := some .boolean }, accessFlags := 9, code := some k1c2 }
/-- com/example/knit_theories/knittheories/model/GatherOfPinLaw -/
def k1 : Class := { plain "com/example/knit_theories/knittheories/model/GatherOfPinLaw" (some 0) with
  accessFlags := 49
  interfaces := #[]
  cf := some (fileOf pool1 13 #[] #[{ accessFlags := 1, nameIndex := 5, descriptorIndex := 6, attributes := #[] }, { accessFlags := 10, nameIndex := 16, descriptorIndex := 17, attributes := #[] }, { accessFlags := 9, nameIndex := 44, descriptorIndex := 45, attributes := #[] }] 49 2 #[] #[])
  fields := #[]
  methods := #[k1m0, k1m1, k1m2]
  instanceTypes := #[]
  staticTypes := #[]
  resolved := Array.replicate 48 none
  statics := none }

def pool2 : Array CpInfo := pool [(1, .class_ 2), (0, u "java/io/Serializable"), (0, .class_ 4), (0, u "java/lang/Object")] 2

/-- java/io/Serializable -/
def k2 : Class := { plain "java/io/Serializable" (some 0) with
  accessFlags := 1537
  interfaces := #[]
  cf := some (fileOf pool2 1 #[] #[] 1537 3 #[] #[])
  fields := #[]
  methods := #[]
  instanceTypes := #[]
  staticTypes := #[]
  resolved := Array.replicate 7 none
  statics := none }

def pool3 : Array CpInfo := pool [(1, .class_ 2), (0, u "java/lang/Comparable"), (0, .class_ 4), (0, u "java/lang/Object")] 7

/-- java/lang/Comparable -/
def k3 : Class := { plain "java/lang/Comparable" (some 0) with
  accessFlags := 1537
  interfaces := #[]
  cf := some (fileOf pool3 1 #[] #[] 1537 3 #[] #[])
  fields := #[]
  methods := #[]
  instanceTypes := #[]
  staticTypes := #[]
  resolved := Array.replicate 12 none
  statics := none }

def pool4 : Array CpInfo := pool [(2, .class_ 4), (1, u "java/lang/CharSequence"), (42, .class_ 48), (0, u "java/lang/CharSequence$1CodePointIterator"), (10, .class_ 60), (0, u "java/lang/CharSequence$1CharIterator"), (5, .class_ 67), (0, u "java/lang/Object")] 63

/-- java/lang/CharSequence -/
def k4 : Class := { plain "java/lang/CharSequence" (some 0) with
  accessFlags := 1537
  interfaces := #[]
  cf := some (fileOf pool4 2 #[.nestMembers #[47, 59]] #[] 1537 66 #[] #[])
  fields := #[]
  methods := #[]
  instanceTypes := #[]
  staticTypes := #[]
  resolved := Array.replicate 131 none
  statics := none }

def pool5 : Array CpInfo := pool [(1, .class_ 2), (0, u "java/lang/constant/Constable"), (0, .class_ 4), (0, u "java/lang/Object")] 6

/-- java/lang/constant/Constable -/
def k5 : Class := { plain "java/lang/constant/Constable" (some 0) with
  accessFlags := 1537
  interfaces := #[]
  cf := some (fileOf pool5 1 #[] #[] 1537 3 #[] #[])
  fields := #[]
  methods := #[]
  instanceTypes := #[]
  staticTypes := #[]
  resolved := Array.replicate 11 none
  statics := none }

def pool6 : Array CpInfo := pool [(1, .class_ 2), (0, u "java/lang/constant/ConstantDesc"), (0, .class_ 4), (0, u "java/lang/Object")] 32

/-- java/lang/constant/ConstantDesc -/
def k6 : Class := { plain "java/lang/constant/ConstantDesc" (some 0) with
  accessFlags := 1537
  interfaces := #[]
  cf := some (fileOf pool6 1 #[] #[] 1537 3 #[] #[])
  fields := #[]
  methods := #[]
  instanceTypes := #[]
  staticTypes := #[]
  resolved := Array.replicate 37 none
  statics := none }

def pool7 : Array CpInfo := pool [(1, .methodref 2 3), (0, .class_ 4), (0, .nameAndType 5 6), (0, u "java/lang/Object"), (0, u "<init>"), (0, u "()V"), (0, .string 8), (0, u ""), (0, .fieldref 10 11), (0, .class_ 12), (0, .nameAndType 13 14), (0, u "java/lang/String"), (0, u "value"), (0, u "[B"), (0, .fieldref 10 16), (0, .nameAndType 17 18), (0, u "coder"), (0, u "B"), (2, u "hash"), (0, u "I"), (2, u "hashIsZero"), (0, u "Z"), (0, .methodref 10 28), (0, .nameAndType 5 29), (0, u "([CIILjava/lang/Void;)V"), (8, .fieldref 10 39), (0, .nameAndType 40 26), (0, u "COMPACT_STRINGS"), (1, .class_ 44), (1, u "java/lang/StringUTF16"), (0, u "compress"), (1, .methodref 42 48), (0, .nameAndType 49 50), (0, u "coderFromArrayLen"), (0, u "([BI)B"), (56, .class_ 109), (1, u "java/lang/StringLatin1"), (32, u "()Z"), (34, .methodref 42 178), (0, .nameAndType 45 179), (0, u "([CII)[B"), (154, u "()I"), (0, .methodref 10 336), (0, .nameAndType 17 337), (0, u "()B"), (25, u "([BI)C"), (27, u "(II)V"), (35, u "(I)C"), (64, .methodref 10 493), (0, .nameAndType 494 142), (0, u "isLatin1"), (0, .methodref 107 496), (0, .nameAndType 497 363), (0, u "charAt"), (3, u "checkIndex"), (5, u "length"), (33, .methodref 107 542), (0, .nameAndType 543 544), (0, u "equals"), (0, u "([B[B)Z"), (28, u "(Ljava/lang/Object;)Z"), (1, .class_ 576), (0, u "java/lang/CharSequence"), (22, u "CASE_INSENSITIVE_ORDER"), (0, u "Ljava/util/Comparator;"), (409, u "([C)V"), (42, .fieldref 1054 1055), (0, .class_ 1056), (0, .nameAndType 1057 1058), (0, u "jdk/internal/util/Preconditions"), (0, u "SIOOBE_FORMATTER"), (0, u "Ljava/util/function/BiFunction;"), (0, .methodref 1054 1060), (0, .nameAndType 501 1061), (0, u "(IILjava/util/function/BiFunction;)I"), (39, u "serialPersistentFields"), (0, u "[Ljava/io/ObjectStreamField;"), (0, .class_ 1104), (0, u "java/lang/String$CaseInsensitiveComparator"), (1, .class_ 1107), (0, u "java/io/Serializable"), (0, .class_ 1109), (0, u "java/lang/Comparable"), (0, .class_ 1111), (0, u "java/lang/constant/Constable"), (0, .class_ 1113), (0, u "java/lang/constant/ConstantDesc"), (2, u "serialVersionUID"), (0, u "J"), (3, u "REPL"), (0, u "C"), (2, u "LATIN1"), (1, u "UTF16")] 323

def k7m0 : Method := { name := "<init>", desc := "()V", sig := { parameters := [], returnType := none }, accessFlags := 1, code := none }
def k7c1 : Code := { maxStack := 5, maxLocals := 2, code := jdk_42_method_3_code, exceptionTable := #[], attributes := #[] }
def k7m1 : Method := { name := "<init>", desc := "([C)V", sig := { parameters := [(.array .char)], returnType := none }, accessFlags := 1, code := some k7c1 }
def k7c2 : Code := { maxStack := 2, maxLocals := 1, code := jdk_42_method_54_code, exceptionTable := #[], attributes := #[] }
def k7m2 : Method := { name := "length", desc := "()I", sig := { parameters := [], returnType := some .int }, accessFlags := 1, code := some k7c2 }
def k7c3 : Code := { maxStack := 2, maxLocals := 2, code := jdk_42_method_56_code, exceptionTable := #[], attributes := #[] }
def k7m3 : Method := { name := "charAt", desc := "(I)C", sig := { parameters := [.int], returnType := some .char }, accessFlags := 1, code := some k7c3 }
def k7c4 : Code := { maxStack := 2, maxLocals := 3, code := jdk_42_method_66_code, exceptionTable := #[], attributes := #[] }
def k7m4 : Method := { name := "equals", desc := "(Ljava/lang/Object;)Z", sig := { parameters := [(.object "java/lang/Object")], returnType := some .boolean }, accessFlags := 1, code := some k7c4 }
def k7c5 : Code := { maxStack := 4, maxLocals := 6, code := jdk_42_method_149_code, exceptionTable := #[], attributes := #[] }
def k7m5 : Method := { name := "<init>", desc := "([CIILjava/lang/Void;)V", sig := { parameters := [(.array .char), .int, .int, (.object "java/lang/Void")], returnType := none }, accessFlags := 2, code := some k7c5 }
def k7c6 : Code := { maxStack := 1, maxLocals := 1, code := jdk_42_method_152_code, exceptionTable := #[], attributes := #[] }
def k7m6 : Method := { name := "coder", desc := "()B", sig := { parameters := [], returnType := some .byte }, accessFlags := 0, code := some k7c6 }
def k7c7 : Code := { maxStack := 1, maxLocals := 1, code := jdk_42_method_154_code, exceptionTable := #[], attributes := #[] }
def k7m7 : Method := { name := "isLatin1", desc := "()Z", sig := { parameters := [], returnType := some .boolean }, accessFlags := 0, code := some k7c7 }
def k7c8 : Code := { maxStack := 3, maxLocals := 2, code := jdk_42_method_155_code, exceptionTable := #[], attributes := #[] }
def k7m8 : Method := { name := "checkIndex", desc := "(II)V", sig := { parameters := [.int, .int], returnType := none }, accessFlags := 8, code := some k7c8 }
/-- java/lang/String -/
def k7 : Class := { plain "java/lang/String" (some 0) with
  accessFlags := 49
  interfaces := #[2, 3, 4, 5, 6]
  cf := some (fileOf pool7 10 #[.nestMembers #[1103]] #[{ accessFlags := 1, nameIndex := 5, descriptorIndex := 6, attributes := #[] }, { accessFlags := 1, nameIndex := 5, descriptorIndex := 1010, attributes := #[] }, { accessFlags := 1, nameIndex := 507, descriptorIndex := 334, attributes := #[] }, { accessFlags := 1, nameIndex := 497, descriptorIndex := 427, attributes := #[] }, { accessFlags := 1, nameIndex := 543, descriptorIndex := 573, attributes := #[] }, { accessFlags := 2, nameIndex := 5, descriptorIndex := 29, attributes := #[] }, { accessFlags := 0, nameIndex := 17, descriptorIndex := 337, attributes := #[] }, { accessFlags := 0, nameIndex := 494, descriptorIndex := 142, attributes := #[] }, { accessFlags := 8, nameIndex := 501, descriptorIndex := 391, attributes := #[] }] 49 2 #[1106, 1108, 575, 1110, 1112] #[{ accessFlags := 18, nameIndex := 13, descriptorIndex := 14, attributes := #[] }, { accessFlags := 18, nameIndex := 17, descriptorIndex := 18, attributes := #[] }, { accessFlags := 2, nameIndex := 21, descriptorIndex := 22, attributes := #[] }, { accessFlags := 2, nameIndex := 25, descriptorIndex := 26, attributes := #[] }, { accessFlags := 26, nameIndex := 1116, descriptorIndex := 1117, attributes := #[] }, { accessFlags := 24, nameIndex := 40, descriptorIndex := 26, attributes := #[] }, { accessFlags := 26, nameIndex := 1101, descriptorIndex := 1102, attributes := #[] }, { accessFlags := 26, nameIndex := 1121, descriptorIndex := 1122, attributes := #[] }, { accessFlags := 25, nameIndex := 599, descriptorIndex := 600, attributes := #[] }, { accessFlags := 24, nameIndex := 1125, descriptorIndex := 18, attributes := #[] }, { accessFlags := 24, nameIndex := 1127, descriptorIndex := 18, attributes := #[] }])
  fields := #[{ name := "value", type := (.array .byte), accessFlags := 18, slot := 0, constantValue := 0 }, { name := "coder", type := .byte, accessFlags := 18, slot := 1, constantValue := 0 }, { name := "hash", type := .int, accessFlags := 2, slot := 2, constantValue := 0 }, { name := "hashIsZero", type := .boolean, accessFlags := 2, slot := 3, constantValue := 0 }, { name := "serialVersionUID", type := .long, accessFlags := 26, slot := 0, constantValue := 0 }, { name := "COMPACT_STRINGS", type := .boolean, accessFlags := 24, slot := 1, constantValue := 0 }, { name := "serialPersistentFields", type := (.array (.object "java/io/ObjectStreamField")), accessFlags := 26, slot := 2, constantValue := 0 }, { name := "REPL", type := .char, accessFlags := 26, slot := 3, constantValue := 0 }, { name := "CASE_INSENSITIVE_ORDER", type := (.object "java/util/Comparator"), accessFlags := 25, slot := 4, constantValue := 0 }, { name := "LATIN1", type := .byte, accessFlags := 24, slot := 5, constantValue := 0 }, { name := "UTF16", type := .byte, accessFlags := 24, slot := 6, constantValue := 0 }]
  methods := #[k7m0, k7m1, k7m2, k7m3, k7m4, k7m5, k7m6, k7m7, k7m8]
  instanceTypes := #[(.array .byte), .byte, .int, .boolean]
  staticTypes := #[.long, .boolean, (.array (.object "java/io/ObjectStreamField")), .char, (.object "java/util/Comparator"), .byte, .byte]
  resolved := Array.replicate 1451 none
  statics := some 0 }

def pool8 : Array CpInfo := pool [(2, .class_ 4), (1, u "java/lang/Enum"), (0, u "name"), (0, u "Ljava/lang/String;"), (2, u "ordinal"), (0, u "I"), (1, .class_ 14), (1, u "java/lang/Object"), (4, u "hash"), (86, .class_ 108), (1, u "java/lang/Enum$EnumDesc"), (2, .class_ 112), (0, u "java/lang/constant/Constable"), (0, .class_ 114), (0, u "java/lang/Comparable"), (0, .class_ 116), (0, u "java/io/Serializable")] 87

/-- java/lang/Enum -/
def k8 : Class := { plain "java/lang/Enum" (some 0) with
  accessFlags := 1057
  interfaces := #[5, 3, 2]
  cf := some (fileOf pool8 2 #[.nestMembers #[106]] #[] 1057 12 #[111, 113, 115] #[{ accessFlags := 18, nameIndex := 5, descriptorIndex := 6, attributes := #[] }, { accessFlags := 18, nameIndex := 9, descriptorIndex := 10, attributes := #[] }, { accessFlags := 2, nameIndex := 19, descriptorIndex := 10, attributes := #[] }])
  fields := #[{ name := "name", type := (.object "java/lang/String"), accessFlags := 18, slot := 0, constantValue := 0 }, { name := "ordinal", type := .int, accessFlags := 18, slot := 1, constantValue := 0 }, { name := "hash", type := .int, accessFlags := 2, slot := 2, constantValue := 0 }]
  methods := #[]
  instanceTypes := #[(.object "java/lang/String"), .int, .int]
  staticTypes := #[]
  resolved := Array.replicate 204 none
  statics := none }

def pool9 : Array CpInfo := pool [(1, .class_ 2), (0, u "com/example/knit_theories/knittheories/model/Gather"), (2, u "AT_MOST"), (0, u "Lcom/example/knit_theories/knittheories/model/Gather;"), (2, u "BELOW"), (2, u "ANY"), (0, .fieldref 1 14), (0, .nameAndType 15 16), (0, u "$VALUES"), (0, u "[Lcom/example/knit_theories/knittheories/model/Gather;"), (0, .methodref 18 19), (0, .class_ 16), (0, .nameAndType 20 21), (0, u "clone"), (0, u "()Ljava/lang/Object;"), (1, .class_ 25), (1, u "java/lang/Enum"), (6, .fieldref 1 33), (0, .nameAndType 34 35), (0, u "text"), (0, u "Ljava/lang/String;"), (0, .methodref 1 37), (0, .nameAndType 38 39), (0, u "values"), (0, u "()[Lcom/example/knit_theories/knittheories/model/Gather;"), (0, .methodref 41 42), (0, .class_ 43), (0, .nameAndType 44 45), (0, u "java/lang/String"), (0, u "equals"), (0, u "(Ljava/lang/Object;)Z"), (17, u "(Ljava/lang/String;)Lcom/example/knit_theories/knittheories/model/Gather;"), (3, u "of")] 6

def k9c0 : Code := { maxStack := 1, maxLocals := 0, code := prog_61_method_1_code, exceptionTable := #[], attributes := #[] }
def k9m0 : Method := { name := "values", desc := "()[Lcom/example/knit_theories/knittheories/model/Gather;", sig := { parameters := [], returnType := some (.array (.object "com/example/knit_theories/knittheories/model/Gather")) }, accessFlags := 9, code := some k9c0 }
def k9c1 : Code := { maxStack := 2, maxLocals := 5, code := prog_61_method_4_code, exceptionTable := #[], attributes := #[] }
def k9m1 : Method := { name := "of", desc := "(Ljava/lang/String;)Lcom/example/knit_theories/knittheories/model/Gather;", sig := { parameters := [(.object "java/lang/String")], returnType := some (.object "com/example/knit_theories/knittheories/model/Gather") }, accessFlags := 9, code := some k9c1 }
/-- com/example/knit_theories/knittheories/model/Gather -/
def k9 : Class := { plain "com/example/knit_theories/knittheories/model/Gather" (some 8) with
  accessFlags := 16433
  interfaces := #[]
  cf := some (fileOf pool9 1 #[] #[{ accessFlags := 9, nameIndex := 38, descriptorIndex := 39, attributes := #[] }, { accessFlags := 9, nameIndex := 67, descriptorIndex := 63, attributes := #[] }] 16433 23 #[] #[{ accessFlags := 16409, nameIndex := 5, descriptorIndex := 6, attributes := #[] }, { accessFlags := 16409, nameIndex := 9, descriptorIndex := 6, attributes := #[] }, { accessFlags := 16409, nameIndex := 12, descriptorIndex := 6, attributes := #[] }, { accessFlags := 18, nameIndex := 34, descriptorIndex := 35, attributes := #[] }, { accessFlags := 4122, nameIndex := 15, descriptorIndex := 16, attributes := #[] }])
  fields := #[{ name := "AT_MOST", type := (.object "com/example/knit_theories/knittheories/model/Gather"), accessFlags := 16409, slot := 0, constantValue := 0 }, { name := "BELOW", type := (.object "com/example/knit_theories/knittheories/model/Gather"), accessFlags := 16409, slot := 1, constantValue := 0 }, { name := "ANY", type := (.object "com/example/knit_theories/knittheories/model/Gather"), accessFlags := 16409, slot := 2, constantValue := 0 }, { name := "text", type := (.object "java/lang/String"), accessFlags := 18, slot := 3, constantValue := 0 }, { name := "$VALUES", type := (.array (.object "com/example/knit_theories/knittheories/model/Gather")), accessFlags := 4122, slot := 3, constantValue := 0 }]
  methods := #[k9m0, k9m1]
  instanceTypes := #[(.object "java/lang/String"), .int, .int, (.object "java/lang/String")]
  staticTypes := #[(.object "com/example/knit_theories/knittheories/model/Gather"), (.object "com/example/knit_theories/knittheories/model/Gather"), (.object "com/example/knit_theories/knittheories/model/Gather"), (.array (.object "com/example/knit_theories/knittheories/model/Gather"))]
  resolved := Array.replicate 74 none
  statics := some 1 }

def pool10 : Array CpInfo := pool [(1, .class_ 2), (0, u "java/lang/Cloneable"), (0, .class_ 4), (0, u "java/lang/Object")] 2

/-- java/lang/Cloneable -/
def k10 : Class := { plain "java/lang/Cloneable" (some 0) with
  accessFlags := 1537
  interfaces := #[]
  cf := some (fileOf pool10 1 #[] #[] 1537 3 #[] #[])
  fields := #[]
  methods := #[]
  instanceTypes := #[]
  staticTypes := #[]
  resolved := Array.replicate 7 none
  statics := none }

def pool11 : Array CpInfo := pool [(1, .class_ 2), (0, u "java/lang/String"), (1, .class_ 6), (1, u "java/lang/Object"), (0, u "<init>"), (0, u "()V"), (0, .methodref 1 10), (0, .nameAndType 11 12), (0, u "checkIndex"), (0, u "(II)V"), (1, .class_ 16), (1, u "java/lang/StringLatin1"), (36, u "([BI)C"), (67, u "$assertionsDisabled"), (0, u "Z"), (98, .class_ 223), (1, u "java/lang/StringLatin1$LinesSpliterator"), (28, u "charAt"), (28, u "equals"), (0, u "([B[B)Z"), (107, .class_ 391), (0, u "java/lang/StringLatin1$CharsSpliterator")] 3

def k11m0 : Method := { name := "<init>", desc := "()V", sig := { parameters := [], returnType := none }, accessFlags := 0, code := none }
def k11c1 : Code := { maxStack := 2, maxLocals := 2, code := jdk_43_method_2_code, exceptionTable := #[], attributes := #[] }
def k11m1 : Method := { name := "charAt", desc := "([BI)C", sig := { parameters := [(.array .byte), .int], returnType := some .char }, accessFlags := 9, code := some k11c1 }
def k11c2 : Code := { maxStack := 3, maxLocals := 3, code := jdk_43_method_13_code, exceptionTable := #[], attributes := #[] }
def k11m2 : Method := { name := "equals", desc := "([B[B)Z", sig := { parameters := [(.array .byte), (.array .byte)], returnType := some .boolean }, accessFlags := 9, code := some k11c2 }
/-- java/lang/StringLatin1 -/
def k11 : Class := { plain "java/lang/StringLatin1" (some 0) with
  accessFlags := 48
  interfaces := #[]
  cf := some (fileOf pool11 14 #[.nestMembers #[390, 221]] #[{ accessFlags := 0, nameIndex := 7, descriptorIndex := 8, attributes := #[] }, { accessFlags := 9, nameIndex := 252, descriptorIndex := 53, attributes := #[] }, { accessFlags := 9, nameIndex := 281, descriptorIndex := 282, attributes := #[] }] 48 4 #[] #[{ accessFlags := 4120, nameIndex := 121, descriptorIndex := 122, attributes := #[] }])
  fields := #[{ name := "$assertionsDisabled", type := .boolean, accessFlags := 4120, slot := 0, constantValue := 0 }]
  methods := #[k11m0, k11m1, k11m2]
  instanceTypes := #[]
  staticTypes := #[.boolean]
  resolved := Array.replicate 395 none
  statics := none }

def pool12 : Array CpInfo := pool [(6, .class_ 8), (1, u "java/lang/Object"), (0, u "<init>"), (0, u "()V"), (1, .class_ 14), (1, u "java/lang/StringUTF16"), (31, u "$assertionsDisabled"), (0, u "Z"), (13, u "HI_BYTE_SHIFT"), (0, u "I"), (2, u "LO_BYTE_SHIFT"), (49, .methodref 12 116), (0, .nameAndType 117 118), (0, u "compress"), (0, u "([CI[BII)I"), (3, u "([CII)[B"), (138, u "coderFromArrayLen"), (0, u "([BI)B"), (106, .class_ 371), (1, u "java/lang/StringUTF16$LinesSpliterator"), (58, u "MAX_LENGTH"), (196, .class_ 628), (0, u "java/lang/StringUTF16$CodePointsSpliterator"), (0, .class_ 630), (0, u "java/lang/StringUTF16$CharsSpliterator")] 4

def k12m0 : Method := { name := "<init>", desc := "()V", sig := { parameters := [], returnType := none }, accessFlags := 0, code := none }
def k12c1 : Code := { maxStack := 2, maxLocals := 2, code := jdk_52_method_15_code, exceptionTable := #[], attributes := #[] }
def k12m1 : Method := { name := "coderFromArrayLen", desc := "([BI)B", sig := { parameters := [(.array .byte), .int], returnType := some .byte }, accessFlags := 8, code := some k12c1 }
def k12c2 : Code := { maxStack := 5, maxLocals := 6, code := jdk_52_method_16_code, exceptionTable := #[], attributes := #[] }
def k12m2 : Method := { name := "compress", desc := "([CII)[B", sig := { parameters := [(.array .char), .int, .int], returnType := some (.array .byte) }, accessFlags := 9, code := some k12c2 }
def k12c3 : Code := { maxStack := 3, maxLocals := 7, code := jdk_52_method_21_code, exceptionTable := #[], attributes := #[] }
def k12m3 : Method := { name := "compress", desc := "([CI[BII)I", sig := { parameters := [(.array .char), .int, (.array .byte), .int, .int], returnType := some .int }, accessFlags := 9, code := some k12c3 }
/-- java/lang/StringUTF16 -/
def k12 : Class := { plain "java/lang/StringUTF16" (some 0) with
  accessFlags := 48
  interfaces := #[]
  cf := some (fileOf pool12 12 #[.nestMembers #[627, 629, 369]] #[{ accessFlags := 0, nameIndex := 9, descriptorIndex := 10, attributes := #[] }, { accessFlags := 8, nameIndex := 261, descriptorIndex := 262, attributes := #[] }, { accessFlags := 9, nameIndex := 117, descriptorIndex := 122, attributes := #[] }, { accessFlags := 9, nameIndex := 117, descriptorIndex := 118, attributes := #[] }] 48 6 #[] #[{ accessFlags := 26, nameIndex := 61, descriptorIndex := 62, attributes := #[] }, { accessFlags := 26, nameIndex := 65, descriptorIndex := 62, attributes := #[] }, { accessFlags := 24, nameIndex := 430, descriptorIndex := 62, attributes := #[] }, { accessFlags := 4120, nameIndex := 46, descriptorIndex := 47, attributes := #[] }])
  fields := #[{ name := "HI_BYTE_SHIFT", type := .int, accessFlags := 26, slot := 0, constantValue := 0 }, { name := "LO_BYTE_SHIFT", type := .int, accessFlags := 26, slot := 1, constantValue := 0 }, { name := "MAX_LENGTH", type := .int, accessFlags := 24, slot := 2, constantValue := 0 }, { name := "$assertionsDisabled", type := .boolean, accessFlags := 4120, slot := 3, constantValue := 0 }]
  methods := #[k12m0, k12m1, k12m2, k12m3]
  instanceTypes := #[]
  staticTypes := #[.int, .int, .int, .boolean]
  resolved := Array.replicate 635 none
  statics := none }

def pool13 : Array CpInfo := pool [(2, .class_ 4), (1, u "java/lang/Object"), (0, u "<init>"), (0, u "()V"), (17, .class_ 26), (1, u "jdk/internal/util/Preconditions"), (6, u "checkIndex"), (21, .class_ 56), (0, u "jdk/internal/util/Preconditions$4"), (57, .class_ 115), (0, u "jdk/internal/util/Preconditions$1"), (7, u "SIOOBE_FORMATTER"), (0, u "Ljava/util/function/BiFunction;"), (0, .class_ 126), (0, u "jdk/internal/util/Preconditions$2"), (3, u "AIOOBE_FORMATTER"), (0, .class_ 132), (0, u "jdk/internal/util/Preconditions$3"), (3, u "IOOBE_FORMATTER"), (41, u "(IILjava/util/function/BiFunction;)I")] 15

def k13m0 : Method := { name := "<init>", desc := "()V", sig := { parameters := [], returnType := none }, accessFlags := 1, code := none }
def k13c1 : Code := { maxStack := 3, maxLocals := 3, code := jdk_41_method_11_code, exceptionTable := #[], attributes := #[] }
def k13m1 : Method := { name := "checkIndex", desc := "(IILjava/util/function/BiFunction;)I", sig := { parameters := [.int, .int, (.object "java/util/function/BiFunction")], returnType := some .int }, accessFlags := 9, code := some k13c1 }
/-- jdk/internal/util/Preconditions -/
def k13 : Class := { plain "jdk/internal/util/Preconditions" (some 0) with
  accessFlags := 33
  interfaces := #[]
  cf := some (fileOf pool13 24 #[.nestMembers #[55, 131, 125, 114]] #[{ accessFlags := 1, nameIndex := 5, descriptorIndex := 6, attributes := #[] }, { accessFlags := 9, nameIndex := 33, descriptorIndex := 178, attributes := #[] }] 33 2 #[] #[{ accessFlags := 25, nameIndex := 123, descriptorIndex := 124, attributes := #[] }, { accessFlags := 25, nameIndex := 130, descriptorIndex := 124, attributes := #[] }, { accessFlags := 25, nameIndex := 136, descriptorIndex := 124, attributes := #[] }])
  fields := #[{ name := "SIOOBE_FORMATTER", type := (.object "java/util/function/BiFunction"), accessFlags := 25, slot := 0, constantValue := 0 }, { name := "AIOOBE_FORMATTER", type := (.object "java/util/function/BiFunction"), accessFlags := 25, slot := 1, constantValue := 0 }, { name := "IOOBE_FORMATTER", type := (.object "java/util/function/BiFunction"), accessFlags := 25, slot := 2, constantValue := 0 }]
  methods := #[k13m0, k13m1]
  instanceTypes := #[]
  staticTypes := #[(.object "java/util/function/BiFunction"), (.object "java/util/function/BiFunction"), (.object "java/util/function/BiFunction")]
  resolved := Array.replicate 194 none
  statics := some 2 }

def pool14 : Array CpInfo := pool [(9, u "<init>"), (6, .class_ 18), (1, u "java/lang/Object"), (0, u "()V"), (1, .class_ 23), (1, u "jdk/internal/util/ArraysSupport"), (0, u "LOG2_ARRAY_LONG_INDEX_SCALE"), (0, u "I"), (2, u "U"), (0, u "Ljdk/internal/misc/Unsafe;"), (8, u "BIG_ENDIAN"), (0, u "Z"), (8, u "LOG2_BYTE_BIT_SIZE"), (4, u "LOG2_ARRAY_INT_INDEX_SCALE"), (54, u "JLA"), (0, u "Ljdk/internal/access/JavaLangAccess;"), (11, u "LOG2_ARRAY_BOOLEAN_INDEX_SCALE"), (9, u "LOG2_ARRAY_BYTE_INDEX_SCALE"), (5, u "LOG2_ARRAY_CHAR_INDEX_SCALE"), (5, u "LOG2_ARRAY_SHORT_INDEX_SCALE"), (18, u "LOG2_ARRAY_FLOAT_INDEX_SCALE"), (24, u "LOG2_ARRAY_DOUBLE_INDEX_SCALE"), (89, u "T_BOOLEAN"), (2, u "T_CHAR"), (1, u "T_FLOAT"), (1, u "T_DOUBLE"), (1, u "T_BYTE"), (1, u "T_SHORT"), (1, u "T_INT"), (1, u "T_LONG"), (1, u "SOFT_MAX_ARRAY_LENGTH")] 83

def k14m0 : Method := { name := "<init>", desc := "()V", sig := { parameters := [], returnType := none }, accessFlags := 2, code := none }
/-- jdk/internal/util/ArraysSupport -/
def k14 : Class := { plain "jdk/internal/util/ArraysSupport" (some 0) with
  accessFlags := 33
  interfaces := #[]
  cf := some (fileOf pool14 21 #[] #[{ accessFlags := 2, nameIndex := 9, descriptorIndex := 19, attributes := #[] }] 33 16 #[] #[{ accessFlags := 24, nameIndex := 28, descriptorIndex := 29, attributes := #[] }, { accessFlags := 26, nameIndex := 38, descriptorIndex := 39, attributes := #[] }, { accessFlags := 25, nameIndex := 121, descriptorIndex := 25, attributes := #[] }, { accessFlags := 25, nameIndex := 131, descriptorIndex := 25, attributes := #[] }, { accessFlags := 25, nameIndex := 137, descriptorIndex := 25, attributes := #[] }, { accessFlags := 25, nameIndex := 143, descriptorIndex := 25, attributes := #[] }, { accessFlags := 25, nameIndex := 53, descriptorIndex := 25, attributes := #[] }, { accessFlags := 25, nameIndex := 24, descriptorIndex := 25, attributes := #[] }, { accessFlags := 25, nameIndex := 162, descriptorIndex := 25, attributes := #[] }, { accessFlags := 25, nameIndex := 187, descriptorIndex := 25, attributes := #[] }, { accessFlags := 26, nameIndex := 48, descriptorIndex := 25, attributes := #[] }, { accessFlags := 25, nameIndex := 277, descriptorIndex := 25, attributes := #[] }, { accessFlags := 25, nameIndex := 280, descriptorIndex := 25, attributes := #[] }, { accessFlags := 25, nameIndex := 282, descriptorIndex := 25, attributes := #[] }, { accessFlags := 25, nameIndex := 284, descriptorIndex := 25, attributes := #[] }, { accessFlags := 25, nameIndex := 286, descriptorIndex := 25, attributes := #[] }, { accessFlags := 25, nameIndex := 288, descriptorIndex := 25, attributes := #[] }, { accessFlags := 25, nameIndex := 290, descriptorIndex := 25, attributes := #[] }, { accessFlags := 25, nameIndex := 292, descriptorIndex := 25, attributes := #[] }, { accessFlags := 26, nameIndex := 108, descriptorIndex := 109, attributes := #[] }, { accessFlags := 25, nameIndex := 294, descriptorIndex := 25, attributes := #[] }])
  fields := #[{ name := "U", type := (.object "jdk/internal/misc/Unsafe"), accessFlags := 24, slot := 0, constantValue := 0 }, { name := "BIG_ENDIAN", type := .boolean, accessFlags := 26, slot := 1, constantValue := 0 }, { name := "LOG2_ARRAY_BOOLEAN_INDEX_SCALE", type := .int, accessFlags := 25, slot := 2, constantValue := 0 }, { name := "LOG2_ARRAY_BYTE_INDEX_SCALE", type := .int, accessFlags := 25, slot := 3, constantValue := 0 }, { name := "LOG2_ARRAY_CHAR_INDEX_SCALE", type := .int, accessFlags := 25, slot := 4, constantValue := 0 }, { name := "LOG2_ARRAY_SHORT_INDEX_SCALE", type := .int, accessFlags := 25, slot := 5, constantValue := 0 }, { name := "LOG2_ARRAY_INT_INDEX_SCALE", type := .int, accessFlags := 25, slot := 6, constantValue := 0 }, { name := "LOG2_ARRAY_LONG_INDEX_SCALE", type := .int, accessFlags := 25, slot := 7, constantValue := 0 }, { name := "LOG2_ARRAY_FLOAT_INDEX_SCALE", type := .int, accessFlags := 25, slot := 8, constantValue := 0 }, { name := "LOG2_ARRAY_DOUBLE_INDEX_SCALE", type := .int, accessFlags := 25, slot := 9, constantValue := 0 }, { name := "LOG2_BYTE_BIT_SIZE", type := .int, accessFlags := 26, slot := 10, constantValue := 0 }, { name := "T_BOOLEAN", type := .int, accessFlags := 25, slot := 11, constantValue := 0 }, { name := "T_CHAR", type := .int, accessFlags := 25, slot := 12, constantValue := 0 }, { name := "T_FLOAT", type := .int, accessFlags := 25, slot := 13, constantValue := 0 }, { name := "T_DOUBLE", type := .int, accessFlags := 25, slot := 14, constantValue := 0 }, { name := "T_BYTE", type := .int, accessFlags := 25, slot := 15, constantValue := 0 }, { name := "T_SHORT", type := .int, accessFlags := 25, slot := 16, constantValue := 0 }, { name := "T_INT", type := .int, accessFlags := 25, slot := 17, constantValue := 0 }, { name := "T_LONG", type := .int, accessFlags := 25, slot := 18, constantValue := 0 }, { name := "JLA", type := (.object "jdk/internal/access/JavaLangAccess"), accessFlags := 26, slot := 19, constantValue := 0 }, { name := "SOFT_MAX_ARRAY_LENGTH", type := .int, accessFlags := 25, slot := 20, constantValue := 0 }]
  methods := #[k14m0]
  instanceTypes := #[]
  staticTypes := #[(.object "jdk/internal/misc/Unsafe"), .boolean, .int, .int, .int, .int, .int, .int, .int, .int, .int, .int, .int, .int, .int, .int, .int, .int, .int, (.object "jdk/internal/access/JavaLangAccess"), .int]
  resolved := Array.replicate 378 none
  statics := none }

/-- the primitive byte -/
def k15 : Class := { plain "byte" none with kind := .primitive 'B', accessFlags := 0x411 }
/-- [B -/
def k16 : Class := { plain "[B" (some 0) with kind := .array 15 .byte, interfaces := #[10, 2], accessFlags := 1041 }

/-- the primitive char -/
def k17 : Class := { plain "char" none with kind := .primitive 'C', accessFlags := 0x411 }
/-- [C -/
def k18 : Class := { plain "[C" (some 0) with kind := .array 17 .char, interfaces := #[10, 2], accessFlags := 1041 }

/-- the primitive int -/
def k19 : Class := { plain "int" none with kind := .primitive 'I', accessFlags := 0x411 }
/-- [I -/
def k20 : Class := { plain "[I" (some 0) with kind := .array 19 .int, interfaces := #[10, 2], accessFlags := 1041 }

/-- [Lcom/example/knit_theories/knittheories/model/Gather; -/
def k21 : Class := { plain "[Lcom/example/knit_theories/knittheories/model/Gather;" (some 0) with kind := .array 9 (.object "com/example/knit_theories/knittheories/model/Gather"), interfaces := #[10, 2], accessFlags := 1041 }

def heap : Heap := #[{ cls := 7, slots := #[.long 0, .int 1, .null, .int 0, .null, .int 0, .int 0], vm := .statics 7 },
  { cls := 9, slots := #[.ref 4, .ref 5, .ref 6, .ref 3], vm := .statics 9 },
  { cls := 13, slots := #[.null, .null, .null], vm := .statics 13 },
  { cls := 21, slots := #[.ref 4, .ref 5, .ref 6], vm := .none },
  { cls := 9, slots := #[.null, .int 0, .int 0, .ref 7], vm := .none },
  { cls := 9, slots := #[.null, .int 1, .int 0, .ref 8], vm := .none },
  { cls := 9, slots := #[.null, .int 2, .int 0, .ref 9], vm := .none },
  { cls := 7, slots := #[.ref 10, .int 0, .int 0, .int 0], vm := .none },
  { cls := 7, slots := #[.ref 11, .int 0, .int 0, .int 0], vm := .none },
  { cls := 7, slots := #[.ref 12, .int 0, .int 0, .int 0], vm := .none },
  { cls := 16, slots := #[.int 69], vm := .none },
  { cls := 16, slots := #[.int 101], vm := .none },
  { cls := 16, slots := #[.int 38], vm := .none }]
def classes : Array Class := #[k0, k1, k2, k3, k4, k5, k6, k7, k8, k9, k10, k11, k12, k13, k14, k15, k16, k17, k18, k19, k20, k21]
def interned : List (Array UInt16 × Addr) := []
def slotsUsed : Nat := 44
def theMethod : MethodId := ⟨1, 2⟩
def args0 : Array Value := #[.int 5, .int 7, .int 9]
def aboutOver (below : List Frame) : State where
  vm := { classes := classes, interned := interned.toArray }
  heap := heap
  slotsUsed := slotsUsed
  threads := #[{ frames := .invoking theMethod args0 :: below }]
def below0 : List Frame := [.native { method := ⟨0, 0⟩, args := #[] }]
def about1 : State := aboutOver below0
def p0 : Program := .bare "" "" ""
def e0 : Env := launch0.env 0 0 0
theorem w_frames : about1.frames = Frame.invoking theMethod args0 :: below0 := rfl
set_option maxRecDepth 65536 in
theorem w_args : argsFit about1.vm theMethod args0 = true := by decide +kernel
set_option maxRecDepth 65536 in
theorem w_heap : heapFits about1 = true := by decide +kernel
set_option maxRecDepth 65536 in
theorem w_runnable : about1.curStatus? = some .runnable := by decide +kernel
set_option maxRecDepth 65536 in
theorem w_alone : about1.alone = true := by decide +kernel
set_option maxRecDepth 65536 in
theorem w_named : about1.methodNamed? x = some theMethod := by decide +kernel
set_option maxRecDepth 65536 in
theorem w_hears : about1.hears theMethod below0 = true := by decide +kernel
set_option maxRecDepth 65536 in
theorem w_ripe : about1.ripe theMethod args0 below0 = true := by decide +kernel
theorem w_running : about1.status = .running := rfl
set_option maxRecDepth 65536 in
theorem w_room : about1.hasRoom e0.platform room_1 = true :=
  launch0.hasRoom_least _ room_1 (by decide +kernel) (by decide +kernel) (by decide +kernel) (by decide +kernel) (by decide +kernel) (by decide +kernel)
theorem allAtoms_all (ts : List Jvm.Cond) (a : Array Jvm.Value) (st : Jvm.State) : (allAtoms ts).before a st = ts.all (fun c => c.before a st) := by
  induction ts with
  | nil => rfl
  | cons c t ih =>
    show (Jvm.Cond.and c (allAtoms t)).before a st = _
    rw [Jvm.Cond.before_and, ih, List.all_cons]
def words1 : List Jvm.Cond := Jvm.Cond.code x code maxLocals ret :: tables_1
/-- a 'code' word, met by the world's own term for the bytes: nothing is compared byte by byte -/
theorem code_word {y : MethodName} {bytes : ByteArray} {mx : Nat} {rt : Option FieldType} {a : Array Value} {s : State} {m : MethodId} {meth : Method} {c : Code} (h1 : s.methodNamed? y = some m) (h2 : s.vm.method? m = some meth) (h3 : meth.code = some c) (h4 : c.code = bytes)
    (h5 : (c.maxLocals == mx && c.exceptionTable.isEmpty && decide (c.maxStack ≤ mostOperands) && decide (meth.sig.returnType = rt) && !meth.locks && decide (parseMethodDescriptor y.desc = some meth.sig)) = true) : (Jvm.Cond.code y bytes mx rt).before a s = true := by
  simp only [Bool.and_eq_true, beq_iff_eq, Bool.not_eq_true', decide_eq_true_eq] at h5
  obtain ⟨⟨⟨⟨⟨g1, g2⟩, g3⟩, g4⟩, g5⟩, g6⟩ := h5
  simp [Cond.before, Cond.holds, Cond.value, h1, h2, h3, h4, g1, g2, g3, g4, g5, g6]
def isCode : Jvm.Cond → Bool
  | .code _ _ _ _ => true
  | _ => false
theorem all_split {L : List Jvm.Cond} {P : Jvm.Cond → Bool} (h1 : L.all (fun c => isCode c || P c) = true) (h2 : ∀ c ∈ L.filter isCode, P c = true) : L.all P = true := by
  refine List.all_eq_true.mpr fun c hc => ?_
  have h := List.all_eq_true.mp h1 c hc
  rcases Bool.eq_false_or_eq_true (isCode c) with hi | hi
  · exact h2 c (List.mem_filter.mpr ⟨hc, hi⟩)
  · simpa [hi] using h
set_option maxRecDepth 65536 in
theorem w_c0 : (Jvm.Cond.code x code maxLocals ret).before args0 about1 = true := code_word (m := ⟨1, 2⟩) (meth := k1m2) (c := k1c2) (by decide +kernel) rfl rfl rfl (by decide +kernel)
set_option maxRecDepth 65536 in
theorem w_c1 : (Jvm.Cond.code ({ cls := "java/lang/String", name := "<init>", desc := "([C)V" } : Jvm.MethodName) jdk_42_method_3_code (2 : Nat) (Option.none : Option Jvm.ClassFile.FieldType)).before args0 about1 = true := code_word (m := ⟨7, 1⟩) (meth := k7m1) (c := k7c1) (by decide +kernel) rfl rfl rfl (by decide +kernel)
set_option maxRecDepth 65536 in
theorem w_c2 : (Jvm.Cond.code ({ cls := "java/lang/String", name := "<init>", desc := "([CIILjava/lang/Void;)V" } : Jvm.MethodName) jdk_42_method_149_code (6 : Nat) (Option.none : Option Jvm.ClassFile.FieldType)).before args0 about1 = true := code_word (m := ⟨7, 5⟩) (meth := k7m5) (c := k7c5) (by decide +kernel) rfl rfl rfl (by decide +kernel)
set_option maxRecDepth 65536 in
theorem w_c3 : (Jvm.Cond.code ({ cls := "java/lang/Object", name := "<init>", desc := "()V" } : Jvm.MethodName) object_method_1_code (1 : Nat) (Option.none : Option Jvm.ClassFile.FieldType)).before args0 about1 = true := code_word (m := ⟨0, 0⟩) (meth := k0m0) (c := k0c0) (by decide +kernel) rfl rfl rfl (by decide +kernel)
set_option maxRecDepth 65536 in
theorem w_c4 : (Jvm.Cond.code ({ cls := "com/example/knit_theories/knittheories/model/Gather", name := "of", desc := "(Ljava/lang/String;)Lcom/example/knit_theories/knittheories/model/Gather;" } : Jvm.MethodName) prog_61_method_4_code (5 : Nat) (Option.some (Jvm.ClassFile.FieldType.object "com/example/knit_theories/knittheories/model/Gather"))).before args0 about1 = true := code_word (m := ⟨9, 1⟩) (meth := k9m1) (c := k9c1) (by decide +kernel) rfl rfl rfl (by decide +kernel)
set_option maxRecDepth 65536 in
theorem w_c5 : (Jvm.Cond.code ({ cls := "com/example/knit_theories/knittheories/model/Gather", name := "values", desc := "()[Lcom/example/knit_theories/knittheories/model/Gather;" } : Jvm.MethodName) prog_61_method_1_code (0 : Nat) (Option.some (Jvm.ClassFile.FieldType.array (Jvm.ClassFile.FieldType.object "com/example/knit_theories/knittheories/model/Gather")))).before args0 about1 = true := code_word (m := ⟨9, 0⟩) (meth := k9m0) (c := k9c0) (by decide +kernel) rfl rfl rfl (by decide +kernel)
set_option maxRecDepth 65536 in
theorem w_c6 : (Jvm.Cond.code ({ cls := "java/lang/String", name := "equals", desc := "(Ljava/lang/Object;)Z" } : Jvm.MethodName) jdk_42_method_66_code (3 : Nat) (Option.some Jvm.ClassFile.FieldType.boolean)).before args0 about1 = true := code_word (m := ⟨7, 4⟩) (meth := k7m4) (c := k7c4) (by decide +kernel) rfl rfl rfl (by decide +kernel)
set_option maxRecDepth 65536 in
theorem w_c7 : (Jvm.Cond.code ({ cls := "java/lang/StringLatin1", name := "equals", desc := "([B[B)Z" } : Jvm.MethodName) jdk_43_method_13_code (3 : Nat) (Option.some Jvm.ClassFile.FieldType.boolean)).before args0 about1 = true := code_word (m := ⟨11, 2⟩) (meth := k11m2) (c := k11c2) (by decide +kernel) rfl rfl rfl (by decide +kernel)
set_option maxRecDepth 65536 in
theorem w_c8 : (Jvm.Cond.code ({ cls := "java/lang/String", name := "length", desc := "()I" } : Jvm.MethodName) jdk_42_method_54_code (1 : Nat) (Option.some Jvm.ClassFile.FieldType.int)).before args0 about1 = true := code_word (m := ⟨7, 2⟩) (meth := k7m2) (c := k7c2) (by decide +kernel) rfl rfl rfl (by decide +kernel)
set_option maxRecDepth 65536 in
theorem w_c9 : (Jvm.Cond.code ({ cls := "java/lang/String", name := "coder", desc := "()B" } : Jvm.MethodName) jdk_42_method_152_code (1 : Nat) (Option.some Jvm.ClassFile.FieldType.byte)).before args0 about1 = true := code_word (m := ⟨7, 6⟩) (meth := k7m6) (c := k7c6) (by decide +kernel) rfl rfl rfl (by decide +kernel)
set_option maxRecDepth 65536 in
theorem w_c10 : (Jvm.Cond.code ({ cls := "com/example/knit_theories/knittheories/model/GatherOfPinLaw", name := "pick", desc := "(I)C" } : Jvm.MethodName) method_2_code (2 : Nat) (Option.some Jvm.ClassFile.FieldType.char)).before args0 about1 = true := code_word (m := ⟨1, 1⟩) (meth := k1m1) (c := k1c1) (by decide +kernel) rfl rfl rfl (by decide +kernel)
set_option maxRecDepth 65536 in
theorem w_c11 : (Jvm.Cond.code ({ cls := "java/lang/StringUTF16", name := "compress", desc := "([CII)[B" } : Jvm.MethodName) jdk_52_method_16_code (6 : Nat) (Option.some (Jvm.ClassFile.FieldType.array Jvm.ClassFile.FieldType.byte))).before args0 about1 = true := code_word (m := ⟨12, 2⟩) (meth := k12m2) (c := k12c2) (by decide +kernel) rfl rfl rfl (by decide +kernel)
set_option maxRecDepth 65536 in
theorem w_c12 : (Jvm.Cond.code ({ cls := "java/lang/StringUTF16", name := "compress", desc := "([CI[BII)I" } : Jvm.MethodName) jdk_52_method_21_code (7 : Nat) (Option.some Jvm.ClassFile.FieldType.int)).before args0 about1 = true := code_word (m := ⟨12, 3⟩) (meth := k12m3) (c := k12c3) (by decide +kernel) rfl rfl rfl (by decide +kernel)
set_option maxRecDepth 65536 in
theorem w_c13 : (Jvm.Cond.code ({ cls := "java/lang/StringUTF16", name := "coderFromArrayLen", desc := "([BI)B" } : Jvm.MethodName) jdk_52_method_15_code (2 : Nat) (Option.some Jvm.ClassFile.FieldType.byte)).before args0 about1 = true := code_word (m := ⟨12, 1⟩) (meth := k12m1) (c := k12c1) (by decide +kernel) rfl rfl rfl (by decide +kernel)
set_option maxRecDepth 65536 in
theorem w_c14 : (Jvm.Cond.code ({ cls := "java/lang/String", name := "charAt", desc := "(I)C" } : Jvm.MethodName) jdk_42_method_56_code (2 : Nat) (Option.some Jvm.ClassFile.FieldType.char)).before args0 about1 = true := code_word (m := ⟨7, 3⟩) (meth := k7m3) (c := k7c3) (by decide +kernel) rfl rfl rfl (by decide +kernel)
set_option maxRecDepth 65536 in
theorem w_c15 : (Jvm.Cond.code ({ cls := "java/lang/String", name := "isLatin1", desc := "()Z" } : Jvm.MethodName) jdk_42_method_154_code (1 : Nat) (Option.some Jvm.ClassFile.FieldType.boolean)).before args0 about1 = true := code_word (m := ⟨7, 7⟩) (meth := k7m7) (c := k7c7) (by decide +kernel) rfl rfl rfl (by decide +kernel)
set_option maxRecDepth 65536 in
theorem w_c16 : (Jvm.Cond.code ({ cls := "java/lang/StringLatin1", name := "charAt", desc := "([BI)C" } : Jvm.MethodName) jdk_43_method_2_code (2 : Nat) (Option.some Jvm.ClassFile.FieldType.char)).before args0 about1 = true := code_word (m := ⟨11, 1⟩) (meth := k11m1) (c := k11c1) (by decide +kernel) rfl rfl rfl (by decide +kernel)
set_option maxRecDepth 65536 in
theorem w_c17 : (Jvm.Cond.code ({ cls := "java/lang/String", name := "checkIndex", desc := "(II)V" } : Jvm.MethodName) jdk_42_method_155_code (2 : Nat) (Option.none : Option Jvm.ClassFile.FieldType)).before args0 about1 = true := code_word (m := ⟨7, 8⟩) (meth := k7m8) (c := k7c8) (by decide +kernel) rfl rfl rfl (by decide +kernel)
set_option maxRecDepth 65536 in
theorem w_c18 : (Jvm.Cond.code ({ cls := "jdk/internal/util/Preconditions", name := "checkIndex", desc := "(IILjava/util/function/BiFunction;)I" } : Jvm.MethodName) jdk_41_method_11_code (3 : Nat) (Option.some Jvm.ClassFile.FieldType.int)).before args0 about1 = true := code_word (m := ⟨13, 1⟩) (meth := k13m1) (c := k13c1) (by decide +kernel) rfl rfl rfl (by decide +kernel)
def codes1 : List Jvm.Cond := [Jvm.Cond.code x code maxLocals ret, Jvm.Cond.code ({ cls := "java/lang/String", name := "<init>", desc := "([C)V" } : Jvm.MethodName) jdk_42_method_3_code (2 : Nat) (Option.none : Option Jvm.ClassFile.FieldType), Jvm.Cond.code ({ cls := "java/lang/String", name := "<init>", desc := "([CIILjava/lang/Void;)V" } : Jvm.MethodName) jdk_42_method_149_code (6 : Nat) (Option.none : Option Jvm.ClassFile.FieldType), Jvm.Cond.code ({ cls := "java/lang/Object", name := "<init>", desc := "()V" } : Jvm.MethodName) object_method_1_code (1 : Nat) (Option.none : Option Jvm.ClassFile.FieldType), Jvm.Cond.code ({ cls := "com/example/knit_theories/knittheories/model/Gather", name := "of", desc := "(Ljava/lang/String;)Lcom/example/knit_theories/knittheories/model/Gather;" } : Jvm.MethodName) prog_61_method_4_code (5 : Nat) (Option.some (Jvm.ClassFile.FieldType.object "com/example/knit_theories/knittheories/model/Gather")), Jvm.Cond.code ({ cls := "com/example/knit_theories/knittheories/model/Gather", name := "values", desc := "()[Lcom/example/knit_theories/knittheories/model/Gather;" } : Jvm.MethodName) prog_61_method_1_code (0 : Nat) (Option.some (Jvm.ClassFile.FieldType.array (Jvm.ClassFile.FieldType.object "com/example/knit_theories/knittheories/model/Gather"))), Jvm.Cond.code ({ cls := "java/lang/String", name := "equals", desc := "(Ljava/lang/Object;)Z" } : Jvm.MethodName) jdk_42_method_66_code (3 : Nat) (Option.some Jvm.ClassFile.FieldType.boolean), Jvm.Cond.code ({ cls := "java/lang/StringLatin1", name := "equals", desc := "([B[B)Z" } : Jvm.MethodName) jdk_43_method_13_code (3 : Nat) (Option.some Jvm.ClassFile.FieldType.boolean), Jvm.Cond.code ({ cls := "java/lang/String", name := "length", desc := "()I" } : Jvm.MethodName) jdk_42_method_54_code (1 : Nat) (Option.some Jvm.ClassFile.FieldType.int), Jvm.Cond.code ({ cls := "java/lang/String", name := "coder", desc := "()B" } : Jvm.MethodName) jdk_42_method_152_code (1 : Nat) (Option.some Jvm.ClassFile.FieldType.byte), Jvm.Cond.code ({ cls := "com/example/knit_theories/knittheories/model/GatherOfPinLaw", name := "pick", desc := "(I)C" } : Jvm.MethodName) method_2_code (2 : Nat) (Option.some Jvm.ClassFile.FieldType.char), Jvm.Cond.code ({ cls := "java/lang/StringUTF16", name := "compress", desc := "([CII)[B" } : Jvm.MethodName) jdk_52_method_16_code (6 : Nat) (Option.some (Jvm.ClassFile.FieldType.array Jvm.ClassFile.FieldType.byte)), Jvm.Cond.code ({ cls := "java/lang/StringUTF16", name := "compress", desc := "([CI[BII)I" } : Jvm.MethodName) jdk_52_method_21_code (7 : Nat) (Option.some Jvm.ClassFile.FieldType.int), Jvm.Cond.code ({ cls := "java/lang/StringUTF16", name := "coderFromArrayLen", desc := "([BI)B" } : Jvm.MethodName) jdk_52_method_15_code (2 : Nat) (Option.some Jvm.ClassFile.FieldType.byte), Jvm.Cond.code ({ cls := "java/lang/String", name := "charAt", desc := "(I)C" } : Jvm.MethodName) jdk_42_method_56_code (2 : Nat) (Option.some Jvm.ClassFile.FieldType.char), Jvm.Cond.code ({ cls := "java/lang/String", name := "isLatin1", desc := "()Z" } : Jvm.MethodName) jdk_42_method_154_code (1 : Nat) (Option.some Jvm.ClassFile.FieldType.boolean), Jvm.Cond.code ({ cls := "java/lang/StringLatin1", name := "charAt", desc := "([BI)C" } : Jvm.MethodName) jdk_43_method_2_code (2 : Nat) (Option.some Jvm.ClassFile.FieldType.char), Jvm.Cond.code ({ cls := "java/lang/String", name := "checkIndex", desc := "(II)V" } : Jvm.MethodName) jdk_42_method_155_code (2 : Nat) (Option.none : Option Jvm.ClassFile.FieldType), Jvm.Cond.code ({ cls := "jdk/internal/util/Preconditions", name := "checkIndex", desc := "(IILjava/util/function/BiFunction;)I" } : Jvm.MethodName) jdk_41_method_11_code (3 : Nat) (Option.some Jvm.ClassFile.FieldType.int)]
set_option maxRecDepth 65536 in
theorem codes_eq : words1.filter isCode = codes1 := rfl
theorem w_codes : ∀ c ∈ words1.filter isCode, c.before args0 about1 = true := by
  rw [codes_eq]
  intro c hc
  simp only [codes1, List.mem_cons, List.not_mem_nil, or_false] at hc
  rcases hc with rfl | rfl | rfl | rfl | rfl | rfl | rfl | rfl | rfl | rfl | rfl | rfl | rfl | rfl | rfl | rfl | rfl | rfl | rfl
  · exact w_c0
  · exact w_c1
  · exact w_c2
  · exact w_c3
  · exact w_c4
  · exact w_c5
  · exact w_c6
  · exact w_c7
  · exact w_c8
  · exact w_c9
  · exact w_c10
  · exact w_c11
  · exact w_c12
  · exact w_c13
  · exact w_c14
  · exact w_c15
  · exact w_c16
  · exact w_c17
  · exact w_c18
set_option maxRecDepth 65536 in
theorem w_t1 : (words1.take 24).all (fun c => isCode c || c.before args0 about1) = true := by decide +kernel
set_option maxRecDepth 65536 in
theorem w_t2 : ((words1.drop 24).take 24).all (fun c => isCode c || c.before args0 about1) = true := by decide +kernel
set_option maxRecDepth 65536 in
theorem w_t3 : (((words1.drop 24).drop 24).take 24).all (fun c => isCode c || c.before args0 about1) = true := by decide +kernel
set_option maxRecDepth 65536 in
theorem w_t4 : ((((words1.drop 24).drop 24).drop 24).take 24).all (fun c => isCode c || c.before args0 about1) = true := by decide +kernel
set_option maxRecDepth 65536 in
theorem w_t5 : ((((words1.drop 24).drop 24).drop 24).drop 24).all (fun c => isCode c || c.before args0 about1) = true := by decide +kernel
theorem w_tables : (allAtoms (Jvm.Cond.code x code maxLocals ret :: tables_1)).before args0 about1 = true := by
  rw [allAtoms_all]
  show words1.all (fun c => c.before args0 about1) = true
  refine all_split ?_ w_codes
  rw [← List.take_append_drop 24 words1, List.all_append, w_t1, ← List.take_append_drop 24 (words1.drop 24), List.all_append, w_t2, ← List.take_append_drop 24 ((words1.drop 24).drop 24), List.all_append, w_t3, ← List.take_append_drop 24 (((words1.drop 24).drop 24).drop 24), List.all_append, w_t4, w_t5]
  rfl
set_option maxRecDepth 65536 in
theorem w_rest : rest_1_c.before args0 about1 = true := by decide +kernel
set_option maxRecDepth 65536 in
theorem w_case : (Jvm.Cond.and given_1 narrow_1).before args0 about1 = true := by decide +kernel
set_option maxRecDepth 65536 in
theorem w_consts : constsHeld consts_1 about1 := Jvm.Lit.constsHeldB_iff.mp (by decide +kernel)
theorem w_applies : (headSpec (Jvm.Cond.code x code maxLocals ret :: tables_1) room_1).applies x e0.platform about1 = true :=
  (Spec.applies_iff w_frames).mpr ⟨w_running, w_runnable, w_alone, w_named, w_hears, w_ripe, w_room, w_tables⟩
theorem atStart : AtStart classFile x code maxLocals ret World_1 tables_1 room_1 Calls_1 rest_1 Pre_1 launch0 p0 e0 about1 theMethod args0 below0 :=
  ⟨lists_1, trivial, launch0.admits_env _ _ _, launch0.least_env, fairChoices_fair.cas, fairChoices_fair.clock, w_frames, w_args, w_heap, w_applies, ⟨w_consts, trivial⟩, w_rest, w_case⟩
end start1
theorem witness_1 : WitnessClaimed_1 := ⟨start1.p0, start1.e0, start1.about1, start1.theMethod, start1.args0, start1.below0, start1.atStart⟩
end Jvm.Pilot.@@N@@
