import JvmDerived
import JvmDerived.Pilot.@@N@@Statement
import JvmDerived.Pilot.@@N@@Code
set_option linter.unusedVariables false
set_option linter.unusedSimpArgs false
namespace Jvm.Pilot.@@N@@
open Jvm Jvm.ClassFile Sem Op Lib Jvm.Free Jvm.Stand Jvm.LawKit Jvm.RoadKit Bundle Jvm.Pilot.@@N@@.Jvm.D
set_option maxRecDepth 65536
set_option maxHeartbeats 40000000
abbrev uu : Slot := .unset
abbrev s1' : String := "java/util/ArrayList"
abbrev s2' : String := "com/example/harpocrates/harpocrates/data/Taxonomy"
abbrev s3' : String := "java/util/ImmutableCollections$List12"
abbrev s4' : String := "[Ljava/lang/Object;"
abbrev s5' : String := "java/util/ImmutableCollections"
abbrev s6' : String := "java/util/AbstractList"
abbrev s7' : String := "com/example/harpocrates/harpocrates/data/TaxonomyFindPinLaw"
abbrev s8' : String := "java/util/ImmutableCollections$ListN"
abbrev s9' : String := "(Ljava/lang/String;)Ljava/util/Optional;"
abbrev s10' : String := "Ljava/util/ImmutableCollections$ListN;"
abbrev s11' : String := "(Ljava/lang/Object;)Ljava/lang/Object;"
abbrev s12' : String := "(Ljava/util/Collection;)Ljava/util/List;"
abbrev s13' : String := "(Lcom/example/harpocrates/harpocrates/data/Taxonomy;Lcom/example/harpocrates/harpocrates/data/Taxonomy;ZCCC)Lcom/example/harpocrates/harpocrates/data/Taxonomy;"
abbrev s14' : String := "(Lcom/example/harpocrates/harpocrates/data/Taxonomy;CC)Lcom/example/harpocrates/harpocrates/data/Taxonomy;"
def HW (Z : State) (a0 : Array Value) : Prop := ∀ d ∈ tables_1, d.before a0 Z = true
theorem HW.at {Z : State} {a0 : Array Value} (hw : HW Z a0) (i : Nat) {d : Jvm.Cond} (h : tables_1[i]? = some d) : d.before a0 Z = true := hw _ (List.mem_of_getElem? h)
section OwnKit
variable {p : Program} {l : Launch} {e : Env} {R : Room} {s : State} {m : MethodId} {args : Array Value} {below : List Frame} {meth : Method} {c : Code} {T : State} {locs : List Loc} {cells slots : Nat} {Z : State} {a0 : Array Value} {h : Heap}
/-- from A the walk comes to an end of which F holds -/
def Rch (p : Program) (e : Env) (below : List Frame) (F : Outcome → State → Prop) (A : State) : Prop := ∃ s₂ o, Steps p.tables e below A s₂ ∧ s₂.status = .running ∧ Ended s₂ below o ∧ F o s₂
abbrev Aw (p : Program) (e : Env) (below : List Frame) (F : Outcome → State → Prop) (T : State) (m : MethodId) (pc : Nat) (Ls : Array Slot) (st : List Value) : Prop := Rch p e below F (T.setTop (mkF m pc Ls st))
theorem Rch.go {F : Outcome → State → Prop} {A B : State} (h : ∀ t, Steps p.tables e below B t → Steps p.tables e below A t) (r : Rch p e below F B) : Rch p e below F A := by
  obtain ⟨t, o, h1, h2⟩ := r
  exact ⟨t, o, h t h1, h2⟩
/-- what a body leaves -/
def Leaves (s : State) (C S : Nat) (Q : Option Value → Heap → List Loc → Prop) (o : Outcome) (U : State) : Prop := ∃ v L, o = .returned v ∧ Q v U.heap L ∧ FrameEnd s o U L C S
/-- a body's contract, at one heap and one row of arguments -/
def Ctr (l : Launch) (Z : State) (ws : List Jvm.Cond) (y : MethodName) (bytes : ByteArray) (maxL : Nat) (ret : Option FieldType) (as' : Array Value) (h0 : Heap) (rm : Room) (Q : Option Value → Heap → List Loc → Prop) : Prop :=
  MetFree l y (head1 (Jvm.Cond.code y bytes maxL ret :: ws) rm) (fun a U => a = as' ∧ Z.Warmed39 U.vm ∧ U.heap = h0) (fun _ _ _ _ _ => True) (fun _ U o U' => ∃ v L, o = .returned v ∧ Q v U'.heap L ∧ FrameEnd U o U' L rm.cells rm.slots)
theorem Ctr.of {ws : List Jvm.Cond} {y : MethodName} {bytes : ByteArray} {maxL : Nat} {ret : Option FieldType} {as' : Array Value} {h0 : Heap} {rm : Room} {Q : Option Value → Heap → List Loc → Prop} {Ls : Array Slot} (hpn : plainFor y = true) (ef : ∀ m, entryFrame m as' maxL = mkF m 0 Ls [])
    (H : ∀ (p : Program) (e : Env) (s : State) (m : MethodId) (below : List Frame) (meth : Method) (c : Code) (T : State), p.tables.exec = Jvm.exec → Z.Warmed39 s.vm → c.code = bytes → c.maxLocals = maxL → s.vm.findClass y.cls = some m.cls → meth.name = y.name → meth.sig.returnType = ret → meth.locks = false →
      Stand p l e rm s m as' below meth c T [] 0 0 → T.heap = h0 → Rch p e below (Leaves s rm.cells rm.slots Q) (T.setTop (mkF m 0 Ls []))) : Ctr l Z ws y bytes maxL ret as' h0 rm Q := by
  refine MetFree.of_bodySF hpn hisR ?_
  intro p e s m args below meth c s₁ Bd hml0 hP hK
  obtain ⟨rfl, hZ, hh⟩ := hP
  have e0 : s₁.heap = h0 := by rw [← hh, Bd.state]; rfl
  obtain ⟨t, o, r1, r2, r3, r4⟩ := H p e s m below meth c s₁ Bd.exec hZ Bd.bytes hml0 (findClass_of_methodNamed Bd.named) (name_of_methodNamed Bd.named Bd.method).1 Bd.returns Bd.notSynchronized (Stand.of_body Bd) e0
  exact ⟨t, o, castTop (ef m) r1, r2, r3, r4⟩
theorem Rch.val (X : Stand p l e R s m args below meth c T locs cells slots) (hx : p.tables.exec = Jvm.exec) {pc : Nat} {Ls : Array Slot} {w : Value} {t : FieldType} {i : Instr} {rest : List Value} {Q : Option Value → Heap → List Loc → Prop} {C S : Nat} (hret : meth.sig.returnType = some t) (hlk : meth.locks = false) (hn : narrow t w = w)
    (hi : (i = .ireturn ∧ (t = .int ∨ t = .boolean ∨ t = .byte ∨ t = .char ∨ t = .short) ∧ ∃ z, w = .int z) ∨ (i = .lreturn ∧ t = .long ∧ ∃ z, w = .long z) ∨ (i = .dreturn ∧ t = .double ∧ ∃ z, w = .double z) ∨ (i = .freturn ∧ t = .float ∧ ∃ z, w = .float z) ∨ (i = .areturn ∧ t.isReference = true ∧ w.isRef = true))
    (hd : decode c.code pc = .ok (i, 1)) (hc : cells ≤ C) (hs : slots ≤ S) (hq : Q (some w) T.heap locs) : Rch p e below (Leaves s C S Q) (T.setTop (mkF m pc Ls (w :: rest))) := by
  obtain ⟨fs, hr, hrun, hended, hW, hsame⟩ := X.leave (v := some w) (fun h => by rw [hret] at h; cases h) hlk
  exact ⟨_, _, retOut X hx hret hn hi hd hr, hrun, hended, _, _, rfl, hq, ⟨_, rfl⟩, hW, hsame.mono hc hs⟩
theorem Rch.void (X : Stand p l e R s m args below meth c T locs cells slots) (hx : p.tables.exec = Jvm.exec) {pc : Nat} {Ls : Array Slot} {Q : Option Value → Heap → List Loc → Prop} {C S : Nat} (hret : meth.sig.returnType = none) (hlk : meth.locks = false)
    (hd : decode c.code pc = .ok (.return_, 1)) (hc : cells ≤ C) (hs : slots ≤ S) (hq : Q none T.heap locs) : Rch p e below (Leaves s C S Q) (T.setTop (mkF m pc Ls [])) := by
  obtain ⟨fs, hr, hrun, hended, hW, hsame⟩ := X.leave (v := none) (fun _ => rfl) hlk
  exact ⟨_, _, X.returnOut hx hret hd hr, hrun, hended, _, _, rfl, hq, ⟨_, rfl⟩, hW, hsame.mono hc hs⟩
theorem mayI {t : FieldType} {z : Int32} (ht : t = .int ∨ t = .boolean ∨ t = .byte ∨ t = .char ∨ t = .short) : ((Instr.ireturn : Instr) = .ireturn ∧ (t = .int ∨ t = .boolean ∨ t = .byte ∨ t = .char ∨ t = .short) ∧ ∃ y, (Value.int z) = .int y) ∨ ((Instr.ireturn : Instr) = .lreturn ∧ t = .long ∧ ∃ y, (Value.int z) = .long y) ∨ ((Instr.ireturn : Instr) = .dreturn ∧ t = .double ∧ ∃ y, (Value.int z) = .double y) ∨ ((Instr.ireturn : Instr) = .freturn ∧ t = .float ∧ ∃ y, (Value.int z) = .float y) ∨ ((Instr.ireturn : Instr) = .areturn ∧ t.isReference = true ∧ (Value.int z).isRef = true) := Or.inl ⟨rfl, ht, z, rfl⟩
end OwnKit
section OwnWide
variable {p : Program} {l : Launch} {e : Env} {R : Room} {s : State} {m : MethodId} {args : Array Value} {below : List Frame} {meth : Method} {c : Code} {T : State} {locs : List Loc} {cells slots : Nat} {Z : State} {a0 : Array Value} {h : Heap}
/-- what a body leaves that may have loaded String constants -/
def LeavesW (s : State) (C S : Nat) (Q : Option Value → Heap → List Loc → Prop) (o : Outcome) (U : State) : Prop := ∃ v L, o = .returned v ∧ Q v U.heap L ∧ ReturnedEndW s o U L C S
def CtrW (l : Launch) (Z : State) (ws : List Jvm.Cond) (y : MethodName) (bytes : ByteArray) (maxL : Nat) (ret : Option FieldType) (as' : Array Value) (h0 : Heap) (rm : Room) (Q : Option Value → Heap → List Loc → Prop) : Prop :=
  MetFree l y (head1 (Jvm.Cond.code y bytes maxL ret :: ws) rm) (fun a U => a = as' ∧ Z.Warmed39 U.vm ∧ U.heap = h0) (fun _ _ _ _ _ => True) (fun _ U o U' => ∃ v L, o = .returned v ∧ Q v U'.heap L ∧ ReturnedEndW U o U' L rm.cells rm.slots)
theorem CtrW.of {ws : List Jvm.Cond} {y : MethodName} {bytes : ByteArray} {maxL : Nat} {ret : Option FieldType} {as' : Array Value} {h0 : Heap} {rm : Room} {Q : Option Value → Heap → List Loc → Prop} {Ls : Array Slot} (hpn : plainFor y = true) (ef : ∀ m, entryFrame m as' maxL = mkF m 0 Ls [])
    (H : ∀ (p : Program) (e : Env) (s : State) (vm0 : Vm) (m : MethodId) (below : List Frame) (meth : Method) (c : Code) (T : State), p.tables.exec = Jvm.exec → Z.Warmed39 vm0 → c.code = bytes → c.maxLocals = maxL → vm0.findClass y.cls = some m.cls → meth.name = y.name → meth.sig.returnType = ret → meth.locks = false →
      s.Since vm0 h0.size → Stand p l e rm (s.setVm vm0) m as' below meth c T [] 0 0 → T.heap = h0 → Rch p e below (LeavesW s rm.cells rm.slots Q) (T.setTop (mkF m 0 Ls []))) : CtrW l Z ws y bytes maxL ret as' h0 rm Q := by
  refine MetFree.of_bodySF hpn hisR ?_
  intro p e s m args below meth c s₁ Bd hml0 hP hK
  obtain ⟨rfl, hZ, hh⟩ := hP
  have e0 : s₁.heap = h0 := by rw [← hh, Bd.state]; rfl
  obtain ⟨t, o, r1, r2, r3, r4⟩ := H p e s s.vm m below meth c s₁ Bd.exec hZ Bd.bytes hml0 (findClass_of_methodNamed Bd.named) (name_of_methodNamed Bd.named Bd.method).1 Bd.returns Bd.notSynchronized ((State.WarmedH.refl s).since _) (Stand.of_body Bd) e0
  exact ⟨t, o, castTop (ef m) r1, r2, r3, r4⟩
theorem Rch.valW {vm0 : Vm} {k0 : Nat} (X : Stand p l e R (s.setVm vm0) m args below meth c T locs cells slots) (hx : p.tables.exec = Jvm.exec) (hS : s.Since vm0 k0) (eT : T.heap = h) (hk : k0 ≤ h.size) {pc : Nat} {Ls : Array Slot} {w : Value} {t : FieldType} {i : Instr} {rest : List Value} {Q : Option Value → Heap → List Loc → Prop} {C S : Nat} (hret : meth.sig.returnType = some t) (hlk : meth.locks = false) (hn : narrow t w = w)
    (hi : (i = .ireturn ∧ (t = .int ∨ t = .boolean ∨ t = .byte ∨ t = .char ∨ t = .short) ∧ ∃ z, w = .int z) ∨ (i = .lreturn ∧ t = .long ∧ ∃ z, w = .long z) ∨ (i = .dreturn ∧ t = .double ∧ ∃ z, w = .double z) ∨ (i = .freturn ∧ t = .float ∧ ∃ z, w = .float z) ∨ (i = .areturn ∧ t.isReference = true ∧ w.isRef = true))
    (hd : decode c.code pc = .ok (i, 1)) (hc : cells ≤ C) (hs : slots ≤ S) (hq : Q (some w) h locs) : Rch p e below (LeavesW s C S Q) (T.setTop (mkF m pc Ls (w :: rest))) := by
  subst eT
  obtain ⟨fs, hr, hrun, hended, hW⟩ := X.leaveW (v := some w) hS hk (fun h => by rw [hret] at h; cases h) hlk
  exact ⟨_, _, retOut X hx hret hn hi hd hr, hrun, hended, _, _, rfl, hq, hW.1, hW.2.1, hW.2.2.1, hW.2.2.2.mono hc hs⟩
theorem Rch.voidW {vm0 : Vm} {k0 : Nat} (X : Stand p l e R (s.setVm vm0) m args below meth c T locs cells slots) (hx : p.tables.exec = Jvm.exec) (hS : s.Since vm0 k0) (eT : T.heap = h) (hk : k0 ≤ h.size) {pc : Nat} {Ls : Array Slot} {Q : Option Value → Heap → List Loc → Prop} {C S : Nat} (hret : meth.sig.returnType = none) (hlk : meth.locks = false)
    (hd : decode c.code pc = .ok (.return_, 1)) (hc : cells ≤ C) (hs : slots ≤ S) (hq : Q none h locs) : Rch p e below (LeavesW s C S Q) (T.setTop (mkF m pc Ls [])) := by
  subst eT
  obtain ⟨fs, hr, hrun, hended, hW⟩ := X.leaveW (v := none) hS hk (fun _ => rfl) hlk
  exact ⟨_, _, X.returnOut hx hret hd hr, hrun, hended, _, _, rfl, hq, hW.1, hW.2.1, hW.2.2.1, hW.2.2.2.mono hc hs⟩
end OwnWide
section OwnNum
theorem own_pos (x : Int32) : ¬ (x &&& 2147483647) < 0 := fun h => absurd ((XT.and_neg32 x 2147483647).mp h).2 (by decide)
theorem own_rem {y n : Int32} (h : ¬ y < 0) (hn : 0 < n.toInt) : 0 ≤ (y % n).toInt ∧ (y % n).toInt < n.toInt := by
  rw [Int32.toInt_mod]
  have h' : 0 ≤ y.toInt := Int.not_lt.mp fun q => h ((XT.negI32 y).mpr q)
  exact ⟨Int.tmod_nonneg _ h', Int.tmod_lt_of_pos _ hn⟩
end OwnNum
section OwnCase
variable {Z : State} {args : Array Value}
theorem own_fldI {t : Term} {a : Addr} {C n d : String} {k : Int32} (ev : t.eval args Z none [] Z = some (.ref a)) (h : (Cond.eq (.field t C n d) (.int k)).value args Z none Z [] = some true) : Fld Z Z.heap a C n d (.int k) := by
  refine Fld.start ?_
  rw [← fld_at (args := args) (first := Z) (o := none) (idx := []) (C := C) (n := n) (dd := d) ev]
  obtain ⟨x, y, h1, h2, h3, h4⟩ := cmp_v (Or.inl h)
  have h2' : y = .int k := (Option.some.inj ((Term.int_eval k).symm.trans h2)).symm
  subst h2'
  obtain ⟨z, rfl⟩ := h4
  have h5 : z = k := by simpa [Cond.value, h1, Term.int_eval] using h
  rw [h1, h5]
theorem own_fldR {t u : Term} {a b : Addr} {C n d : String} (ev : t.eval args Z none [] Z = some (.ref a)) (eu : u.eval args Z none [] Z = some (.ref b)) (h : (Cond.eq (.field t C n d) u).value args Z none Z [] = some true) : Fld Z Z.heap a C n d (.ref b) := by
  refine Fld.start ?_
  rw [← fld_at (args := args) (first := Z) (o := none) (idx := []) (C := C) (n := n) (dd := d) ev]
  obtain ⟨x, y, h1, h2, h3, h4⟩ := cmp_v (Or.inl h)
  obtain rfl : y = .ref b := Option.some.inj (h2.symm.trans eu)
  rw [h1]
  rcases ref_cases h4.2 with rfl | ⟨z, rfl⟩
  · simp [Cond.value, h1, eu] at h
  · have h5 : z = b := by simpa [Cond.value, h1, eu] using h
    rw [h5]
end OwnCase
section OwnSets
variable {Z : State} {args : Array Value}
theorem own_len {t : Term} {a : Addr} {ty : FieldType} {k : Int32} (ev : t.eval args Z none [] Z = some (.ref a)) (h1 : (Cond.arrayOf t ty).value args Z none Z [] = some true) (h2 : (Cond.eq (.length t) (.int k)).value args Z none Z [] = some true) : ∃ c, Arr Z Z.heap a c ty ∧ c.slots.size < 2 ^ 31 ∧ c.slots.size.toInt32 = k := by
  obtain ⟨c, A⟩ := Arr.start ev h1
  obtain ⟨x, y, e1, e2, e3, e4⟩ := cmp_v (Or.inl h2)
  have e2' : y = .int k := (Option.some.inj ((Term.int_eval k).symm.trans e2)).symm
  subst e2'
  obtain ⟨z, rfl⟩ := e4
  have h5 : z = k := by simpa [Cond.value, e1, Term.int_eval] using h2
  have hA : Z.arrayAt? a = some c := A.fin (Vm.Alike.refl _)
  simp only [Term.eval, ev, hA, Option.bind_eq_bind, Option.bind_some] at e1
  split at e1
  · rename_i hl
    refine ⟨c, A, hl, ?_⟩
    have := Option.some.inj e1
    rw [← h5]; exact Value.int.inj this
  · cases e1
theorem own_elem {t : Term} {a : Addr} {c : Cell} {ty : FieldType} {k : Int32} {v : Value} (A : Arr Z Z.heap a c ty) (ev : t.eval args Z none [] Z = some (.ref a)) (h : (Term.elem t (.int k)).eval args Z none [] Z = some v) : c.slots[k.toNatClampNeg]? = some v := (elem_in h ev (Term.int_eval k) A.1).2
theorem own_eqI {t : Term} {k : Int32} (h : (Cond.eq t (.int k)).value args Z none Z [] = some true) : t.eval args Z none [] Z = some (.int k) := by
  obtain ⟨x, y, e1, e2, e3, e4⟩ := cmp_v (Or.inl h)
  have e2' : y = .int k := (Option.some.inj ((Term.int_eval k).symm.trans e2)).symm
  subst e2'
  obtain ⟨z, rfl⟩ := e4
  have h5 : z = k := by simpa [Cond.value, e1, Term.int_eval] using h
  rw [e1, h5]
theorem own_eqR {t u : Term} {b : Addr} (eu : u.eval args Z none [] Z = some (.ref b)) (h : (Cond.eq t u).value args Z none Z [] = some true) : t.eval args Z none [] Z = some (.ref b) := by
  obtain ⟨x, y, h1, h2, h3, h4⟩ := cmp_v (Or.inl h)
  obtain rfl : y = .ref b := Option.some.inj (h2.symm.trans eu)
  rw [h1]
  rcases ref_cases h4.2 with rfl | ⟨z, rfl⟩
  · simp [Cond.value, h1, eu] at h
  · have h5 : z = b := by simpa [Cond.value, h1, eu] using h
    rw [h5]
theorem own_neI {t : Term} {x k : Int32} (ev : t.eval args Z none [] Z = some (.int x)) (h : (Cond.not (Cond.eq t (.int k))).value args Z none Z [] = some true) : ¬ x = k := fun q => by
  have h' := not_v h
  simp [Cond.value, ev, Term.int_eval, q] at h'
theorem own_fldV {t : Term} {a : Addr} {C n d : String} {v : Value} (ev : t.eval args Z none [] Z = some (.ref a)) (h : (Term.field t C n d).eval args Z none [] Z = some v) : Fld Z Z.heap a C n d v := Fld.start ((fld_at ev).symm.trans h)
theorem own_nref {v : Value} {t : FieldType} (h : v.isRef = true) : narrow t v = v := by cases v <;> first | rfl | (cases h; done) | (cases t <;> rfl)
theorem own_fref {v : Value} {t : FieldType} (h : v.isRef = true) (ht : t.isReference = true := by rfl) : fits t v = true := by cases t <;> first | (cases ht; done) | (cases v <;> first | rfl | (cases h; done))
end OwnSets
section OwnChar
theorem own_lcmp (x : Int64) : lcmpW x x = 0 := by simp [lcmpW]
theorem own_and255 (x : Int32) : ¬ (255 : Int32) < x &&& 255 ∧ ¬ x &&& 255 < 0 := by
  have h : (x &&& 255).toBitVec ≤ 255#32 := by
    show x.toBitVec &&& 255#32 ≤ 255#32
    rw [BitVec.le_def, BitVec.toNat_and]
    exact Nat.and_le_right
  have h2 : (x &&& 255).toInt = ((x &&& 255).toBitVec.toNat : Int) := by
    show (x &&& 255).toBitVec.toInt = _
    rw [BitVec.toInt_eq_toNat_of_lt]
    rw [BitVec.le_def] at h
    have : (255#32).toNat = 255 := rfl
    omega
  rw [BitVec.le_def] at h
  have h3 : (255#32).toNat = 255 := rfl
  rw [Int32.lt_iff_toInt_lt, Int32.lt_iff_toInt_lt, h2]
  have h4 : (255 : Int32).toInt = 255 := rfl
  have h5 : (0 : Int32).toInt = 0 := rfl
  rw [h4, h5]
  omega
/-- a char of eight bits -/
theorem own_chr (x : Int32) : ∃ c, (x &&& 255).toUInt32.toUInt16.toUInt32.toInt32 = c ∧ nar .char c = c ∧ ¬ (255 : Int32) < c ∧ ¬ c < 0 :=
  ⟨x &&& 255, i2c_mask x, i2c_mask x, (own_and255 x).1, (own_and255 x).2⟩
theorem own_ncc (x : Int32) : Value.int ((x.toUInt32.toUInt16.toUInt32.toInt32).toUInt32.toUInt16.toUInt32.toInt32) = Value.int (x.toUInt32.toUInt16.toUInt32.toInt32) := by
  have e : ∀ u : UInt16, (u.toUInt32.toInt32.toUInt32.toUInt16) = u := fun u => by rw [UInt32.toUInt32_toInt32]; exact UInt16.toUInt16_toUInt32 u
  rw [e]
end OwnChar
section OwnInst
variable {p : Program} {l : Launch} {e : Env} {R : Room} {s : State} {m : MethodId} {args : Array Value} {below : List Frame} {meth : Method} {c : Code} {T : State} {locs : List Loc} {cells slots : Nat} {Z : State} {a0 : Array Value} {h : Heap}
/-- the class K is no interface -/
def NI (Z : State) (K : String) : Prop := ∃ (t : ClassId) (k : Class), Z.vm.findClass K = some t ∧ Z.vm.classes[t]? = some k ∧ k.isInterface = false
theorem NI.ofInst {K : String} {n : Nat} (w : (Cond.instantiable K n).before a0 Z = true) : NI Z K := by
  obtain ⟨c, k, h1, h2, -, h3, -⟩ := Cond.instantiable_spec w
  exact ⟨c, k, h1, h2, by simp at h3; exact h3.1⟩
theorem NI.ofSel {C K : String} {y z : MethodName} (w : (Cond.selects C y z).before a0 Z = true) (hz : z.cls = K) : NI Z K := by
  obtain ⟨c2, r2, m2, -, -, q3, -, kP, hkP, hkPi⟩ := Cond.selects_spec w
  exact ⟨m2.cls, kP, hz ▸ findClass_of_methodNamed q3, hkP, hkPi⟩
theorem own_nsRoot {O K : String} (w : (Cond.noSuperclass O).before a0 Z = true) (wk : NI Z K) (hn : O ≠ K) : NS Z O K := by
  obtain ⟨c, k, h1, h2, h3, -, -⟩ := Cond.noSuperclass_spec w
  obtain ⟨t, -, g1, -⟩ := wk
  have ne := ids_ne h1 g1 hn
  refine ⟨c, t, h1, g1, fun fuel => ?_⟩
  cases fuel with
  | zero => rfl
  | succ f => simp [Vm.isSubclassAux, ne, h2, h3]
theorem own_nsNo {C S K : String} (w : (Cond.superclass C S).before a0 Z = true) (wk : NI Z K) (n : NS Z C K) (hn : C ≠ K) : ∃ c t, Z.vm.findClass C = some c ∧ Z.vm.findClass K = some t ∧ Z.vm.assignable c t = false := by
  obtain ⟨c, t, h0, g0, n3⟩ := n
  obtain ⟨p, k, kp, h1, h2, h3, h4, h5, -, h7⟩ := Cond.superclass_spec h0 w
  obtain ⟨t', k', g1, g2, g3⟩ := wk
  cases g0.symm.trans g1
  have ne := ids_ne h0 g0 hn
  refine ⟨c, t, h0, g0, ?_⟩
  show Z.vm.assignableAux (255 + 1) c t = false
  cases hk : k'.kind <;> simp [Vm.assignableAux, ne, h2, g2, h5, hk, g3, Vm.isSubclass, n3]
/-- 'instanceof', whichever it says -/
theorem own_instE (X : Stand p l e R s m args below meth c T locs cells slots) (hx : p.tables.exec = Jvm.exec) (hZ : Z.Warmed39 s.vm) {own K C : String} {index : Nat} (hown : s.vm.findClass own = some m.cls) (w : (Cond.classLink own index K).before a0 Z = true) (eT : T.heap = h) {a : Addr} (E : Exa Z h a C)
    {g : JFrame} (hg : g.method = m) {rest : List Value} (hs : g.stack = .ref a :: rest) (hd : decode c.code g.pc = .ok (.instanceof index, 3)) :
    (Ins Z h a K true ∧ ∃ T', Stand p l e R s m args below meth c T' locs cells slots ∧ T'.heap = h ∧ ∀ target, Steps p.tables e below (T'.setTop { g with pc := g.pc + 3, stack := .int 1 :: rest }) target → Steps p.tables e below (T.setTop g) target) ∨
    (∃ T', Stand p l e R s m args below meth c T' locs cells slots ∧ T'.heap = h ∧ ∀ target, Steps p.tables e below (T'.setTop { g with pc := g.pc + 3, stack := .int 0 :: rest }) target → Steps p.tables e below (T.setTop g) target) := by
  have hpl : e.platform.magicAccessors = ({} : Platform).magicAccessors := by rw [X.admits.platform]
  obtain ⟨t, ht, -⟩ := Cond.classLink_spec hown (mv (args := args) hZ w) e.platform hpl
  rw [hZ.alike.findClass] at ht
  obtain ⟨cell, k, h1, h2, h3, h4, h5⟩ := id E
  cases ha : Z.vm.assignable cell.cls t with
  | true =>
    have I : Ins Z h a K true := ⟨cell, t, h1, ht, by simp [h4, ha]⟩
    exact Or.inl ⟨I, instY X hx hZ hown w eT I hg hs hd⟩
  | false => exact Or.inr (instNo X hx hZ hown w eT E ⟨cell.cls, t, h2, ht, ha⟩ hg hs hd)
end OwnInst
theorem strW {Z : State} {a0 : Array Value} (hw : HW Z a0) : ∀ a ∈ Bundle.stringAtoms, a.before a0 Z = true := by
  intro a ha
  simp only [Bundle.stringAtoms, List.mem_cons, List.not_mem_nil, or_false] at ha
  rcases ha with rfl | rfl | rfl | rfl | rfl | rfl | rfl
  · exact hw _ (List.mem_of_getElem? (i := 5) rfl)
  · exact hw _ (List.mem_of_getElem? (i := 13) rfl)
  · exact hw _ (List.mem_of_getElem? (i := 17) rfl)
  · exact hw _ (List.mem_of_getElem? (i := 26) rfl)
  · exact hw _ (List.mem_of_getElem? (i := 28) rfl)
  · exact hw _ (List.mem_of_getElem? (i := 63) rfl)
  · exact hw _ (List.mem_of_getElem? (i := 64) rfl)
section OwnMirror
variable {p : Program} {l : Launch} {e : Env} {R : Room} {s : State} {m : MethodId} {args : Array Value} {below : List Frame} {meth : Method} {c : Code} {T : State} {locs : List Loc} {cells slots : Nat} {Z : State} {a0 : Array Value} {h : Heap}
/-- the class C has a mirror, at a -/
def MirA (Z : State) (C : String) (a : Addr) : Prop := ∃ (c : ClassId) (k : Class), Z.vm.findClass C = some c ∧ Z.vm.classes[c]? = some k ∧ k.mirror = some a
theorem own_mir {C : String} (h : MirrorMade Z C) : ∃ a, MirA Z C a := by
  obtain ⟨c, k, a, h1, h2, h3⟩ := h
  exact ⟨a, c, k, h1, h2, h3.1⟩
theorem own_ldcM (X : Stand p l e R s m args below meth c T locs cells slots) (hx : p.tables.exec = Jvm.exec) (hZ : Z.Warmed39 s.vm) {own C : String} {index : Nat} {a : Addr} (hown : s.vm.findClass own = some m.cls) (w : (Cond.classLink own index C).before a0 Z = true) (M : MirA Z C a) (eT : T.heap = h)
    {g : JFrame} (hg : g.method = m) (hd : decode c.code g.pc = .ok (.ldc index, 2)) : ∃ T', Stand p l e R s m args below meth c T' locs cells slots ∧ T'.heap = h ∧ ∀ t, Steps p.tables e below (T'.setTop { g with pc := g.pc + 2, stack := .ref a :: g.stack }) t → Steps p.tables e below (T.setTop g) t := by
  obtain ⟨cc, kc, m1, m2, m3⟩ := M
  obtain ⟨k', q, ek⟩ := hZ.alike.2.2 _ _ m2
  have e1 : s.vm.findClass C = some cc := by rw [hZ.alike.findClass]; exact m1
  have e2 : k'.mirror = some a := by rw [ek]; exact m3
  obtain ⟨vm', X', st⟩ := X.ldcMirror hx hown (mv hZ w) (a := a) (by simp [Term.eval, e1, q, e2]) hg hd
  exact ⟨_, X', eT, st⟩
theorem own_gcls (X : Stand p l e R s m args below meth c T locs cells slots) (hx : p.tables.exec = Jvm.exec) (hZ : Z.Warmed39 s.vm) {own C : String} {index : Nat} (hown : s.vm.findClass own = some m.cls)
    (w1 : (Cond.methodLink own index ⟨"java/lang/Object", "getClass", "()Ljava/lang/Class;"⟩).before a0 Z = true) (w2 : (Cond.declares ⟨"java/lang/Object", "getClass", "()Ljava/lang/Class;"⟩).before a0 Z = true) (w4 : (Cond.selects C ⟨"java/lang/Object", "getClass", "()Ljava/lang/Class;"⟩ ⟨"java/lang/Object", "getClass", "()Ljava/lang/Class;"⟩).before a0 Z = true)
    (w5 : (Cond.instanceMethod ⟨"java/lang/Object", "getClass", "()Ljava/lang/Class;"⟩).before a0 Z = true) (w6 : (Cond.native ⟨"java/lang/Object", "getClass", "()Ljava/lang/Class;"⟩).before a0 Z = true) (eT : T.heap = h) {a : Addr} (E : Exa Z h a C) {mr : Addr} (M : MirA Z C mr)
    {g : JFrame} (hg : g.method = m) (hsize : g.locals.size = c.maxLocals) {rest : List Value} (hs : g.stack = .ref a :: rest) (hd : decode c.code g.pc = .ok (.invokevirtual index, 3)) (hf : 1 ≤ R.frames) {W : Nat} (hW : 2 * g.monitorRoom + (rest.map fun v => v.category).sum ≤ W) (hl : W + (nativeFrameWords "java/lang/Object" "getClass" 1 + 11) ≤ R.locals) :
    ∃ T', Stand p l e R s m args below meth c T' locs cells slots ∧ T'.heap = h ∧ ∀ t, Steps p.tables e below (T'.setTop { g with pc := g.pc + 3, stack := .ref mr :: rest }) t → Steps p.tables e below (T.setTop g) t := by
  obtain ⟨cB, kB, i1, i2, i3⟩ := isOf hZ eT E
  obtain ⟨cc, kc, m1, m2, m3⟩ := M
  rw [hZ.alike.findClass] at i1
  cases i1.symm.trans m1
  obtain ⟨k', q, ek⟩ := hZ.alike.2.2 _ _ m2
  obtain ⟨vm', X', st⟩ := X.getClassOf hx hown (mvT hZ w1) (mvT hZ w2) (notFace_of_selects (args := #[]) (mvT hZ w4)) (mvT hZ w4) (mvT hZ w5) (mvT hZ w6) (by rw [hZ.alike.findClass]; exact m1) i3 q (by rw [ek]; exact m3) hg hsize hs hd hf (by omega)
  exact ⟨_, X', eT, st⟩
theorem own_ifm {r o n d : String} (hZ : Z.Warmed39 s.vm) (h : (Cond.interfaceMethod r o n d).before a0 Z = true) : (Cond.interfaceMethod r o n d).before args s = true := by
  have hal := hZ.alike
  obtain ⟨c, k, m, hc, hk, hi, hf, hn⟩ := Cond.interfaceMethod_spec h
  obtain ⟨k', hk', he⟩ := hal.2.2 _ _ hk
  have e1 : s.vm.findClass r = some c := by rw [hal.findClass]; exact hc
  have e2 : (Z.setVm s.vm).methodFound? r n d = some m := by rw [State.methodFound?_setVm hal]; exact hf
  have e2' : s.methodFound? r n d = some m := e2
  have e3 : (Z.setVm s.vm).methodNamed? ⟨o, n, d⟩ = some m := by rw [State.methodNamed?_setVm hal]; exact hn
  have e3' : s.methodNamed? ⟨o, n, d⟩ = some m := e3
  have e4 : k'.isInterface = true := by rw [he]; exact hi
  simp [Cond.before, Cond.holds, Cond.value, e1, e2', e3', hk', e4]
theorem own_gclsI (X : Stand p l e R s m args below meth c T locs cells slots) (hx : p.tables.exec = Jvm.exec) (hZ : Z.Warmed39 s.vm) {own C : String} {index count : Nat} (hown : s.vm.findClass own = some m.cls) {xi : MethodName}
    (w1 : (Cond.methodLink own index xi).before a0 Z = true) (w2 : (Cond.declares ⟨"java/lang/Object", "getClass", "()Ljava/lang/Class;"⟩).before a0 Z = true) (w3 : (Cond.interfaceMethod xi.cls "java/lang/Object" xi.name xi.desc).before a0 Z = true) (w4 : (Cond.selects C xi ⟨"java/lang/Object", "getClass", "()Ljava/lang/Class;"⟩).before a0 Z = true)
    (w5 : (Cond.instanceMethod ⟨"java/lang/Object", "getClass", "()Ljava/lang/Class;"⟩).before a0 Z = true) (w7 : (Cond.publicMethod ⟨"java/lang/Object", "getClass", "()Ljava/lang/Class;"⟩).before a0 Z = true) (w8 : (Cond.unhidden C xi.name xi.desc).before a0 Z = true) (w9 : (Cond.castable C xi.cls).before a0 Z = true)
    (w6 : (Cond.native ⟨"java/lang/Object", "getClass", "()Ljava/lang/Class;"⟩).before a0 Z = true) (hy : xi.cls ≠ "java/lang/invoke/MethodHandle" ∧ xi.cls ≠ "java/lang/invoke/VarHandle") (hxo : xi.cls ≠ "java/lang/Object") (hname : xi.name = "getClass") (hdesc : xi.desc = "()Ljava/lang/Class;") (eT : T.heap = h) {a : Addr} (E : Exa Z h a C) {mr : Addr} (M : MirA Z C mr)
    {g : JFrame} (hg : g.method = m) (hsize : g.locals.size = c.maxLocals) {rest : List Value} (hs : g.stack = .ref a :: rest) (hd : decode c.code g.pc = .ok (.invokeinterface index count, 5)) (hf : 1 ≤ R.frames) {W : Nat} (hW : 2 * g.monitorRoom + (rest.map fun v => v.category).sum ≤ W) (hl : W + (nativeFrameWords "java/lang/Object" "getClass" 1 + 11) ≤ R.locals) :
    ∃ T', Stand p l e R s m args below meth c T' locs cells slots ∧ T'.heap = h ∧ ∀ t, Steps p.tables e below (T'.setTop { g with pc := g.pc + 5, stack := .ref mr :: rest }) t → Steps p.tables e below (T.setTop g) t := by
  obtain ⟨cB, kB, i1, i2, i3⟩ := isOf hZ eT E
  obtain ⟨cc, kc, m1, m2, m3⟩ := M
  have i1' := i1
  rw [hZ.alike.findClass] at i1
  cases i1.symm.trans m1
  obtain ⟨k', q, ek⟩ := hZ.alike.2.2 _ _ m2
  cases i2.symm.trans q
  obtain ⟨vm', X', st⟩ := X.getClassOfI hx hown (mvT hZ w1) (mvT hZ w2) (own_ifm hZ w3) (mvT hZ w4) (mvT hZ w5) (mvT hZ w7) (mvT hZ w8) (mvT hZ w9) (mvT hZ w6) hy hxo hname hdesc i1' i2 i3 (by rw [ek]; exact m3) hg hsize hs hd hf (by omega)
  exact ⟨_, X', eT, st⟩
end OwnMirror
section OwnCalls
variable {p : Program} {l : Launch} {e : Env} {R : Room} {s : State} {m : MethodId} {args : Array Value} {below : List Frame} {meth : Method} {c : Code} {T : State} {locs : List Loc} {cells slots : Nat} {Z : State} {a0 : Array Value} {h : Heap}
theorem callIf (X : Stand p l e R s m args below meth c T locs cells slots) (hx : p.tables.exec = Jvm.exec) (hZ : Z.Warmed39 s.vm) {own C : String} {index count : Nat} {y z : MethodName} {bytes : ByteArray} {maxL : Nat} {ret : Option FieldType} {rm : Room} {as' : Array Value} {Q : Option Value → Heap → List Loc → Prop} (M : Ctr l Z [] z bytes maxL ret as' h rm Q) (eT : T.heap = h)
    (hown : s.vm.findClass own = some m.cls) (w1 : (Cond.methodLink own index y).before a0 Z = true) (w2 : (Cond.declares y).before a0 Z = true) (w7 : (Cond.interfaceMethod y.cls y.cls y.name y.desc).before a0 Z = true) (w3 : (Cond.selects C y z).before a0 Z = true) (w4 : (Cond.instanceMethod z).before a0 Z = true) (w8 : (Cond.publicMethod z).before a0 Z = true) (w9 : (Cond.unhidden C y.name y.desc).before a0 Z = true) (w10 : (Cond.castable C y.cls).before a0 Z = true) (w5 : (Cond.code z bytes maxL ret).before a0 Z = true) (w6 : (Cond.initialized z.cls).before a0 Z = true)
    (hy : y.cls ≠ "java/lang/invoke/MethodHandle" ∧ y.cls ≠ "java/lang/invoke/VarHandle") {pc : Nat} {Ls : Array Slot} {st : List Value} (hd : decode c.code pc = .ok (.invokeinterface index count, 5)) (W : Nat) (hf : rm.frames + 1 ≤ R.frames) (hl : W + (maxL + 11) + rm.locals ≤ R.locals) (hc : cells + rm.cells ≤ R.cells) (hs : slots + rm.slots ≤ R.slots)
    (hsz : Ls.size = c.maxLocals) (a : Addr) (E : Exa Z h a C) (argsL rest : List Value) (has : (.ref a :: argsL).toArray = as') (hlen : ∀ sig, parseMethodDescriptor y.desc = some sig → argsL.length = sig.parameters.length) (hst : st = argsL.reverse ++ .ref a :: rest) (hW : (rest.map fun v => v.category).sum ≤ W) :
    ∃ v T' L, Stand p l e R s m args below meth c T' (locs ++ L) (cells + rm.cells) (slots + rm.slots) ∧ Q v T'.heap L ∧ ∀ t, Steps p.tables e below (T'.setTop (mkF m (pc + 5) Ls (v.toList ++ rest))) t → Steps p.tables e below (T.setTop (mkF m pc Ls st)) t := by
  subst has
  obtain ⟨cq, kq, qa, qb, qc⟩ := isOf hZ eT E
  obtain ⟨v, _, ⟨T', L', k', n'⟩, -, X', ⟨L, hQ, q1, q2, q3⟩, stp⟩ := X.interfaceBack hx (xi := y) (y := z) hown (mvT hZ w1) (mvT hZ w2) (mvT hZ w7 (by simp [Cond.onTables, Cond.keepsFace, Cond.keeps, Cond.faceAtom, hy.1, hy.2])) (mvT hZ w3) (mvT hZ w4) (mvT hZ w8) (mvT hZ w9) (mvT hZ w10) hy (backOf (W := W) M hZ w5 w6 hf hl) qa qb qc (g := mkF m pc Ls st) rfl hsz (Steps.refl _) (argsL := argsL) (rest := rest) hlen hst (by show 2 * 0 + _ ≤ _; rw [Nat.mul_zero, Nat.zero_add]; exact hW) hd (fun _ _ => ⟨rfl, eT, hc, hs⟩)
  dsimp only [Pt.U, Pt.locs, Pt.cells, Pt.slots] at X' q1 q2 q3 stp hQ
  subst q1 q2 q3
  exact ⟨v, T', L, X', hQ, fun t k => stp.trans k⟩
theorem callPr (X : Stand p l e R s m args below meth c T locs cells slots) (hx : p.tables.exec = Jvm.exec) (hZ : Z.Warmed39 s.vm) {own C : String} {index : Nat} {y : MethodName} {bytes : ByteArray} {maxL : Nat} {ret : Option FieldType} {rm : Room} {as' : Array Value} {Q : Option Value → Heap → List Loc → Prop} (M : Ctr l Z [] y bytes maxL ret as' h rm Q) (eT : T.heap = h)
    (hown : s.vm.findClass own = some m.cls) (w1 : (Cond.methodLink own index y).before a0 Z = true) (w2 : (Cond.instanceMethod y).before a0 Z = true) (w3 : (Cond.selects y.cls y y).before a0 Z = true) (w4 : (Cond.privateMethod y).before a0 Z = true) (w5 : (Cond.code y bytes maxL ret).before a0 Z = true) (w6 : (Cond.initialized y.cls).before a0 Z = true)
    (hy : y.cls ≠ "java/lang/invoke/MethodHandle" ∧ y.cls ≠ "java/lang/invoke/VarHandle") {pc : Nat} {Ls : Array Slot} {st : List Value} (hd : decode c.code pc = .ok (.invokevirtual index, 3)) (W : Nat) (hf : rm.frames + 1 ≤ R.frames) (hl : W + (maxL + 11) + rm.locals ≤ R.locals) (hc : cells + rm.cells ≤ R.cells) (hs : slots + rm.slots ≤ R.slots)
    (hsz : Ls.size = c.maxLocals) (a : Addr) (E : Exa Z h a C) (argsL rest : List Value) (has : (.ref a :: argsL).toArray = as') (hlen : ∀ sig, parseMethodDescriptor y.desc = some sig → argsL.length = sig.parameters.length) (hst : st = argsL.reverse ++ .ref a :: rest) (hW : (rest.map fun v => v.category).sum ≤ W) :
    ∃ v T' L, Stand p l e R s m args below meth c T' (locs ++ L) (cells + rm.cells) (slots + rm.slots) ∧ Q v T'.heap L ∧ ∀ t, Steps p.tables e below (T'.setTop (mkF m (pc + 3) Ls (v.toList ++ rest))) t → Steps p.tables e below (T.setTop (mkF m pc Ls st)) t := by
  subst has
  obtain ⟨cq, qa, qb⟩ := E.cell
  rw [← eT] at qa
  obtain ⟨v, _, ⟨T', L', k', n'⟩, -, X', ⟨L, hQ, q1, q2, q3⟩, stp⟩ := X.privateBack hx (y := y) hown (mvT hZ w1) (mvT hZ w2) (mvT hZ w3) (Cond.privateMethod_at (args := args) (mvP (args := args) (s := s) hZ w4)) (mvT hZ w5) hy (backOf (W := W) M hZ w5 w6 hf hl) (g := mkF m pc Ls st) rfl hsz (Steps.refl _) (a := a) qa qb (argsL := argsL) (rest := rest) hlen hst (by show 2 * 0 + _ ≤ _; rw [Nat.mul_zero, Nat.zero_add]; exact hW) hd (fun _ _ => ⟨rfl, eT, hc, hs⟩)
  dsimp only [Pt.U, Pt.locs, Pt.cells, Pt.slots] at X' q1 q2 q3 stp hQ
  subst q1 q2 q3
  exact ⟨v, T', L, X', hQ, fun t k => stp.trans k⟩
theorem callSp (X : Stand p l e R s m args below meth c T locs cells slots) (hx : p.tables.exec = Jvm.exec) (hZ : Z.Warmed39 s.vm) {own : String} {index : Nat} {y : MethodName} {bytes : ByteArray} {maxL : Nat} {rm : Room} {as' : Array Value} {Q : Option Value → Heap → List Loc → Prop} (M : Ctr l Z [] y bytes maxL none as' h rm Q) (eT : T.heap = h)
    (hown : s.vm.findClass own = some m.cls) (hy1 : y.name = "<init>") (w1 : (Cond.methodLink own index y).before a0 Z = true) (w2 : (Cond.instanceMethod y).before a0 Z = true) (w5 : (Cond.code y bytes maxL none).before a0 Z = true) (w6 : (Cond.initialized y.cls).before a0 Z = true)
    (hy : y.cls ≠ "java/lang/invoke/MethodHandle" ∧ y.cls ≠ "java/lang/invoke/VarHandle") {pc : Nat} {Ls : Array Slot} {st : List Value} (hd : decode c.code pc = .ok (.invokespecial index, 3)) (W : Nat) (hf : rm.frames + 1 ≤ R.frames) (hl : W + (maxL + 11) + rm.locals ≤ R.locals) (hc : cells + rm.cells ≤ R.cells) (hs : slots + rm.slots ≤ R.slots)
    (hsz : Ls.size = c.maxLocals) (a : Addr) (argsL rest : List Value) (has : (.ref a :: argsL).toArray = as') (hlen : ∀ sig, parseMethodDescriptor y.desc = some sig → argsL.length = sig.parameters.length) (hst : st = argsL.reverse ++ .ref a :: rest) (hW : (rest.map fun v => v.category).sum ≤ W) :
    ∃ v T' L, Stand p l e R s m args below meth c T' (locs ++ L) (cells + rm.cells) (slots + rm.slots) ∧ Q v T'.heap L ∧ ∀ t, Steps p.tables e below (T'.setTop (mkF m (pc + 3) Ls (v.toList ++ rest))) t → Steps p.tables e below (T.setTop (mkF m pc Ls st)) t := by
  subst has
  obtain ⟨v, _, ⟨T', L', k', n'⟩, -, X', ⟨L, hQ, q1, q2, q3⟩, stp⟩ := X.specialBack hx (y := y) hy1 hown (mvT hZ w1) (mvT hZ w2) (mvT hZ w5) hy (backOf (W := W) M hZ w5 w6 hf hl) (g := mkF m pc Ls st) rfl hsz (Steps.refl _) (a := a) (argsL := argsL) (rest := rest) hlen hst (by show 2 * 0 + _ ≤ _; rw [Nat.mul_zero, Nat.zero_add]; exact hW) hd (fun _ _ => ⟨rfl, eT, hc, hs⟩)
  dsimp only [Pt.U, Pt.locs, Pt.cells, Pt.slots] at X' q1 q2 q3 stp hQ
  subst q1 q2 q3
  exact ⟨v, T', L, X', hQ, fun t k => stp.trans k⟩
theorem callSt (X : Stand p l e R s m args below meth c T locs cells slots) (hx : p.tables.exec = Jvm.exec) (hZ : Z.Warmed39 s.vm) {own : String} {index : Nat} {y : MethodName} {bytes : ByteArray} {maxL : Nat} {ret : Option FieldType} {rm : Room} {as' : Array Value} {Q : Option Value → Heap → List Loc → Prop} (M : Ctr l Z [] y bytes maxL ret as' h rm Q) (eT : T.heap = h)
    (hown : s.vm.findClass own = some m.cls) (w1 : (Cond.methodLink own index y).before a0 Z = true) (w2 : (Cond.static y).before a0 Z = true) (w5 : (Cond.code y bytes maxL ret).before a0 Z = true) (w6 : (Cond.initialized y.cls).before a0 Z = true)
    (hy : y.cls ≠ "java/lang/invoke/MethodHandle" ∧ y.cls ≠ "java/lang/invoke/VarHandle") {pc : Nat} {Ls : Array Slot} {st : List Value} (hd : decode c.code pc = .ok (.invokestatic index, 3)) (W : Nat) (hf : rm.frames + 1 ≤ R.frames) (hl : W + (maxL + 11) + rm.locals ≤ R.locals) (hc : cells + rm.cells ≤ R.cells) (hs : slots + rm.slots ≤ R.slots)
    (hsz : Ls.size = c.maxLocals) (argsL rest : List Value) (has : argsL.toArray = as') (hlen : ∀ sig, parseMethodDescriptor y.desc = some sig → argsL.length = sig.parameters.length) (hst : st = argsL.reverse ++ rest) (hW : (rest.map fun v => v.category).sum ≤ W) :
    ∃ v T' L, Stand p l e R s m args below meth c T' (locs ++ L) (cells + rm.cells) (slots + rm.slots) ∧ Q v T'.heap L ∧ ∀ t, Steps p.tables e below (T'.setTop (mkF m (pc + 3) Ls (v.toList ++ rest))) t → Steps p.tables e below (T.setTop (mkF m pc Ls st)) t := by
  subst has
  obtain ⟨v, _, ⟨T', L', k', n'⟩, -, X', ⟨L, hQ, q1, q2, q3⟩, stp⟩ := Jvm.LawKit.callS X hx (y := y) hown (mvT hZ w1) (mvT hZ w2) (mvT hZ w6) (mvT hZ w5) hy (backOf (W := W) M hZ w5 w6 hf hl) (g := mkF m pc Ls st) rfl hsz (argsL := argsL) (rest := rest) hlen hst (by show 2 * 0 + _ ≤ _; rw [Nat.mul_zero, Nat.zero_add]; exact hW) hd (fun _ _ => ⟨rfl, eT, hc, hs⟩)
  dsimp only [Pt.U, Pt.locs, Pt.cells, Pt.slots] at X' q1 q2 q3 stp hQ
  subst q1 q2 q3
  exact ⟨v, T', L, X', hQ, stp⟩
theorem callVi (X : Stand p l e R s m args below meth c T locs cells slots) (hx : p.tables.exec = Jvm.exec) (hZ : Z.Warmed39 s.vm) {own C : String} {index : Nat} {y z : MethodName} {bytes : ByteArray} {maxL : Nat} {ret : Option FieldType} {rm : Room} {as' : Array Value} {Q : Option Value → Heap → List Loc → Prop} (M : Ctr l Z [] z bytes maxL ret as' h rm Q) (eT : T.heap = h)
    (hown : s.vm.findClass own = some m.cls) (w1 : (Cond.methodLink own index y).before a0 Z = true) (w2 : (Cond.declares y).before a0 Z = true) (w3 : (Cond.selects C y z).before a0 Z = true) (hnf : NotFace s y) (w4 : (Cond.instanceMethod z).before a0 Z = true) (w5 : (Cond.code z bytes maxL ret).before a0 Z = true) (w6 : (Cond.initialized z.cls).before a0 Z = true)
    (hy : y.cls ≠ "java/lang/invoke/MethodHandle" ∧ y.cls ≠ "java/lang/invoke/VarHandle") {pc : Nat} {Ls : Array Slot} {st : List Value} (hd : decode c.code pc = .ok (.invokevirtual index, 3)) (W : Nat) (hf : rm.frames + 1 ≤ R.frames) (hl : W + (maxL + 11) + rm.locals ≤ R.locals) (hc : cells + rm.cells ≤ R.cells) (hs : slots + rm.slots ≤ R.slots)
    (hsz : Ls.size = c.maxLocals) (a : Addr) (E : Exa Z h a C) (argsL rest : List Value) (has : (.ref a :: argsL).toArray = as') (hlen : ∀ sig, parseMethodDescriptor y.desc = some sig → argsL.length = sig.parameters.length) (hst : st = argsL.reverse ++ .ref a :: rest) (hW : (rest.map fun v => v.category).sum ≤ W) :
    ∃ v T' L, Stand p l e R s m args below meth c T' (locs ++ L) (cells + rm.cells) (slots + rm.slots) ∧ Q v T'.heap L ∧ ∀ t, Steps p.tables e below (T'.setTop (mkF m (pc + 3) Ls (v.toList ++ rest))) t → Steps p.tables e below (T.setTop (mkF m pc Ls st)) t := by
  subst has
  obtain ⟨cq, kq, qa, qb, qc⟩ := isOf hZ eT E
  obtain ⟨v, _, ⟨T', L', k', n'⟩, -, X', ⟨L, hQ, q1, q2, q3⟩, stp⟩ := X.virtualBack hx (y := y) (z := z) hown (mvT hZ w1) (mvT hZ w2) hnf (mvT hZ w3) (mvT hZ w4) hy (backOf (W := W) M hZ w5 w6 hf hl) qa qc (g := mkF m pc Ls st) rfl hsz (Steps.refl _) (argsL := argsL) (rest := rest) hlen hst (by show 2 * 0 + _ ≤ _; rw [Nat.mul_zero, Nat.zero_add]; exact hW) hd (fun _ _ => ⟨rfl, eT, hc, hs⟩)
  dsimp only [Pt.U, Pt.locs, Pt.cells, Pt.slots] at X' q1 q2 q3 stp hQ
  subst q1 q2 q3
  exact ⟨v, T', L, X', hQ, fun t k => stp.trans k⟩
theorem callSpW {vm0 : Vm} {k0 : Nat} (X : Stand p l e R (s.setVm vm0) m args below meth c T locs cells slots) (hx : p.tables.exec = Jvm.exec) (hZ : Z.Warmed39 vm0) (hS : s.Since vm0 k0) (hk : k0 ≤ h.size) {own : String} {index : Nat} {y : MethodName} {bytes : ByteArray} {maxL : Nat} {rm : Room} {as' : Array Value} {Q : Option Value → Heap → List Loc → Prop} (M : CtrW l Z [] y bytes maxL none as' h rm Q) (eT : T.heap = h)
    (hown : vm0.findClass own = some m.cls) (hy1 : y.name = "<init>") (w1 : (Cond.methodLink own index y).before a0 Z = true) (w2 : (Cond.instanceMethod y).before a0 Z = true) (w5 : (Cond.code y bytes maxL none).before a0 Z = true) (w6 : (Cond.initialized y.cls).before a0 Z = true)
    (hy : y.cls ≠ "java/lang/invoke/MethodHandle" ∧ y.cls ≠ "java/lang/invoke/VarHandle") {pc : Nat} {Ls : Array Slot} {st : List Value} (hd : decode c.code pc = .ok (.invokespecial index, 3)) (W : Nat) (hf : rm.frames + 1 ≤ R.frames) (hl : W + (maxL + 11) + rm.locals ≤ R.locals) (hc : cells + rm.cells ≤ R.cells) (hs : slots + rm.slots ≤ R.slots)
    (hsz : Ls.size = c.maxLocals) (a : Addr) (argsL rest : List Value) (has : (.ref a :: argsL).toArray = as') (hlen : ∀ sig, parseMethodDescriptor y.desc = some sig → argsL.length = sig.parameters.length) (hst : st = argsL.reverse ++ .ref a :: rest) (hW : (rest.map fun v => v.category).sum ≤ W) :
    ∃ v T' L, Stand p l e R (s.setVm T'.vm) m args below meth c T' (locs ++ L) (cells + rm.cells) (slots + rm.slots) ∧ Q v T'.heap L ∧ s.Since T'.vm T'.heap.size ∧ Z.Warmed39 T'.vm ∧ T'.vm.findClass own = some m.cls ∧ ∀ t, Steps p.tables e below (T'.setTop (mkF m (pc + 3) Ls (v.toList ++ rest))) t → Steps p.tables e below (T.setTop (mkF m pc Ls st)) t := by
  subst has
  obtain ⟨v, _, ⟨T', L', k', n'⟩, -, X', hS', hgr, ⟨L, hQ, q1, q2, q3⟩, stp⟩ := X.specialBackS hx (y := y) hy1 hown (mvT (s := (s.setVm vm0)) hZ w1) (mvT (s := (s.setVm vm0)) hZ w2) (mvT (s := (s.setVm vm0)) hZ w5) hy (backOfS (s := (s.setVm vm0)) (W := W) M hZ w5 w6 hf hl) (g := mkF m pc Ls st) rfl hsz (Steps.refl _) (a := a) (argsL := argsL) (rest := rest) hlen hst (by show 2 * 0 + _ ≤ _; rw [Nat.mul_zero, Nat.zero_add]; exact hW) hd (fun _ _ => ⟨rfl, eT, hc, hs⟩)
  dsimp only [Pt.U, Pt.locs, Pt.cells, Pt.slots] at X' q1 q2 q3 stp hQ hS' hgr
  subst q1 q2 q3
  exact ⟨v, T', L, X', hQ, hS.trans hS' (Nat.le_trans hk (by rw [← eT]; exact hgr)), State.Warmed39.trans (t := s.setVm vm0) hZ hS'.1, by rw [hS'.1.alike.findClass]; exact hown, fun t k => stp.trans k⟩
end OwnCalls
def Olds (Z : State) (ro0 : Addr) (ro1 : Addr) (ro2 : Addr) (ro3 : Addr) (ro4 : Addr) (ro5 : Addr) (ww6 : Int32) (ww7 : Value) (kk_ro0 : ClassId) (kk_ro1 : ClassId) (kk_ro3 : ClassId) (mr11 : Addr) : Prop := Sta Z Z.heap s1' "EMPTY_ELEMENTDATA" s4' (.ref ro0) ∧ Exa Z Z.heap ro0 s4' ∧ Sta Z Z.heap s1' "DEFAULTCAPACITY_EMPTY_ELEMENTDATA" s4' (.ref ro1) ∧ Exa Z Z.heap ro1 s4' ∧ Sta Z Z.heap s5' "EMPTY_LIST" s10' (.ref ro2) ∧ Exa Z Z.heap ro2 s8' ∧ Fld Z Z.heap ro2 s8' "elements" s4' (.ref ro3) ∧ Exa Z Z.heap ro3 s4' ∧ Sta Z Z.heap s5' "EMPTY" "Ljava/lang/Object;" (.ref ro4) ∧ Exa Z Z.heap ro4 "java/lang/Object" ∧ Sta Z Z.heap "java/util/Optional" "EMPTY" "Ljava/util/Optional;" (.ref ro5) ∧ Exa Z Z.heap ro5 "java/util/Optional" ∧ Sta Z Z.heap "java/lang/String" "COMPACT_STRINGS" "Z" (.int ww6) ∧ Sta Z Z.heap "jdk/internal/util/Preconditions" "SIOOBE_FORMATTER" "Ljava/util/function/BiFunction;" ww7 ∧ Fld Z Z.heap ro2 s8' "allowNulls" "Z" (.int 0) ∧ Sta Z Z.heap s5' "$assertionsDisabled" "Z" (.int 1) ∧ Fld Z Z.heap ro5 "java/util/Optional" "value" "Ljava/lang/Object;" .null ∧ Arv Z Z.heap ro0 kk_ro0 (.object "java/lang/Object") (0 : Int32) [] .null ∧ Arv Z Z.heap ro1 kk_ro1 (.object "java/lang/Object") (0 : Int32) [] .null ∧ Arv Z Z.heap ro3 kk_ro3 (.object "java/lang/Object") (0 : Int32) [] .null ∧ MirA Z s4' mr11 ∧ ¬ (ww6 = (0 : Int32)) ∧ ww7.isRef = true
/-- a letter: a to h -/
def Ltr (c : Int32) : Prop := ¬ (255 : Int32) < c ∧ (97 ≤ c.toInt ∧ c.toInt ≤ 104)
theorem own_andn (x : Int32) (k : Nat) (hk : k < 2 ^ 31) : 0 ≤ (x &&& Int32.ofNat k).toInt ∧ (x &&& Int32.ofNat k).toInt ≤ k := by
  have hb : (Int32.ofNat k).toBitVec = BitVec.ofNat 32 k := rfl
  have h : (x &&& Int32.ofNat k).toBitVec.toNat ≤ k := by
    show (x.toBitVec &&& (Int32.ofNat k).toBitVec).toNat ≤ k
    rw [BitVec.toNat_and, hb, BitVec.toNat_ofNat, Nat.mod_eq_of_lt (by omega)]
    exact Nat.and_le_right
  have h2 : (x &&& Int32.ofNat k).toInt = ((x &&& Int32.ofNat k).toBitVec.toNat : Int) := by
    show (x &&& Int32.ofNat k).toBitVec.toInt = _
    rw [BitVec.toInt_eq_toNat_of_lt]
    omega
  rw [h2]; omega
theorem own_ltr3 (x : Int32) : ∃ c, ((97 : Int32) + (x &&& (3 : Int32))).toUInt32.toUInt16.toUInt32.toInt32 = c ∧ Ltr c := by
  have h := own_andn x 3 (by decide)
  have h' : (x &&& (3 : Int32)) = 0 ∨ (x &&& (3 : Int32)) = 1 ∨ (x &&& (3 : Int32)) = 2 ∨ (x &&& (3 : Int32)) = 3 := by
    simp only [← Int32.toInt_inj]
    have h : 0 ≤ (x &&& (3 : Int32)).toInt ∧ (x &&& (3 : Int32)).toInt ≤ 3 := h
    generalize (x &&& (3 : Int32)).toInt = t at h
    show t = 0 ∨ t = 1 ∨ t = 2 ∨ t = 3
    omega
  rcases h' with h' | h' | h' | h' <;> rw [h'] <;> exact ⟨_, rfl, by decide, by decide, by decide⟩
theorem own_ltr7 (x : Int32) : ∃ c, ((97 : Int32) + (x &&& (7 : Int32))).toUInt32.toUInt16.toUInt32.toInt32 = c ∧ Ltr c := by
  have h := own_andn x 7 (by decide)
  have h' : (x &&& (7 : Int32)) = 0 ∨ (x &&& (7 : Int32)) = 1 ∨ (x &&& (7 : Int32)) = 2 ∨ (x &&& (7 : Int32)) = 3 ∨ (x &&& (7 : Int32)) = 4 ∨ (x &&& (7 : Int32)) = 5 ∨ (x &&& (7 : Int32)) = 6 ∨ (x &&& (7 : Int32)) = 7 := by
    simp only [← Int32.toInt_inj]
    have h : 0 ≤ (x &&& (7 : Int32)).toInt ∧ (x &&& (7 : Int32)).toInt ≤ 7 := h
    generalize (x &&& (7 : Int32)).toInt = t at h
    show t = 0 ∨ t = 1 ∨ t = 2 ∨ t = 3 ∨ t = 4 ∨ t = 5 ∨ t = 6 ∨ t = 7
    omega
  rcases h' with h' | h' | h' | h' | h' | h' | h' | h' <;> rw [h'] <;> exact ⟨_, rfl, by decide, by decide, by decide⟩
theorem own_ltrc {c : Int32} (h : Ltr c) : c = 97 ∨ c = 98 ∨ c = 99 ∨ c = 100 ∨ c = 101 ∨ c = 102 ∨ c = 103 ∨ c = 104 := by
  obtain ⟨-, h1, h2⟩ := h
  simp only [← Int32.toInt_inj]
  generalize c.toInt = t at h1 h2
  show t = 97 ∨ t = 98 ∨ t = 99 ∨ t = 100 ∨ t = 101 ∨ t = 102 ∨ t = 103 ∨ t = 104
  omega
theorem own_ltrne {a q : Int32} (ha : Ltr a) (hq : Ltr q) (hn : ¬ a = q) : ¬ (nar .byte (a.toInt8.toInt32)) = (nar .byte (q.toInt8.toInt32)) := by
  rcases own_ltrc ha with rfl | rfl | rfl | rfl | rfl | rfl | rfl | rfl <;> rcases own_ltrc hq with rfl | rfl | rfl | rfl | rfl | rfl | rfl | rfl <;> first | exact absurd rfl hn | decide
theorem own_mod5 (p5 : Int32) : ∃ md, ((p5.toUInt32 >>> ((1 : Int32) &&& 31).toUInt32).toInt32) % (5 : Int32) = md ∧ (md = 0 ∨ md = 1 ∨ md = 2 ∨ md = 3 ∨ md = 4) := by
  refine ⟨_, rfl, ?_⟩
  have hp : ¬ ((p5.toUInt32 >>> ((1 : Int32) &&& 31).toUInt32).toInt32) < 0 := by
    rw [XT.neg32]
    show ¬ (p5.toUInt32.toBitVec >>> (1 % 32)).msb = true
    simp [BitVec.msb_ushiftRight]
  have h := own_rem (n := 5) hp (by decide)
  simp only [← Int32.toInt_inj]
  have h10 : (5 : Int32).toInt = 5 := rfl
  rw [h10] at h
  generalize (((p5.toUInt32 >>> ((1 : Int32) &&& 31).toUInt32).toInt32) % (5 : Int32)).toInt = t at h
  show t = 0 ∨ t = 1 ∨ t = 2 ∨ t = 3 ∨ t = 4
  omega
def Boo (z : Int32) : Prop := z = 0 ∨ z = 1
def Md (z : Int32) : Prop := z = 0 ∨ z = 1 ∨ z = 2 ∨ z = 3 ∨ z = 4
/-- the old things that find reads -/
def Oz (Z : State) (el em oe : Addr) : Prop := ∃ (ar : Addr) (kk : ClassId) (ww : Int32), Exa Z Z.heap el s8' ∧ Fld Z Z.heap el s8' "elements" s4' (.ref ar) ∧ Arv Z Z.heap ar kk (.object "java/lang/Object") (0 : Int32) [] .null ∧ Sta Z Z.heap s5' "EMPTY" "Ljava/lang/Object;" (.ref em) ∧ Sta Z Z.heap "java/util/Optional" "EMPTY" "Ljava/util/Optional;" (.ref oe) ∧ Exa Z Z.heap oe "java/util/Optional" ∧ Fld Z Z.heap oe "java/util/Optional" "value" "Ljava/lang/Object;" .null ∧ Sta Z Z.heap "java/lang/String" "COMPACT_STRINGS" "Z" (.int ww) ∧ ¬ (ww = (0 : Int32))
/-- the String of one letter -/
def Sg (Z : State) (h : Heap) (s : Addr) (c : Int32) : Prop := ∃ (b : Addr) (k : ClassId), Exa Z h s "java/lang/String" ∧ Fld Z h s "java/lang/String" "value" "[B" (.ref b) ∧ Fld Z h s "java/lang/String" "coder" "B" (.int 0) ∧ Arv Z h b k .byte (1 : Int32) [(.int (nar .byte (c.toInt8.toInt32)))] (.int 0) ∧ Ltr c
/-- a Taxonomy and its letter; with no child, one, two -/
def Nv (Z : State) (h : Heap) (x : Addr) (c : Int32) : Prop := ∃ s : Addr, Exa Z h x s2' ∧ Fld Z h x s2' "value" "Ljava/lang/String;" (.ref s) ∧ Sg Z h s c
def Tn0 (Z : State) (h : Heap) (x el : Addr) (c : Int32) : Prop := Nv Z h x c ∧ Fld Z h x s2' "children" "Ljava/util/List;" (.ref el)
def Tn1 (Z : State) (h : Heap) (x y em : Addr) (c : Int32) : Prop := Nv Z h x c ∧ ∃ L : Addr, Fld Z h x s2' "children" "Ljava/util/List;" (.ref L) ∧ Exa Z h L s3' ∧ Fld Z h L s3' "e0" "Ljava/lang/Object;" (.ref y) ∧ Fld Z h L s3' "e1" "Ljava/lang/Object;" (.ref em)
def Tn2 (Z : State) (h : Heap) (x y z em : Addr) (c : Int32) : Prop := Nv Z h x c ∧ z ≠ em ∧ ∃ L : Addr, Fld Z h x s2' "children" "Ljava/util/List;" (.ref L) ∧ Exa Z h L s3' ∧ Fld Z h L s3' "e0" "Ljava/lang/Object;" (.ref y) ∧ Fld Z h L s3' "e1" "Ljava/lang/Object;" (.ref z)
def Ch1 (Z : State) (h : Heap) (x g el em : Addr) (hg cb cc : Int32) : Prop := (hg = 0 ∧ Tn0 Z h x el cb) ∨ (¬ hg = 0 ∧ Tn1 Z h x g em cb ∧ Tn0 Z h g el cc)
def Rt (Z : State) (h : Heap) (r x y el em : Addr) (md ca : Int32) : Prop := (md = 0 ∧ Tn0 Z h r el ca) ∨ (md = 1 ∧ Tn1 Z h r x em ca) ∨ (md = 2 ∧ Tn1 Z h r y em ca) ∨ (md = 3 ∧ Tn2 Z h r x y em ca) ∨ (md = 4 ∧ Tn2 Z h r y x em ca)
def Exp1 (x g : Addr) (hg cb cc cq : Int32) (e : Value) : Prop := (cb = cq ∧ e = .ref x) ∨ (¬ cb = cq ∧ ¬ hg = 0 ∧ cc = cq ∧ e = .ref g) ∨ (¬ cb = cq ∧ (hg = 0 ∨ ¬ cc = cq) ∧ e = .null)
def Exp2 (y : Addr) (cd cq : Int32) (e : Value) : Prop := (cd = cq ∧ e = .ref y) ∨ (¬ cd = cq ∧ e = .null)
section OwnTree
variable {Z : State} {h h' : Heap} {x y z s g el em r : Addr} {c hg cb cc md ca : Int32}
theorem Sg.keep (S : Sg Z h s c) (K : Keep h h' []) : Sg Z h' s c := by obtain ⟨b, k, e1, e2, e3, e4, e5⟩ := S; exact ⟨b, k, e1.keep K, e2.keep K nin0, e3.keep K nin0, e4.keep K nin0, e5⟩
theorem Sg.lt (S : Sg Z h s c) : s < h.size := by obtain ⟨b, k, e1, -⟩ := S; exact e1.lt
theorem Sg.ltr (S : Sg Z h s c) : Ltr c := by obtain ⟨b, k, -, -, -, -, e5⟩ := S; exact e5
theorem Nv.keep (S : Nv Z h x c) (K : Keep h h' []) : Nv Z h' x c := by obtain ⟨s, e1, e2, e3⟩ := S; exact ⟨s, e1.keep K, e2.keep K nin0, e3.keep K⟩
theorem Nv.exa (S : Nv Z h x c) : Exa Z h x s2' := by obtain ⟨s, e1, -⟩ := S; exact e1
theorem Tn0.keep (S : Tn0 Z h x el c) (K : Keep h h' []) : Tn0 Z h' x el c := ⟨S.1.keep K, S.2.keep K nin0⟩
theorem Tn1.keep (S : Tn1 Z h x y em c) (K : Keep h h' []) : Tn1 Z h' x y em c := by obtain ⟨e0, L, e1, e2, e3, e4⟩ := S; exact ⟨e0.keep K, L, e1.keep K nin0, e2.keep K, e3.keep K nin0, e4.keep K nin0⟩
theorem Tn2.keep (S : Tn2 Z h x y z em c) (K : Keep h h' []) : Tn2 Z h' x y z em c := by obtain ⟨e0, n, L, e1, e2, e3, e4⟩ := S; exact ⟨e0.keep K, n, L, e1.keep K nin0, e2.keep K, e3.keep K nin0, e4.keep K nin0⟩
theorem Ch1.keep (S : Ch1 Z h x g el em hg cb cc) (K : Keep h h' []) : Ch1 Z h' x g el em hg cb cc := S.imp (fun q => ⟨q.1, q.2.keep K⟩) (fun q => ⟨q.1, q.2.1.keep K, q.2.2.keep K⟩)
theorem Rt.keep (S : Rt Z h r x y el em md ca) (K : Keep h h' []) : Rt Z h' r x y el em md ca := S.imp (fun q => ⟨q.1, q.2.keep K⟩) (Or.imp (fun q => ⟨q.1, q.2.keep K⟩) (Or.imp (fun q => ⟨q.1, q.2.keep K⟩) (Or.imp (fun q => ⟨q.1, q.2.keep K⟩) (fun q => ⟨q.1, q.2.keep K⟩))))
theorem Rt.nv (S : Rt Z h r x y el em md ca) : Nv Z h r ca := by rcases S with q | q | q | q | q <;> exact q.2.1
end OwnTree
theorem Ctr.room {l : Launch} {Z : State} {ws : List Jvm.Cond} {y : MethodName} {bytes : ByteArray} {maxL : Nat} {ret : Option FieldType} {as' : Array Value} {h0 : Heap} {rm rm' : Room} {Q : Option Value → Heap → List Loc → Prop} (M : Ctr l Z ws y bytes maxL ret as' h0 rm Q) (hf : rm.frames ≤ rm'.frames) (hl : rm.locals ≤ rm'.locals) (hc : rm.cells ≤ rm'.cells) (hs : rm.slots ≤ rm'.slots) : Ctr l Z ws y bytes maxL ret as' h0 rm' Q := by
  intro p e ha hcs hk s m args below hfr happ hP hK
  obtain ⟨n, o, h1, h2, h3, v, L, e1, e2, e3⟩ := MetFree.respec (S' := head1 _ rm') M (fun _ _ k => k) hf hl hc hs p e ha hcs hk s m args below hfr happ hP hK
  exact ⟨n, o, h1, h2, h3, v, L, e1, e2, e3.1, e3.2.1, e3.2.2.mono hc hs⟩
abbrev FQ (Z : State) (n0 : Nat) (h0 : Heap) (res : Value) : Option Value → Heap → List Loc → Prop := fun v h L => ∃ o : Addr, v = some (.ref o) ∧ Fr n0 L ∧ Keep h0 h [] ∧ Exa Z h o "java/util/Optional" ∧ Fld Z h o "java/util/Optional" "value" "Ljava/lang/Object;" res
/-- find on x of the letter q gives an Optional of res, at every later heap -/
def FC (l : Launch) (Z : State) (rm : Room) (n0 : Nat) (h0 : Heap) (x : Addr) (q : Int32) (res : Value) : Prop := Exa Z h0 x s2' ∧ (∀ r, res = .ref r → Exa Z h0 r s2') ∧ ∀ (h : Heap) (sq : Addr), Keep h0 h [] → Sg Z h sq q → h0.size ≤ sq → Ctr l Z [] (⟨s2', "find", s9'⟩ : MethodName) prog_9_method_6_code 4 (some (.object "java/util/Optional")) #[(.ref x), (.ref sq)] h rm (FQ Z n0 h res)
theorem FC.keep {l : Launch} {Z : State} {rm : Room} {n0 : Nat} {h h' : Heap} {x : Addr} {q : Int32} {res : Value} (F : FC l Z rm n0 h x q res) (K : Keep h h' []) : FC l Z rm n0 h' x q res :=
  ⟨F.1.keep K, fun r e => (F.2.1 r e).keep K, fun _ sq K' S hs => F.2.2 _ sq (K.trans K' all0) S (Nat.le_trans K.1 hs)⟩
theorem FC.room {l : Launch} {Z : State} {rm rm' : Room} {n0 : Nat} {h : Heap} {x : Addr} {q : Int32} {res : Value} (F : FC l Z rm n0 h x q res) (hf : rm.frames ≤ rm'.frames) (hl : rm.locals ≤ rm'.locals) (hc : rm.cells ≤ rm'.cells) (hs : rm.slots ≤ rm'.slots) : FC l Z rm' n0 h x q res :=
  ⟨F.1, F.2.1, fun h sq K S hq => (F.2.2 h sq K S hq).room hf hl hc hs⟩
theorem wd_31 {Z a0} (hw : HW Z a0) : (Cond.initialized s1').before a0 Z = true := hw.at 31 rfl
theorem d0_0 : decode prog_9_method_6_code 0 = .ok (.aload_n 0, 1) := by decide +kernel
theorem d0_1 : decode prog_9_method_6_code 1 = .ok (.getfield 34, 3) := by decide +kernel
theorem wd_103 {Z a0} (hw : HW Z a0) : (Cond.fieldLink s2' (34 : Nat) s2' "value" "Ljava/lang/String;").before a0 Z = true := hw.at 103 rfl
theorem d0_4 : decode prog_9_method_6_code 4 = .ok (.aload_n 1, 1) := by decide +kernel
theorem d0_5 : decode prog_9_method_6_code 5 = .ok (.invokevirtual 61, 3) := by decide +kernel
theorem wd_203 {Z a0} (hw : HW Z a0) : (Cond.methodLink s2' (61 : Nat) ⟨"java/lang/String", "equals", "(Ljava/lang/Object;)Z"⟩).before a0 Z = true := hw.at 203 rfl
theorem d1_0 : decode jdk_42_method_66_code 0 = .ok (.aload_n 0, 1) := by decide +kernel
theorem d1_1 : decode jdk_42_method_66_code 1 = .ok (.aload_n 1, 1) := by decide +kernel
theorem d1_2 : decode jdk_42_method_66_code 2 = .ok (.if_acmp .ne 5, 3) := by decide +kernel
theorem d1_7 : decode jdk_42_method_66_code 7 = .ok (.aload_n 1, 1) := by decide +kernel
theorem d1_8 : decode jdk_42_method_66_code 8 = .ok (.instanceof 10, 3) := by decide +kernel
theorem wd_12 {Z a0} (hw : HW Z a0) : (Cond.classLink "java/lang/String" (10 : Nat) "java/lang/String").before a0 Z = true := hw.at 12 rfl
theorem d1_11 : decode jdk_42_method_66_code 11 = .ok (.ifCond .eq 43, 3) := by decide +kernel
theorem d1_14 : decode jdk_42_method_66_code 14 = .ok (.aload_n 1, 1) := by decide +kernel
theorem d1_15 : decode jdk_42_method_66_code 15 = .ok (.checkcast 10, 3) := by decide +kernel
theorem d1_18 : decode jdk_42_method_66_code 18 = .ok (.astore_n 2, 1) := by decide +kernel
theorem d1_19 : decode jdk_42_method_66_code 19 = .ok (.getstatic 38, 3) := by decide +kernel
theorem wd_7 {Z a0} (hw : HW Z a0) : (Cond.fieldLink "java/lang/String" (38 : Nat) "java/lang/String" "COMPACT_STRINGS" "Z").before a0 Z = true := hw.at 7 rfl
theorem d1_22 : decode jdk_42_method_66_code 22 = .ok (.ifCond .eq 14, 3) := by decide +kernel
theorem d1_25 : decode jdk_42_method_66_code 25 = .ok (.aload_n 0, 1) := by decide +kernel
theorem d1_26 : decode jdk_42_method_66_code 26 = .ok (.getfield 15, 3) := by decide +kernel
theorem wd_27 {Z a0} (hw : HW Z a0) : (Cond.fieldLink "java/lang/String" (15 : Nat) "java/lang/String" "coder" "B").before a0 Z = true := hw.at 27 rfl
theorem d1_29 : decode jdk_42_method_66_code 29 = .ok (.aload_n 2, 1) := by decide +kernel
theorem d1_30 : decode jdk_42_method_66_code 30 = .ok (.getfield 15, 3) := by decide +kernel
theorem d1_33 : decode jdk_42_method_66_code 33 = .ok (.if_icmp .ne 21, 3) := by decide +kernel
theorem d1_36 : decode jdk_42_method_66_code 36 = .ok (.aload_n 0, 1) := by decide +kernel
theorem d1_37 : decode jdk_42_method_66_code 37 = .ok (.getfield 9, 3) := by decide +kernel
theorem wd_25 {Z a0} (hw : HW Z a0) : (Cond.fieldLink "java/lang/String" (9 : Nat) "java/lang/String" "value" "[B").before a0 Z = true := hw.at 25 rfl
theorem d1_40 : decode jdk_42_method_66_code 40 = .ok (.aload_n 2, 1) := by decide +kernel
theorem d1_41 : decode jdk_42_method_66_code 41 = .ok (.getfield 9, 3) := by decide +kernel
theorem d1_44 : decode jdk_42_method_66_code 44 = .ok (.invokestatic 541, 3) := by decide +kernel
theorem wd_208 {Z a0} (hw : HW Z a0) : (Cond.methodLink "java/lang/String" (541 : Nat) ⟨"java/lang/StringLatin1", "equals", "([B[B)Z"⟩).before a0 Z = true := hw.at 208 rfl
theorem d2_0 : decode jdk_43_method_13_code 0 = .ok (.aload_n 0, 1) := by decide +kernel
theorem d2_1 : decode jdk_43_method_13_code 1 = .ok (.arraylength, 1) := by decide +kernel
theorem d2_2 : decode jdk_43_method_13_code 2 = .ok (.aload_n 1, 1) := by decide +kernel
theorem d2_3 : decode jdk_43_method_13_code 3 = .ok (.arraylength, 1) := by decide +kernel
theorem d2_4 : decode jdk_43_method_13_code 4 = .ok (.if_icmp .ne 30, 3) := by decide +kernel
theorem d2_7 : decode jdk_43_method_13_code 7 = .ok (.iconst 0, 1) := by decide +kernel
theorem d2_8 : decode jdk_43_method_13_code 8 = .ok (.istore_n 2, 1) := by decide +kernel
theorem d2_9 : decode jdk_43_method_13_code 9 = .ok (.iload_n 2, 1) := by decide +kernel
theorem d2_10 : decode jdk_43_method_13_code 10 = .ok (.aload_n 0, 1) := by decide +kernel
theorem d2_11 : decode jdk_43_method_13_code 11 = .ok (.arraylength, 1) := by decide +kernel
theorem d2_12 : decode jdk_43_method_13_code 12 = .ok (.if_icmp .ge 20, 3) := by decide +kernel
theorem d2_15 : decode jdk_43_method_13_code 15 = .ok (.aload_n 0, 1) := by decide +kernel
theorem d2_16 : decode jdk_43_method_13_code 16 = .ok (.iload_n 2, 1) := by decide +kernel
theorem d2_17 : decode jdk_43_method_13_code 17 = .ok (.baload, 1) := by decide +kernel
theorem d2_18 : decode jdk_43_method_13_code 18 = .ok (.aload_n 1, 1) := by decide +kernel
theorem d2_19 : decode jdk_43_method_13_code 19 = .ok (.iload_n 2, 1) := by decide +kernel
theorem d2_20 : decode jdk_43_method_13_code 20 = .ok (.baload, 1) := by decide +kernel
theorem d2_21 : decode jdk_43_method_13_code 21 = .ok (.if_icmp .eq 5, 3) := by decide +kernel
theorem d2_26 : decode jdk_43_method_13_code 26 = .ok (.iinc 2 1, 3) := by decide +kernel
theorem d2_29 : decode jdk_43_method_13_code 29 = .ok (.goto (-20), 3) := by decide +kernel
theorem d2_32 : decode jdk_43_method_13_code 32 = .ok (.iconst 1, 1) := by decide +kernel
theorem d2_33 : decode jdk_43_method_13_code 33 = .ok (.ireturn, 1) := by decide +kernel
theorem pn_java_lang_StringLatin1 : plainName "java/lang/StringLatin1" = true := by first | (simp [plainName, overriddenIn]; done) | decide +kernel
theorem ef_m2_equals (m : MethodId) (x1 x2 : Addr) : entryFrame m #[(.ref x1), (.ref x2)] 3 = mkF m 0 #[rv x1, rv x2, uu] [] := by first | rfl | (simp [entryFrame, mkF, argsToLocals, Value.category]; done)
theorem m2_equals (l : Launch) (Z : State) (a0 : Array Value) (hw : HW Z a0) (x1 x2 : Addr) (kk3 : ClassId) (y4 : Int32) (kk5 : ClassId) (y6 : Int32) (h0 : Heap) (n0 : Nat) (Z0 : n0 ≤ h0.size) (O0 : Old Z n0 h0) (P1 : Arv Z h0 x1 kk3 .byte (1 : Int32) [(.int y4)] (.int 0)) (P2 : Arv Z h0 x2 kk5 .byte (1 : Int32) [(.int y6)] (.int 0)) (P3 : y4 = y6) :
    Ctr l Z [] (⟨"java/lang/StringLatin1", "equals", "([B[B)Z"⟩ : MethodName) jdk_43_method_13_code 3 (some .boolean) #[(.ref x1), (.ref x2)] h0 ({ frames := 0, cells := 0, slots := 0, locals := 0 } : Room) (fun v h L => v = some (.int 1) ∧ Fr n0 L ∧ h = h0) := by
  refine Ctr.of (plainFor_of_name pn_java_lang_StringLatin1) (fun m => ef_m2_equals m x1 x2) ?_
  intro p e s m below meth c T0 hx hZ hby hml hown hnm hret hlk X0 e0
  have N0 := Fr.nil n0
  show Aw p e below _ T0 m 0 #[rv x1, rv x2, uu] []
  refine Rch.go (fun t k => XS.aloadN X0.here hx rfl (hb hby d2_0) rfl rfl k) ?_
  show Aw p e below _ T0 m 1 #[rv x1, rv x2, uu] [(.ref x1)]
  obtain ⟨c1, r1, q1, s1, u1, H1, G1⟩ := id P1
  refine Rch.go (fun t k => X0.arraylength hx (by rw [e0]; exact r1.1) (State.isArrayOf_alike hZ.alike r1.2.1) (g := (mkF m 1 #[rv x1, rv x2, uu] [(.ref x1)])) rfl rfl (hb hby d2_1) t (by rw [len_of s1 u1]; exact k)) ?_
  show Aw p e below _ T0 m 2 #[rv x1, rv x2, uu] [(.int 1)]
  refine Rch.go (fun t k => XS.aloadN X0.here hx rfl (hb hby d2_2) rfl rfl k) ?_
  show Aw p e below _ T0 m 3 #[rv x1, rv x2, uu] [(.ref x2), (.int 1)]
  obtain ⟨c2, r2, q2, s2, u2, H2, G2⟩ := id P2
  refine Rch.go (fun t k => X0.arraylength hx (by rw [e0]; exact r2.1) (State.isArrayOf_alike hZ.alike r2.2.1) (g := (mkF m 3 #[rv x1, rv x2, uu] [(.ref x2), (.int 1)])) rfl rfl (hb hby d2_3) t (by rw [len_of s2 u2]; exact k)) ?_
  show Aw p e below _ T0 m 4 #[rv x1, rv x2, uu] [(.int 1), (.int 1)]
  refine Rch.go (fun t k => XS.icmpNo X0.here hx rfl (hb hby d2_4) rfl (by decide) (XS.iconst X0.here hx rfl (hb hby d2_7) (XS.istoreN X0.here hx rfl (hb hby d2_8) rfl  (l' := #[rv x1, rv x2, iv 0]) rfl (XS.iloadN X0.here hx rfl (hb hby d2_9) rfl  (XS.aloadN X0.here hx rfl (hb hby d2_10) rfl rfl k))))) ?_
  show Aw p e below _ T0 m 11 #[rv x1, rv x2, iv 0] [(.ref x1), (.int 0)]
  obtain ⟨c3, r3, q3, s3, u3, H3, G3⟩ := id P1
  refine Rch.go (fun t k => X0.arraylength hx (by rw [e0]; exact r3.1) (State.isArrayOf_alike hZ.alike r3.2.1) (g := (mkF m 11 #[rv x1, rv x2, iv 0] [(.ref x1), (.int 0)])) rfl rfl (hb hby d2_11) t (by rw [len_of s3 u3]; exact k)) ?_
  show Aw p e below _ T0 m 12 #[rv x1, rv x2, iv 0] [(.int 1), (.int 0)]
  refine Rch.go (fun t k => XS.icmpNo X0.here hx rfl (hb hby d2_12) rfl (by decide) (XS.aloadN X0.here hx rfl (hb hby d2_15) rfl rfl (XS.iloadN X0.here hx rfl (hb hby d2_16) rfl  k))) ?_
  show Aw p e below _ T0 m 17 #[rv x1, rv x2, iv 0] [(.int 0), (.ref x1)]
  obtain ⟨c4, r4, q4, s4, u4, H4, G4⟩ := id P1
  refine Rch.go (fun t k => X0.baloadBytes hx (j := (0 : Int32)) (v := (.int y4)) (by rw [e0]; exact r4.1) (State.isArrayOf_alike hZ.alike r4.2.1) r4.2.2 (inb_of s4 (by decide)) (H4.at (inb_of s4 (by decide)) rfl) (g := (mkF m 17 #[rv x1, rv x2, iv 0] [(.int 0), (.ref x1)])) rfl rfl (hb hby d2_17) t k) ?_
  show Aw p e below _ T0 m 18 #[rv x1, rv x2, iv 0] [(.int y4)]
  refine Rch.go (fun t k => XS.aloadN X0.here hx rfl (hb hby d2_18) rfl rfl (XS.iloadN X0.here hx rfl (hb hby d2_19) rfl  k)) ?_
  show Aw p e below _ T0 m 20 #[rv x1, rv x2, iv 0] [(.int 0), (.ref x2), (.int y4)]
  obtain ⟨c5, r5, q5, s5, u5, H5, G5⟩ := id P2
  refine Rch.go (fun t k => X0.baloadBytes hx (j := (0 : Int32)) (v := (.int y6)) (by rw [e0]; exact r5.1) (State.isArrayOf_alike hZ.alike r5.2.1) r5.2.2 (inb_of s5 (by decide)) (H5.at (inb_of s5 (by decide)) rfl) (g := (mkF m 20 #[rv x1, rv x2, iv 0] [(.int 0), (.ref x2), (.int y4)])) rfl rfl (hb hby d2_20) t k) ?_
  show Aw p e below _ T0 m 21 #[rv x1, rv x2, iv 0] [(.int y6), (.int y4)]
  refine Rch.go (fun t k => XS.icmpYes X0.here hx rfl (pc0 := 21) (pc' := 26) rfl (hb hby d2_21) rfl (XT.ii_eq_t P3) (by decide) (by decide) (XS.iinc X0.here hx rfl (hb hby d2_26) rfl (l' := #[rv x1, rv x2, iv 1]) rfl (XS.goto X0.here hx rfl (pc0 := 29) (pc' := 9) rfl (hb hby d2_29) (by decide) (by decide) (XS.iloadN X0.here hx rfl (hb hby d2_9) rfl  (XS.aloadN X0.here hx rfl (hb hby d2_10) rfl rfl k))))) ?_
  show Aw p e below _ T0 m 11 #[rv x1, rv x2, iv 1] [(.ref x1), (.int 1)]
  obtain ⟨c6, r6, q6, s6, u6, H6, G6⟩ := id P1
  refine Rch.go (fun t k => X0.arraylength hx (by rw [e0]; exact r6.1) (State.isArrayOf_alike hZ.alike r6.2.1) (g := (mkF m 11 #[rv x1, rv x2, iv 1] [(.ref x1), (.int 1)])) rfl rfl (hb hby d2_11) t (by rw [len_of s6 u6]; exact k)) ?_
  show Aw p e below _ T0 m 12 #[rv x1, rv x2, iv 1] [(.int 1), (.int 1)]
  refine Rch.go (fun t k => XS.icmpYes X0.here hx rfl (pc0 := 12) (pc' := 32) rfl (hb hby d2_12) rfl (by decide) (by decide) (by decide) (XS.iconst X0.here hx rfl (hb hby d2_32) k)) ?_
  show Aw p e below _ T0 m 33 #[rv x1, rv x2, iv 1] [(.int 1)]
  refine Rch.val X0 hx (t := .boolean) hret hlk rfl (mayI (by simp)) (hb hby d2_33) (by decide) (by decide) ?_
  try rw [e0]
  exact ⟨rfl, N0, rfl⟩
theorem wd_210 {Z a0} (hw : HW Z a0) : (Cond.code ⟨"java/lang/StringLatin1", "equals", "([B[B)Z"⟩ jdk_43_method_13_code (3 : Nat) (Option.some FieldType.boolean)).before a0 Z = true := hw.at 210 rfl
theorem wd_10 {Z a0} (hw : HW Z a0) : (Cond.initialized "java/lang/StringLatin1").before a0 Z = true := hw.at 10 rfl
theorem pd_0 : parseMethodDescriptor "([B[B)Z" = some ⟨[(.array .byte), (.array .byte)], some .boolean⟩ := by decide +kernel
theorem wd_209 {Z a0} (hw : HW Z a0) : (Cond.static ⟨"java/lang/StringLatin1", "equals", "([B[B)Z"⟩).before a0 Z = true := hw.at 209 rfl
theorem d1_47 : decode jdk_42_method_66_code 47 = .ok (.ifCond .eq 7, 3) := by decide +kernel
theorem d1_50 : decode jdk_42_method_66_code 50 = .ok (.iconst 1, 1) := by decide +kernel
theorem d1_51 : decode jdk_42_method_66_code 51 = .ok (.goto 4, 3) := by decide +kernel
theorem d1_55 : decode jdk_42_method_66_code 55 = .ok (.ireturn, 1) := by decide +kernel
theorem pn_java_lang_String : plainName "java/lang/String" = true := by first | (simp [plainName, overriddenIn]; done) | decide +kernel
theorem ef_m1_equals (m : MethodId) (x1 x2 : Addr) : entryFrame m #[(.ref x1), (.ref x2)] 3 = mkF m 0 #[rv x1, rv x2, uu] [] := by first | rfl | (simp [entryFrame, mkF, argsToLocals, Value.category]; done)
theorem m1_equals (l : Launch) (Z : State) (a0 : Array Value) (hw : HW Z a0) (x1 x2 : Addr) (y3 : Int32) (x4 x5 : Addr) (kk6 : ClassId) (y7 : Int32) (kk8 : ClassId) (y9 : Int32) (h0 : Heap) (n0 : Nat) (Z0 : n0 ≤ h0.size) (O0 : Old Z n0 h0) (P1 : x1 ≠ x2) (P2 : Exa Z h0 x2 "java/lang/String") (P3 : Sta Z Z.heap "java/lang/String" "COMPACT_STRINGS" "Z" (.int y3)) (P4 : ¬ (y3 = (0 : Int32))) (P5 : Fld Z h0 x1 "java/lang/String" "coder" "B" (.int 0)) (P6 : Fld Z h0 x2 "java/lang/String" "coder" "B" (.int 0)) (P7 : Fld Z h0 x1 "java/lang/String" "value" "[B" (.ref x4)) (P8 : Fld Z h0 x2 "java/lang/String" "value" "[B" (.ref x5)) (P9 : Arv Z h0 x4 kk6 .byte (1 : Int32) [(.int y7)] (.int 0)) (P10 : Arv Z h0 x5 kk8 .byte (1 : Int32) [(.int y9)] (.int 0)) (P11 : y7 = y9) :
    Ctr l Z [] (⟨"java/lang/String", "equals", "(Ljava/lang/Object;)Z"⟩ : MethodName) jdk_42_method_66_code 3 (some .boolean) #[(.ref x1), (.ref x2)] h0 ({ frames := 1, cells := 0, slots := 0, locals := 14 } : Room) (fun v h L => v = some (.int 1) ∧ Fr n0 L ∧ h = h0) := by
  refine Ctr.of (plainFor_of_name pn_java_lang_String) (fun m => ef_m1_equals m x1 x2) ?_
  intro p e s m below meth c T0 hx hZ hby hml hown hnm hret hlk X0 e0
  have N0 := Fr.nil n0
  show Aw p e below _ T0 m 0 #[rv x1, rv x2, uu] []
  refine Rch.go (fun t k => XS.aloadN X0.here hx rfl (hb hby d1_0) rfl rfl (XS.aloadN X0.here hx rfl (hb hby d1_1) rfl rfl (acmp X0 hx rfl (x := (.ref x1)) (y := (.ref x2)) rfl rfl (pc0 := 2) (pc' := 7) (same := false) rfl (hb hby d1_2) rfl (decide_eq_false (fun q => absurd (Value.ref.inj q) P1)) (by decide) (by decide) (XS.aloadN X0.here hx rfl (hb hby d1_7) rfl rfl k)))) ?_
  show Aw p e below _ T0 m 8 #[rv x1, rv x2, uu] [(.ref x2)]
  obtain ⟨T1, X1, e1, st1⟩ := instY X0 hx hZ hown (wd_12 hw) e0 (Ins.self P2) (g := (mkF m 8 #[rv x1, rv x2, uu] [(.ref x2)])) rfl rfl (hb hby d1_8)
  refine Rch.go st1 ?_
  show Aw p e below _ T1 m 11 #[rv x1, rv x2, uu] [(.int 1)]
  refine Rch.go (fun t k => XS.ifNo X1.here hx rfl (hb hby d1_11) rfl (by decide) (XS.aloadN X1.here hx rfl (hb hby d1_14) rfl rfl k)) ?_
  show Aw p e below _ T1 m 15 #[rv x1, rv x2, uu] [(.ref x2)]
  obtain ⟨T2, X2, e2, st2⟩ := castY X1 hx hZ hown (wd_12 hw) e1 (Ins.self P2) (g := (mkF m 15 #[rv x1, rv x2, uu] [(.ref x2)])) rfl rfl (hb hby d1_15)
  refine Rch.go st2 ?_
  show Aw p e below _ T2 m 18 #[rv x1, rv x2, uu] [(.ref x2)]
  refine Rch.go (fun t k => XS.astoreN X2.here hx rfl (hb hby d1_18) rfl rfl (l' := #[rv x1, rv x2, rv x2]) rfl k) ?_
  show Aw p e below _ T2 m 19 #[rv x1, rv x2, rv x2] []
  obtain ⟨T3, X3, e3, st3⟩ := getS2 X2 hx hZ hown (host := "") (Or.inl (wd_7 hw)) Via.refl e2 (P3.ext O0.2) (g := (mkF m 19 #[rv x1, rv x2, rv x2] [])) rfl (hb hby d1_19)
  refine Rch.go st3 ?_
  show Aw p e below _ T3 m 22 #[rv x1, rv x2, rv x2] [(.int y3)]
  refine Rch.go (fun t k => XS.ifNo X3.here hx rfl (hb hby d1_22) rfl (XT.i0_eq_f P4) (XS.aloadN X3.here hx rfl (hb hby d1_25) rfl rfl k)) ?_
  show Aw p e below _ T3 m 26 #[rv x1, rv x2, rv x2] [(.ref x1)]
  obtain ⟨T4, X4, e4, st4⟩ := getF X3 hx hZ hown (host := "") (Or.inl (wd_27 hw)) Via.refl e3 P5 (g := (mkF m 26 #[rv x1, rv x2, rv x2] [(.ref x1)])) rfl rfl (hb hby d1_26)
  refine Rch.go st4 ?_
  show Aw p e below _ T4 m 29 #[rv x1, rv x2, rv x2] [(.int 0)]
  refine Rch.go (fun t k => XS.aloadN X4.here hx rfl (hb hby d1_29) rfl rfl k) ?_
  show Aw p e below _ T4 m 30 #[rv x1, rv x2, rv x2] [(.ref x2), (.int 0)]
  obtain ⟨T5, X5, e5, st5⟩ := getF X4 hx hZ hown (host := "") (Or.inl (wd_27 hw)) Via.refl e4 P6 (g := (mkF m 30 #[rv x1, rv x2, rv x2] [(.ref x2), (.int 0)])) rfl rfl (hb hby d1_30)
  refine Rch.go st5 ?_
  show Aw p e below _ T5 m 33 #[rv x1, rv x2, rv x2] [(.int 0), (.int 0)]
  refine Rch.go (fun t k => XS.icmpNo X5.here hx rfl (hb hby d1_33) rfl (by decide) (XS.aloadN X5.here hx rfl (hb hby d1_36) rfl rfl k)) ?_
  show Aw p e below _ T5 m 37 #[rv x1, rv x2, rv x2] [(.ref x1)]
  obtain ⟨T6, X6, e6, st6⟩ := getF X5 hx hZ hown (host := "") (Or.inl (wd_25 hw)) Via.refl e5 P7 (g := (mkF m 37 #[rv x1, rv x2, rv x2] [(.ref x1)])) rfl rfl (hb hby d1_37)
  refine Rch.go st6 ?_
  show Aw p e below _ T6 m 40 #[rv x1, rv x2, rv x2] [(.ref x4)]
  refine Rch.go (fun t k => XS.aloadN X6.here hx rfl (hb hby d1_40) rfl rfl k) ?_
  show Aw p e below _ T6 m 41 #[rv x1, rv x2, rv x2] [(.ref x2), (.ref x4)]
  obtain ⟨T7, X7, e7, st7⟩ := getF X6 hx hZ hown (host := "") (Or.inl (wd_25 hw)) Via.refl e6 P8 (g := (mkF m 41 #[rv x1, rv x2, rv x2] [(.ref x2), (.ref x4)])) rfl rfl (hb hby d1_41)
  refine Rch.go st7 ?_
  show Aw p e below _ T7 m 44 #[rv x1, rv x2, rv x2] [(.ref x5), (.ref x4)]
  obtain ⟨v8, T8, L8, X8, Q8, st8⟩ := callSt X7 hx hZ (m2_equals l Z a0 hw x4 x5 kk6 y7 kk8 y9 h0 n0 Z0 O0 P9 P10 P11) e7 hown (wd_208 hw) (wd_209 hw) (wd_210 hw) (wd_10 hw) (by decide) (hb hby d1_44) 0 (by decide) (by decide) (by decide) (by decide) (by rw [hml]; rfl) [(.ref x4), (.ref x5)] [] rfl (lenOf pd_0 rfl) rfl (Nat.le_of_eq rfl) (Ls := #[rv x1, rv x2, rv x2])
  obtain ⟨rfl, M8, e8⟩ := Q8
  have N8 := Fr.app N0 M8
  refine Rch.go st8 ?_
  show Aw p e below _ T8 m 47 #[rv x1, rv x2, rv x2] [(.int 1)]
  refine Rch.go (fun t k => XS.ifNo X8.here hx rfl (hb hby d1_47) rfl (by decide) (XS.iconst X8.here hx rfl (hb hby d1_50) (XS.goto X8.here hx rfl (pc0 := 51) (pc' := 55) rfl (hb hby d1_51) (by decide) (by decide) k))) ?_
  show Aw p e below _ T8 m 55 #[rv x1, rv x2, rv x2] [(.int 1)]
  refine Rch.val X8 hx (t := .boolean) hret hlk rfl (mayI (by simp)) (hb hby d1_55) (by decide) (by decide) ?_
  try rw [e8]
  exact ⟨rfl, N8, rfl⟩
theorem wd_207 {Z a0} (hw : HW Z a0) : (Cond.code ⟨"java/lang/String", "equals", "(Ljava/lang/Object;)Z"⟩ jdk_42_method_66_code (3 : Nat) (Option.some FieldType.boolean)).before a0 Z = true := hw.at 207 rfl
theorem wd_5 {Z a0} (hw : HW Z a0) : (Cond.initialized "java/lang/String").before a0 Z = true := hw.at 5 rfl
theorem pd_1 : parseMethodDescriptor "(Ljava/lang/Object;)Z" = some ⟨[(.object "java/lang/Object")], some .boolean⟩ := by decide +kernel
theorem wd_206 {Z a0} (hw : HW Z a0) : (Cond.selects "java/lang/String" ⟨"java/lang/String", "equals", "(Ljava/lang/Object;)Z"⟩ ⟨"java/lang/String", "equals", "(Ljava/lang/Object;)Z"⟩).before a0 Z = true := hw.at 206 rfl
theorem wd_204 {Z a0} (hw : HW Z a0) : (Cond.declares ⟨"java/lang/String", "equals", "(Ljava/lang/Object;)Z"⟩).before a0 Z = true := hw.at 204 rfl
theorem wd_205 {Z a0} (hw : HW Z a0) : (Cond.instanceMethod ⟨"java/lang/String", "equals", "(Ljava/lang/Object;)Z"⟩).before a0 Z = true := hw.at 205 rfl
theorem d0_8 : decode prog_9_method_6_code 8 = .ok (.ifCond .eq 10, 3) := by decide +kernel
theorem d0_11 : decode prog_9_method_6_code 11 = .ok (.aload_n 0, 1) := by decide +kernel
theorem d0_12 : decode prog_9_method_6_code 12 = .ok (.invokestatic 65, 3) := by decide +kernel
theorem wd_211 {Z a0} (hw : HW Z a0) : (Cond.methodLink s2' (65 : Nat) ⟨"java/util/Optional", "of", "(Ljava/lang/Object;)Ljava/util/Optional;"⟩).before a0 Z = true := hw.at 211 rfl
theorem d3_0 : decode jdk_32_method_3_code 0 = .ok (.new 2, 3) := by decide +kernel
theorem wd_215 {Z a0} (hw : HW Z a0) : (Cond.classLink "java/util/Optional" (2 : Nat) "java/util/Optional").before a0 Z = true := hw.at 215 rfl
theorem wd_216 {Z a0} (hw : HW Z a0) : (Cond.instantiable "java/util/Optional" (1 : Nat)).before a0 Z = true := hw.at 216 rfl
theorem wd_213 {Z a0} (hw : HW Z a0) : (Cond.initialized "java/util/Optional").before a0 Z = true := hw.at 213 rfl
theorem wd_224 {Z a0} (hw : HW Z a0) : (Cond.laysFinal "java/util/Optional" "java/util/Optional" "value" "Ljava/lang/Object;").before a0 Z = true := hw.at 224 rfl
theorem d3_3 : decode jdk_32_method_3_code 3 = .ok (.dup, 1) := by decide +kernel
theorem d3_4 : decode jdk_32_method_3_code 4 = .ok (.aload_n 0, 1) := by decide +kernel
theorem d3_5 : decode jdk_32_method_3_code 5 = .ok (.invokestatic 17, 3) := by decide +kernel
theorem wd_217 {Z a0} (hw : HW Z a0) : (Cond.methodLink "java/util/Optional" (17 : Nat) ⟨"java/util/Objects", "requireNonNull", s11'⟩).before a0 Z = true := hw.at 217 rfl
theorem d4_0 : decode jdk_31_method_10_code 0 = .ok (.aload_n 0, 1) := by decide +kernel
theorem d4_1 : decode jdk_31_method_10_code 1 = .ok (.ifnonnull 11, 3) := by decide +kernel
theorem d4_12 : decode jdk_31_method_10_code 12 = .ok (.aload_n 0, 1) := by decide +kernel
theorem d4_13 : decode jdk_31_method_10_code 13 = .ok (.areturn, 1) := by decide +kernel
theorem pn_java_util_Objects : plainName "java/util/Objects" = true := by first | (simp [plainName, overriddenIn]; done) | decide +kernel
theorem ef_m4_requireNonNull (m : MethodId) (x1 : Addr) : entryFrame m #[(.ref x1)] 1 = mkF m 0 #[rv x1] [] := by first | rfl | (simp [entryFrame, mkF, argsToLocals, Value.category]; done)
theorem m4_requireNonNull (l : Launch) (Z : State) (a0 : Array Value) (hw : HW Z a0) (x1 : Addr) (h0 : Heap) (n0 : Nat) (Z0 : n0 ≤ h0.size) (O0 : Old Z n0 h0) :
    Ctr l Z [] (⟨"java/util/Objects", "requireNonNull", s11'⟩ : MethodName) jdk_31_method_10_code 1 (some (.object "java/lang/Object")) #[(.ref x1)] h0 ({ frames := 0, cells := 0, slots := 0, locals := 0 } : Room) (fun v h L => v = some (.ref x1) ∧ Fr n0 L ∧ h = h0) := by
  refine Ctr.of (plainFor_of_name pn_java_util_Objects) (fun m => ef_m4_requireNonNull m x1) ?_
  intro p e s m below meth c T0 hx hZ hby hml hown hnm hret hlk X0 e0
  have N0 := Fr.nil n0
  show Aw p e below _ T0 m 0 #[rv x1] []
  refine Rch.go (fun t k => XS.aloadN X0.here hx rfl (hb hby d4_0) rfl rfl (XS.ifnonnullYes X0.here hx rfl (pc0 := 1) (pc' := 12) rfl (hb hby d4_1) rfl (by decide) (by decide) (XS.aloadN X0.here hx rfl (hb hby d4_12) rfl rfl k))) ?_
  show Aw p e below _ T0 m 13 #[rv x1] [(.ref x1)]
  refine Rch.val X0 hx (t := (.object "java/lang/Object")) hret hlk rfl (Or.inr (Or.inr (Or.inr (Or.inr ⟨rfl, rfl, rfl⟩)))) (hb hby d4_13) (by decide) (by decide) ?_
  try rw [e0]
  exact ⟨rfl, N0, rfl⟩
theorem wd_192 {Z a0} (hw : HW Z a0) : (Cond.code ⟨"java/util/Objects", "requireNonNull", s11'⟩ jdk_31_method_10_code (1 : Nat) (Option.some (FieldType.object "java/lang/Object"))).before a0 Z = true := hw.at 192 rfl
theorem wd_67 {Z a0} (hw : HW Z a0) : (Cond.initialized "java/util/Objects").before a0 Z = true := hw.at 67 rfl
theorem pd_2 : parseMethodDescriptor s11' = some ⟨[(.object "java/lang/Object")], some (.object "java/lang/Object")⟩ := by decide +kernel
theorem wd_191 {Z a0} (hw : HW Z a0) : (Cond.static ⟨"java/util/Objects", "requireNonNull", s11'⟩).before a0 Z = true := hw.at 191 rfl
theorem d3_8 : decode jdk_32_method_3_code 8 = .ok (.invokespecial 23, 3) := by decide +kernel
theorem wd_218 {Z a0} (hw : HW Z a0) : (Cond.methodLink "java/util/Optional" (23 : Nat) ⟨"java/util/Optional", "<init>", "(Ljava/lang/Object;)V"⟩).before a0 Z = true := hw.at 218 rfl
theorem d5_0 : decode jdk_32_method_2_code 0 = .ok (.aload_n 0, 1) := by decide +kernel
theorem d5_1 : decode jdk_32_method_2_code 1 = .ok (.invokespecial 7, 3) := by decide +kernel
theorem wd_222 {Z a0} (hw : HW Z a0) : (Cond.methodLink "java/util/Optional" (7 : Nat) ⟨"java/lang/Object", "<init>", "()V"⟩).before a0 Z = true := hw.at 222 rfl
theorem wd_23 {Z a0} (hw : HW Z a0) : (Cond.instanceMethod ⟨"java/lang/Object", "<init>", "()V"⟩).before a0 Z = true := hw.at 23 rfl
theorem wd_24 {Z a0} (hw : HW Z a0) : (Cond.code ⟨"java/lang/Object", "<init>", "()V"⟩ object_method_1_code (1 : Nat) (Option.none : Option FieldType)).before a0 Z = true := hw.at 24 rfl
theorem d5_4 : decode jdk_32_method_2_code 4 = .ok (.aload_n 0, 1) := by decide +kernel
theorem d5_5 : decode jdk_32_method_2_code 5 = .ok (.aload_n 1, 1) := by decide +kernel
theorem d5_6 : decode jdk_32_method_2_code 6 = .ok (.putfield 13, 3) := by decide +kernel
theorem wd_223 {Z a0} (hw : HW Z a0) : (Cond.fieldLink "java/util/Optional" (13 : Nat) "java/util/Optional" "value" "Ljava/lang/Object;").before a0 Z = true := hw.at 223 rfl
theorem d5_9 : decode jdk_32_method_2_code 9 = .ok (.return_, 1) := by decide +kernel
theorem pn_java_util_Optional : plainName "java/util/Optional" = true := by first | (simp [plainName, overriddenIn]; done) | decide +kernel
theorem ef_m5_init (m : MethodId) (x1 x2 : Addr) : entryFrame m #[(.ref x1), (.ref x2)] 2 = mkF m 0 #[rv x1, rv x2] [] := by first | rfl | (simp [entryFrame, mkF, argsToLocals, Value.category]; done)
theorem m5_init (l : Launch) (Z : State) (a0 : Array Value) (hw : HW Z a0) (x1 x2 : Addr) (h0 : Heap) (n0 : Nat) (Z0 : n0 ≤ h0.size) (O0 : Old Z n0 h0) (P1 : Exa Z h0 x1 "java/util/Optional") (P2 : Fld Z h0 x1 "java/util/Optional" "value" "Ljava/lang/Object;" .null) (P3 : n0 ≤ x1) :
    Ctr l Z [] (⟨"java/util/Optional", "<init>", "(Ljava/lang/Object;)V"⟩ : MethodName) jdk_32_method_2_code 2 none #[(.ref x1), (.ref x2)] h0 ({ frames := 1, cells := 0, slots := 0, locals := 12 } : Room) (fun v h L => v = none ∧ Fr n0 L ∧ Keep h0 h [x1] ∧ Fld Z h x1 "java/util/Optional" "value" "Ljava/lang/Object;" (.ref x2)) := by
  refine Ctr.of (plainFor_of_name pn_java_util_Optional) (fun m => ef_m5_init m x1 x2) ?_
  intro p e s m below meth c T0 hx hZ hby hml hown hnm hret hlk X0 e0
  have N0 := Fr.nil n0
  show Aw p e below _ T0 m 0 #[rv x1, rv x2] []
  refine Rch.go (fun t k => XS.aloadN X0.here hx rfl (hb hby d5_0) rfl rfl k) ?_
  show Aw p e below _ T0 m 1 #[rv x1, rv x2] [(.ref x1)]
  obtain ⟨T1, X1, e1, st1⟩ := initO X0 hx hZ hown (wd_222 hw) (wd_23 hw) (wd_24 hw) e0 (g := (mkF m 1 #[rv x1, rv x2] [(.ref x1)])) rfl (by rw [hml]; rfl) rfl (hb hby d5_1) (by decide) (W := 0) (by show 2 * 0 + _ ≤ _; exact Nat.le_of_eq rfl) (by decide)
  refine Rch.go st1 ?_
  show Aw p e below _ T1 m 4 #[rv x1, rv x2] []
  refine Rch.go (fun t k => XS.aloadN X1.here hx rfl (hb hby d5_4) rfl rfl (XS.aloadN X1.here hx rfl (hb hby d5_5) rfl rfl k)) ?_
  show Aw p e below _ T1 m 6 #[rv x1, rv x2] [(.ref x2), (.ref x1)]
  obtain ⟨T2, h2, X2, e2, W2, st2⟩ := putF X1 hx hZ hown (host := "") (Or.inl (wd_223 hw)) Via.refl e1 P2 P1 (Or.inr ⟨(wd_224 hw), rfl, hnm⟩) (wd_216 hw) (ty := (.object "java/lang/Object")) (by decide) rfl rfl (g := (mkF m 6 #[rv x1, rv x2] [(.ref x2), (.ref x1)])) rfl rfl (hb hby d5_6)
  refine Rch.go st2 ?_
  have F2 := P2.same W2
  have N2 := Fr.snoc X2 N0 P3
  show Aw p e below _ T2 m 9 #[rv x1, rv x2] []
  refine Rch.void X2 hx hret hlk (hb hby d5_9) (by decide) (by decide) ?_
  try rw [e2]
  exact ⟨rfl, N2, ((Keep.refl _ _).wr W2 (Or.inl (List.mem_of_getElem? (i := 0) rfl))), F2⟩
theorem wd_221 {Z a0} (hw : HW Z a0) : (Cond.code ⟨"java/util/Optional", "<init>", "(Ljava/lang/Object;)V"⟩ jdk_32_method_2_code (2 : Nat) (Option.none : Option FieldType)).before a0 Z = true := hw.at 221 rfl
theorem pd_3 : parseMethodDescriptor "(Ljava/lang/Object;)V" = some ⟨[(.object "java/lang/Object")], none⟩ := by decide +kernel
theorem wd_219 {Z a0} (hw : HW Z a0) : (Cond.instanceMethod ⟨"java/util/Optional", "<init>", "(Ljava/lang/Object;)V"⟩).before a0 Z = true := hw.at 219 rfl
theorem d3_11 : decode jdk_32_method_3_code 11 = .ok (.areturn, 1) := by decide +kernel
theorem ef_m3_of (m : MethodId) (x1 : Addr) : entryFrame m #[(.ref x1)] 1 = mkF m 0 #[rv x1] [] := by first | rfl | (simp [entryFrame, mkF, argsToLocals, Value.category]; done)
theorem m3_of (l : Launch) (Z : State) (a0 : Array Value) (hw : HW Z a0) (x1 : Addr) (h0 : Heap) (n0 : Nat) (Z0 : n0 ≤ h0.size) (O0 : Old Z n0 h0) :
    Ctr l Z [] (⟨"java/util/Optional", "of", "(Ljava/lang/Object;)Ljava/util/Optional;"⟩ : MethodName) jdk_32_method_3_code 1 (some (.object "java/util/Optional")) #[(.ref x1)] h0 ({ frames := 2, cells := 1, slots := 1, locals := 26 } : Room) (fun v h L => ∃ (b1 : Addr), v = some (.ref b1) ∧ Fr n0 L ∧ Keep h0 h [] ∧ h0.size ≤ b1 ∧ Exa Z h b1 "java/util/Optional" ∧ Fld Z h b1 "java/util/Optional" "value" "Ljava/lang/Object;" (.ref x1)) := by
  refine Ctr.of (plainFor_of_name pn_java_util_Optional) (fun m => ef_m3_of m x1) ?_
  intro p e s m below meth c T0 hx hZ hby hml hown hnm hret hlk X0 e0
  have N0 := Fr.nil n0
  show Aw p e below _ T0 m 0 #[rv x1] []
  obtain ⟨T1, h1, X1, e1, E1, A1, D1, -, st1⟩ := newO X0 hx hZ hown (wd_215 hw) (wd_216 hw) (wd_213 hw) e0 (g := (mkF m 0 #[rv x1] [])) rfl (hb hby d3_0) (by decide) (by decide)
  obtain ⟨b1, g1⟩ : ∃ z, z = h0.size := ⟨_, rfl⟩
  rw [← g1] at A1 D1 st1
  refine Rch.go st1 ?_
  have g_b1 : n0 ≤ b1 := Nat.le_trans Z0 (Nat.le_of_eq g1.symm)
  have F1_value : Fld Z h1 b1 "java/util/Optional" "value" "Ljava/lang/Object;" .null := (D1 (Or.inr (wd_224 hw)) (ty := (.object "java/lang/Object")) (by decide))
  show Aw p e below _ T1 m 3 #[rv x1] [(.ref b1)]
  refine Rch.go (fun t k => XS.dup X1.here hx rfl (hb hby d3_3) rfl rfl (XS.aloadN X1.here hx rfl (hb hby d3_4) rfl rfl k)) ?_
  show Aw p e below _ T1 m 5 #[rv x1] [(.ref x1), (.ref b1), (.ref b1)]
  have z2 := (Nat.le_trans Z0 E1.1)
  have o3 := (O0.ext E1)
  obtain ⟨v4, T4, L4, X4, Q4, st4⟩ := callSt X1 hx hZ (m4_requireNonNull l Z a0 hw x1 h1 n0 z2 o3 ) e1 hown (wd_217 hw) (wd_191 hw) (wd_192 hw) (wd_67 hw) (by decide) (hb hby d3_5) 2 (by decide) (by decide) (by decide) (by decide) (by rw [hml]; rfl) [(.ref x1)] [(.ref b1), (.ref b1)] rfl (lenOf pd_2 rfl) rfl (Nat.le_of_eq rfl) (Ls := #[rv x1])
  obtain ⟨rfl, M4, e4⟩ := Q4
  have N4 := Fr.app N0 M4
  refine Rch.go st4 ?_
  show Aw p e below _ T4 m 8 #[rv x1] [(.ref x1), (.ref b1), (.ref b1)]
  obtain ⟨v5, T5, L5, X5, Q5, st5⟩ := callSp X4 hx hZ (m5_init l Z a0 hw b1 x1 h1 n0 z2 o3 A1 F1_value g_b1) e4 hown rfl (wd_218 hw) (wd_219 hw) (wd_221 hw) (wd_213 hw) (by decide) (hb hby d3_8) 1 (by decide) (by decide) (by decide) (by decide) (by rw [hml]; rfl) b1 [(.ref x1)] [(.ref b1)] rfl (lenOf pd_3 rfl) rfl (Nat.le_of_eq rfl) (Ls := #[rv x1])
  obtain ⟨rfl, M5, K5, F5_0⟩ := Q5
  have N5 := Fr.app N4 M5
  refine Rch.go st5 ?_
  show Aw p e below _ T5 m 11 #[rv x1] [(.ref b1)]
  have f6 := (A1.keep K5)
  refine Rch.val X5 hx (t := (.object "java/util/Optional")) hret hlk rfl (Or.inr (Or.inr (Or.inr (Or.inr ⟨rfl, rfl, rfl⟩)))) (hb hby d3_11) (by decide) (by decide) ?_
  exact ⟨b1, rfl, N5, (((Keep.refl _ _).ext E1).trans K5 (allS (Or.inr (Nat.le_trans (Nat.le_refl _) (Nat.le_of_eq g1.symm))) all0)), (Nat.le_trans (Nat.le_refl _) (Nat.le_of_eq g1.symm)), f6, F5_0⟩
theorem wd_214 {Z a0} (hw : HW Z a0) : (Cond.code ⟨"java/util/Optional", "of", "(Ljava/lang/Object;)Ljava/util/Optional;"⟩ jdk_32_method_3_code (1 : Nat) (Option.some (FieldType.object "java/util/Optional"))).before a0 Z = true := hw.at 214 rfl
theorem pd_4 : parseMethodDescriptor "(Ljava/lang/Object;)Ljava/util/Optional;" = some ⟨[(.object "java/lang/Object")], some (.object "java/util/Optional")⟩ := by decide +kernel
theorem wd_212 {Z a0} (hw : HW Z a0) : (Cond.static ⟨"java/util/Optional", "of", "(Ljava/lang/Object;)Ljava/util/Optional;"⟩).before a0 Z = true := hw.at 212 rfl
theorem d0_15 : decode prog_9_method_6_code 15 = .ok (.goto 6, 3) := by decide +kernel
theorem d0_21 : decode prog_9_method_6_code 21 = .ok (.astore_n 2, 1) := by decide +kernel
theorem d0_22 : decode prog_9_method_6_code 22 = .ok (.iconst 0, 1) := by decide +kernel
theorem d0_23 : decode prog_9_method_6_code 23 = .ok (.istore_n 3, 1) := by decide +kernel
theorem d0_24 : decode prog_9_method_6_code 24 = .ok (.aload_n 2, 1) := by decide +kernel
theorem d0_25 : decode prog_9_method_6_code 25 = .ok (.invokevirtual 74, 3) := by decide +kernel
theorem wd_225 {Z a0} (hw : HW Z a0) : (Cond.methodLink s2' (74 : Nat) ⟨"java/util/Optional", "isEmpty", "()Z"⟩).before a0 Z = true := hw.at 225 rfl
theorem d6_0 : decode jdk_32_method_7_code 0 = .ok (.aload_n 0, 1) := by decide +kernel
theorem d6_1 : decode jdk_32_method_7_code 1 = .ok (.getfield 13, 3) := by decide +kernel
theorem d6_4 : decode jdk_32_method_7_code 4 = .ok (.ifnonnull 7, 3) := by decide +kernel
theorem d6_11 : decode jdk_32_method_7_code 11 = .ok (.iconst 0, 1) := by decide +kernel
theorem d6_12 : decode jdk_32_method_7_code 12 = .ok (.ireturn, 1) := by decide +kernel
theorem ef_m6_isEmpty (m : MethodId) (x1 : Addr) : entryFrame m #[(.ref x1)] 1 = mkF m 0 #[rv x1] [] := by first | rfl | (simp [entryFrame, mkF, argsToLocals, Value.category]; done)
theorem m6_isEmpty (l : Launch) (Z : State) (a0 : Array Value) (hw : HW Z a0) (x1 x2 : Addr) (h0 : Heap) (n0 : Nat) (Z0 : n0 ≤ h0.size) (O0 : Old Z n0 h0) (P1 : Fld Z h0 x1 "java/util/Optional" "value" "Ljava/lang/Object;" (.ref x2)) :
    Ctr l Z [] (⟨"java/util/Optional", "isEmpty", "()Z"⟩ : MethodName) jdk_32_method_7_code 1 (some .boolean) #[(.ref x1)] h0 ({ frames := 0, cells := 0, slots := 0, locals := 0 } : Room) (fun v h L => v = some (.int 0) ∧ Fr n0 L ∧ h = h0) := by
  refine Ctr.of (plainFor_of_name pn_java_util_Optional) (fun m => ef_m6_isEmpty m x1) ?_
  intro p e s m below meth c T0 hx hZ hby hml hown hnm hret hlk X0 e0
  have N0 := Fr.nil n0
  show Aw p e below _ T0 m 0 #[rv x1] []
  refine Rch.go (fun t k => XS.aloadN X0.here hx rfl (hb hby d6_0) rfl rfl k) ?_
  show Aw p e below _ T0 m 1 #[rv x1] [(.ref x1)]
  obtain ⟨T1, X1, e1, st1⟩ := getF X0 hx hZ hown (host := "") (Or.inl (wd_223 hw)) Via.refl e0 P1 (g := (mkF m 1 #[rv x1] [(.ref x1)])) rfl rfl (hb hby d6_1)
  refine Rch.go st1 ?_
  show Aw p e below _ T1 m 4 #[rv x1] [(.ref x2)]
  refine Rch.go (fun t k => XS.ifnonnullYes X1.here hx rfl (pc0 := 4) (pc' := 11) rfl (hb hby d6_4) rfl (by decide) (by decide) (XS.iconst X1.here hx rfl (hb hby d6_11) k)) ?_
  show Aw p e below _ T1 m 12 #[rv x1] [(.int 0)]
  refine Rch.val X1 hx (t := .boolean) hret hlk rfl (mayI (by simp)) (hb hby d6_12) (by decide) (by decide) ?_
  try rw [e1]
  exact ⟨rfl, N0, rfl⟩
theorem wd_229 {Z a0} (hw : HW Z a0) : (Cond.code ⟨"java/util/Optional", "isEmpty", "()Z"⟩ jdk_32_method_7_code (1 : Nat) (Option.some FieldType.boolean)).before a0 Z = true := hw.at 229 rfl
theorem pd_5 : parseMethodDescriptor "()Z" = some ⟨[], some .boolean⟩ := by decide +kernel
theorem wd_228 {Z a0} (hw : HW Z a0) : (Cond.selects "java/util/Optional" ⟨"java/util/Optional", "isEmpty", "()Z"⟩ ⟨"java/util/Optional", "isEmpty", "()Z"⟩).before a0 Z = true := hw.at 228 rfl
theorem wd_226 {Z a0} (hw : HW Z a0) : (Cond.declares ⟨"java/util/Optional", "isEmpty", "()Z"⟩).before a0 Z = true := hw.at 226 rfl
theorem wd_227 {Z a0} (hw : HW Z a0) : (Cond.instanceMethod ⟨"java/util/Optional", "isEmpty", "()Z"⟩).before a0 Z = true := hw.at 227 rfl
theorem d0_28 : decode prog_9_method_6_code 28 = .ok (.ifCond .eq 40, 3) := by decide +kernel
theorem d0_68 : decode prog_9_method_6_code 68 = .ok (.aload_n 2, 1) := by decide +kernel
theorem d0_69 : decode prog_9_method_6_code 69 = .ok (.areturn, 1) := by decide +kernel
theorem pn_com_example_harpocrates_harpocrates_data_Taxonomy : plainName s2' = true := by first | (simp [plainName, overriddenIn]; done) | decide +kernel
theorem ef_find_hit (m : MethodId) (xx sq : Addr) : entryFrame m #[(.ref xx), (.ref sq)] 4 = mkF m 0 #[rv xx, rv sq, uu, uu] [] := by first | rfl | (simp [entryFrame, mkF, argsToLocals, Value.category]; done)
theorem find_hit (l : Launch) (Z : State) (a0 : Array Value) (hw : HW Z a0) (xx sq ss el em oe : Addr) (ch cq : Int32) (h0 : Heap) (n0 : Nat) (Z0 : n0 ≤ h0.size) (O0 : Old Z n0 h0) (PO : Oz Z el em oe) (P1 : Exa Z h0 xx s2') (P2 : Fld Z h0 xx s2' "value" "Ljava/lang/String;" (.ref ss)) (P3 : Sg Z h0 ss ch) (P4 : Sg Z h0 sq cq) (P5 : ss ≠ sq) (P6 : (nar .byte (ch.toInt8.toInt32)) = (nar .byte (cq.toInt8.toInt32))) :
    Ctr l Z [] (⟨s2', "find", s9'⟩ : MethodName) prog_9_method_6_code 4 (some (.object "java/util/Optional")) #[(.ref xx), (.ref sq)] h0 ({ frames := 3, cells := 1, slots := 1, locals := 38 } : Room) (FQ Z n0 h0 (.ref xx)) := by
  refine Ctr.of (plainFor_of_name pn_com_example_harpocrates_harpocrates_data_Taxonomy) (fun m => ef_find_hit m xx sq) ?_
  intro p e s m below meth c T0 hx hZ hby hml hown hnm hret hlk X0 e0
  have N0 := Fr.nil n0
  obtain ⟨ar, kk, ww, go1, go2, go3, go4, go5, go6, go7, go8, go9⟩ := PO
  obtain ⟨bs, ks, sgE, sgV, sgC, sgA, -⟩ := P3
  obtain ⟨bq, kq, sqE, sqV, sqC, sqA, sqL⟩ := P4
  show Aw p e below _ T0 m 0 #[rv xx, rv sq, uu, uu] []
  refine Rch.go (fun t k => XS.aloadN X0.here hx rfl (hb hby d0_0) rfl rfl k) ?_
  show Aw p e below _ T0 m 1 #[rv xx, rv sq, uu, uu] [(.ref xx)]
  obtain ⟨T1, X1, e1, st1⟩ := getF X0 hx hZ hown (host := "") (Or.inl (wd_103 hw)) Via.refl e0 P2 (g := (mkF m 1 #[rv xx, rv sq, uu, uu] [(.ref xx)])) rfl rfl (hb hby d0_1)
  refine Rch.go st1 ?_
  show Aw p e below _ T1 m 4 #[rv xx, rv sq, uu, uu] [(.ref ss)]
  refine Rch.go (fun t k => XS.aloadN X1.here hx rfl (hb hby d0_4) rfl rfl k) ?_
  show Aw p e below _ T1 m 5 #[rv xx, rv sq, uu, uu] [(.ref sq), (.ref ss)]
  obtain ⟨v2, T2, L2, X2, Q2, st2⟩ := callVi X1 hx hZ (m1_equals l Z a0 hw ss sq ww bs bq ks (nar .byte (ch.toInt8.toInt32)) kq (nar .byte (cq.toInt8.toInt32)) h0 n0 Z0 O0 P5 sqE go8 go9 sgC sqC sgV sqV sgA sqA P6) e1 hown (wd_203 hw) (wd_204 hw) (wd_206 hw) (notFace_of_selects (args := #[]) (mvT hZ (wd_206 hw))) (wd_205 hw) (wd_207 hw) (wd_5 hw) (by decide) (hb hby d0_5) 0 (by decide) (by decide) (by decide) (by decide) (by rw [hml]; rfl) ss sgE [(.ref sq)] [] rfl (lenOf pd_1 rfl) rfl (Nat.le_of_eq rfl) (Ls := #[rv xx, rv sq, uu, uu])
  obtain ⟨rfl, M2, e2⟩ := Q2
  have N2 := Fr.app N0 M2
  refine Rch.go st2 ?_
  show Aw p e below _ T2 m 8 #[rv xx, rv sq, uu, uu] [(.int 1)]
  refine Rch.go (fun t k => XS.ifNo X2.here hx rfl (hb hby d0_8) rfl (by decide) (XS.aloadN X2.here hx rfl (hb hby d0_11) rfl rfl k)) ?_
  show Aw p e below _ T2 m 12 #[rv xx, rv sq, uu, uu] [(.ref xx)]
  obtain ⟨v3, T3, L3, X3, Q3, st3⟩ := callSt X2 hx hZ (m3_of l Z a0 hw xx h0 n0 Z0 O0 ) e2 hown (wd_211 hw) (wd_212 hw) (wd_214 hw) (wd_213 hw) (by decide) (hb hby d0_12) 0 (by decide) (by decide) (by decide) (by decide) (by rw [hml]; rfl) [(.ref xx)] [] rfl (lenOf pd_4 rfl) rfl (Nat.le_of_eq rfl) (Ls := #[rv xx, rv sq, uu, uu])
  obtain ⟨b3_0, rfl, M3, K3, zz3_0, F3_0, F3_1⟩ := Q3
  have N3 := Fr.app N2 M3
  refine Rch.go st3 ?_
  have g_b3_0 : n0 ≤ b3_0 := Nat.le_trans Z0 zz3_0
  show Aw p e below _ T3 m 15 #[rv xx, rv sq, uu, uu] [(.ref b3_0)]
  refine Rch.go (fun t k => XS.goto X3.here hx rfl (pc0 := 15) (pc' := 21) rfl (hb hby d0_15) (by decide) (by decide) (XS.astoreN X3.here hx rfl (hb hby d0_21) rfl rfl (l' := #[rv xx, rv sq, rv b3_0, uu]) rfl (XS.iconst X3.here hx rfl (hb hby d0_22) (XS.istoreN X3.here hx rfl (hb hby d0_23) rfl  (l' := #[rv xx, rv sq, rv b3_0, iv 0]) rfl (XS.aloadN X3.here hx rfl (hb hby d0_24) rfl rfl k))))) ?_
  show Aw p e below _ T3 m 25 #[rv xx, rv sq, rv b3_0, iv 0] [(.ref b3_0)]
  have z4 := (Nat.le_trans Z0 K3.1)
  have o5 := (O0.keep K3 all0)
  obtain ⟨v6, T6, L6, X6, Q6, st6⟩ := callVi X3 hx hZ (m6_isEmpty l Z a0 hw b3_0 xx T3.heap n0 z4 o5 F3_1) rfl hown (wd_225 hw) (wd_226 hw) (wd_228 hw) (notFace_of_selects (args := #[]) (mvT hZ (wd_228 hw))) (wd_227 hw) (wd_229 hw) (wd_213 hw) (by decide) (hb hby d0_25) 0 (by decide) (by decide) (by decide) (by decide) (by rw [hml]; rfl) b3_0 F3_0 [] [] rfl (lenOf pd_5 rfl) rfl (Nat.le_of_eq rfl) (Ls := #[rv xx, rv sq, rv b3_0, iv 0])
  obtain ⟨rfl, M6, e6⟩ := Q6
  have N6 := Fr.app N3 M6
  refine Rch.go st6 ?_
  show Aw p e below _ T6 m 28 #[rv xx, rv sq, rv b3_0, iv 0] [(.int 0)]
  refine Rch.go (fun t k => XS.ifYes X6.here hx rfl (pc0 := 28) (pc' := 68) rfl (hb hby d0_28) rfl (by decide) (by decide) (by decide) (XS.aloadN X6.here hx rfl (hb hby d0_68) rfl rfl k)) ?_
  show Aw p e below _ T6 m 69 #[rv xx, rv sq, rv b3_0, iv 0] [(.ref b3_0)]
  refine Rch.val X6 hx (t := (.object "java/util/Optional")) hret hlk rfl (Or.inr (Or.inr (Or.inr (Or.inr ⟨rfl, rfl, rfl⟩)))) (hb hby d0_69) (by decide) (by decide) ?_
  try rw [e6]
  exact ⟨b3_0, rfl, N6, ((Keep.refl _ _).trans K3 all0), F3_0, F3_1⟩
theorem d2_24 : decode jdk_43_method_13_code 24 = .ok (.iconst 0, 1) := by decide +kernel
theorem d2_25 : decode jdk_43_method_13_code 25 = .ok (.ireturn, 1) := by decide +kernel
theorem ef_m8_equals (m : MethodId) (x1 x2 : Addr) : entryFrame m #[(.ref x1), (.ref x2)] 3 = mkF m 0 #[rv x1, rv x2, uu] [] := by first | rfl | (simp [entryFrame, mkF, argsToLocals, Value.category]; done)
theorem m8_equals (l : Launch) (Z : State) (a0 : Array Value) (hw : HW Z a0) (x1 x2 : Addr) (kk3 : ClassId) (y4 : Int32) (kk5 : ClassId) (y6 : Int32) (h0 : Heap) (n0 : Nat) (Z0 : n0 ≤ h0.size) (O0 : Old Z n0 h0) (P1 : Arv Z h0 x1 kk3 .byte (1 : Int32) [(.int y4)] (.int 0)) (P2 : Arv Z h0 x2 kk5 .byte (1 : Int32) [(.int y6)] (.int 0)) (P3 : ¬ (y4 = y6)) :
    Ctr l Z [] (⟨"java/lang/StringLatin1", "equals", "([B[B)Z"⟩ : MethodName) jdk_43_method_13_code 3 (some .boolean) #[(.ref x1), (.ref x2)] h0 ({ frames := 0, cells := 0, slots := 0, locals := 0 } : Room) (fun v h L => v = some (.int 0) ∧ Fr n0 L ∧ h = h0) := by
  refine Ctr.of (plainFor_of_name pn_java_lang_StringLatin1) (fun m => ef_m8_equals m x1 x2) ?_
  intro p e s m below meth c T0 hx hZ hby hml hown hnm hret hlk X0 e0
  have N0 := Fr.nil n0
  show Aw p e below _ T0 m 0 #[rv x1, rv x2, uu] []
  refine Rch.go (fun t k => XS.aloadN X0.here hx rfl (hb hby d2_0) rfl rfl k) ?_
  show Aw p e below _ T0 m 1 #[rv x1, rv x2, uu] [(.ref x1)]
  obtain ⟨c1, r1, q1, s1, u1, H1, G1⟩ := id P1
  refine Rch.go (fun t k => X0.arraylength hx (by rw [e0]; exact r1.1) (State.isArrayOf_alike hZ.alike r1.2.1) (g := (mkF m 1 #[rv x1, rv x2, uu] [(.ref x1)])) rfl rfl (hb hby d2_1) t (by rw [len_of s1 u1]; exact k)) ?_
  show Aw p e below _ T0 m 2 #[rv x1, rv x2, uu] [(.int 1)]
  refine Rch.go (fun t k => XS.aloadN X0.here hx rfl (hb hby d2_2) rfl rfl k) ?_
  show Aw p e below _ T0 m 3 #[rv x1, rv x2, uu] [(.ref x2), (.int 1)]
  obtain ⟨c2, r2, q2, s2, u2, H2, G2⟩ := id P2
  refine Rch.go (fun t k => X0.arraylength hx (by rw [e0]; exact r2.1) (State.isArrayOf_alike hZ.alike r2.2.1) (g := (mkF m 3 #[rv x1, rv x2, uu] [(.ref x2), (.int 1)])) rfl rfl (hb hby d2_3) t (by rw [len_of s2 u2]; exact k)) ?_
  show Aw p e below _ T0 m 4 #[rv x1, rv x2, uu] [(.int 1), (.int 1)]
  refine Rch.go (fun t k => XS.icmpNo X0.here hx rfl (hb hby d2_4) rfl (by decide) (XS.iconst X0.here hx rfl (hb hby d2_7) (XS.istoreN X0.here hx rfl (hb hby d2_8) rfl  (l' := #[rv x1, rv x2, iv 0]) rfl (XS.iloadN X0.here hx rfl (hb hby d2_9) rfl  (XS.aloadN X0.here hx rfl (hb hby d2_10) rfl rfl k))))) ?_
  show Aw p e below _ T0 m 11 #[rv x1, rv x2, iv 0] [(.ref x1), (.int 0)]
  obtain ⟨c3, r3, q3, s3, u3, H3, G3⟩ := id P1
  refine Rch.go (fun t k => X0.arraylength hx (by rw [e0]; exact r3.1) (State.isArrayOf_alike hZ.alike r3.2.1) (g := (mkF m 11 #[rv x1, rv x2, iv 0] [(.ref x1), (.int 0)])) rfl rfl (hb hby d2_11) t (by rw [len_of s3 u3]; exact k)) ?_
  show Aw p e below _ T0 m 12 #[rv x1, rv x2, iv 0] [(.int 1), (.int 0)]
  refine Rch.go (fun t k => XS.icmpNo X0.here hx rfl (hb hby d2_12) rfl (by decide) (XS.aloadN X0.here hx rfl (hb hby d2_15) rfl rfl (XS.iloadN X0.here hx rfl (hb hby d2_16) rfl  k))) ?_
  show Aw p e below _ T0 m 17 #[rv x1, rv x2, iv 0] [(.int 0), (.ref x1)]
  obtain ⟨c4, r4, q4, s4, u4, H4, G4⟩ := id P1
  refine Rch.go (fun t k => X0.baloadBytes hx (j := (0 : Int32)) (v := (.int y4)) (by rw [e0]; exact r4.1) (State.isArrayOf_alike hZ.alike r4.2.1) r4.2.2 (inb_of s4 (by decide)) (H4.at (inb_of s4 (by decide)) rfl) (g := (mkF m 17 #[rv x1, rv x2, iv 0] [(.int 0), (.ref x1)])) rfl rfl (hb hby d2_17) t k) ?_
  show Aw p e below _ T0 m 18 #[rv x1, rv x2, iv 0] [(.int y4)]
  refine Rch.go (fun t k => XS.aloadN X0.here hx rfl (hb hby d2_18) rfl rfl (XS.iloadN X0.here hx rfl (hb hby d2_19) rfl  k)) ?_
  show Aw p e below _ T0 m 20 #[rv x1, rv x2, iv 0] [(.int 0), (.ref x2), (.int y4)]
  obtain ⟨c5, r5, q5, s5, u5, H5, G5⟩ := id P2
  refine Rch.go (fun t k => X0.baloadBytes hx (j := (0 : Int32)) (v := (.int y6)) (by rw [e0]; exact r5.1) (State.isArrayOf_alike hZ.alike r5.2.1) r5.2.2 (inb_of s5 (by decide)) (H5.at (inb_of s5 (by decide)) rfl) (g := (mkF m 20 #[rv x1, rv x2, iv 0] [(.int 0), (.ref x2), (.int y4)])) rfl rfl (hb hby d2_20) t k) ?_
  show Aw p e below _ T0 m 21 #[rv x1, rv x2, iv 0] [(.int y6), (.int y4)]
  refine Rch.go (fun t k => XS.icmpNo X0.here hx rfl (hb hby d2_21) rfl (XT.ii_eq_f P3) (XS.iconst X0.here hx rfl (hb hby d2_24) k)) ?_
  show Aw p e below _ T0 m 25 #[rv x1, rv x2, iv 0] [(.int 0)]
  refine Rch.val X0 hx (t := .boolean) hret hlk rfl (mayI (by simp)) (hb hby d2_25) (by decide) (by decide) ?_
  try rw [e0]
  exact ⟨rfl, N0, rfl⟩
theorem d1_54 : decode jdk_42_method_66_code 54 = .ok (.iconst 0, 1) := by decide +kernel
theorem ef_m7_equals (m : MethodId) (x1 x2 : Addr) : entryFrame m #[(.ref x1), (.ref x2)] 3 = mkF m 0 #[rv x1, rv x2, uu] [] := by first | rfl | (simp [entryFrame, mkF, argsToLocals, Value.category]; done)
theorem m7_equals (l : Launch) (Z : State) (a0 : Array Value) (hw : HW Z a0) (x1 x2 : Addr) (y3 : Int32) (x4 x5 : Addr) (kk6 : ClassId) (y7 : Int32) (kk8 : ClassId) (y9 : Int32) (h0 : Heap) (n0 : Nat) (Z0 : n0 ≤ h0.size) (O0 : Old Z n0 h0) (P1 : x1 ≠ x2) (P2 : Exa Z h0 x2 "java/lang/String") (P3 : Sta Z Z.heap "java/lang/String" "COMPACT_STRINGS" "Z" (.int y3)) (P4 : ¬ (y3 = (0 : Int32))) (P5 : Fld Z h0 x1 "java/lang/String" "coder" "B" (.int 0)) (P6 : Fld Z h0 x2 "java/lang/String" "coder" "B" (.int 0)) (P7 : Fld Z h0 x1 "java/lang/String" "value" "[B" (.ref x4)) (P8 : Fld Z h0 x2 "java/lang/String" "value" "[B" (.ref x5)) (P9 : Arv Z h0 x4 kk6 .byte (1 : Int32) [(.int y7)] (.int 0)) (P10 : Arv Z h0 x5 kk8 .byte (1 : Int32) [(.int y9)] (.int 0)) (P11 : ¬ (y7 = y9)) :
    Ctr l Z [] (⟨"java/lang/String", "equals", "(Ljava/lang/Object;)Z"⟩ : MethodName) jdk_42_method_66_code 3 (some .boolean) #[(.ref x1), (.ref x2)] h0 ({ frames := 1, cells := 0, slots := 0, locals := 14 } : Room) (fun v h L => v = some (.int 0) ∧ Fr n0 L ∧ h = h0) := by
  refine Ctr.of (plainFor_of_name pn_java_lang_String) (fun m => ef_m7_equals m x1 x2) ?_
  intro p e s m below meth c T0 hx hZ hby hml hown hnm hret hlk X0 e0
  have N0 := Fr.nil n0
  show Aw p e below _ T0 m 0 #[rv x1, rv x2, uu] []
  refine Rch.go (fun t k => XS.aloadN X0.here hx rfl (hb hby d1_0) rfl rfl (XS.aloadN X0.here hx rfl (hb hby d1_1) rfl rfl (acmp X0 hx rfl (x := (.ref x1)) (y := (.ref x2)) rfl rfl (pc0 := 2) (pc' := 7) (same := false) rfl (hb hby d1_2) rfl (decide_eq_false (fun q => absurd (Value.ref.inj q) P1)) (by decide) (by decide) (XS.aloadN X0.here hx rfl (hb hby d1_7) rfl rfl k)))) ?_
  show Aw p e below _ T0 m 8 #[rv x1, rv x2, uu] [(.ref x2)]
  obtain ⟨T1, X1, e1, st1⟩ := instY X0 hx hZ hown (wd_12 hw) e0 (Ins.self P2) (g := (mkF m 8 #[rv x1, rv x2, uu] [(.ref x2)])) rfl rfl (hb hby d1_8)
  refine Rch.go st1 ?_
  show Aw p e below _ T1 m 11 #[rv x1, rv x2, uu] [(.int 1)]
  refine Rch.go (fun t k => XS.ifNo X1.here hx rfl (hb hby d1_11) rfl (by decide) (XS.aloadN X1.here hx rfl (hb hby d1_14) rfl rfl k)) ?_
  show Aw p e below _ T1 m 15 #[rv x1, rv x2, uu] [(.ref x2)]
  obtain ⟨T2, X2, e2, st2⟩ := castY X1 hx hZ hown (wd_12 hw) e1 (Ins.self P2) (g := (mkF m 15 #[rv x1, rv x2, uu] [(.ref x2)])) rfl rfl (hb hby d1_15)
  refine Rch.go st2 ?_
  show Aw p e below _ T2 m 18 #[rv x1, rv x2, uu] [(.ref x2)]
  refine Rch.go (fun t k => XS.astoreN X2.here hx rfl (hb hby d1_18) rfl rfl (l' := #[rv x1, rv x2, rv x2]) rfl k) ?_
  show Aw p e below _ T2 m 19 #[rv x1, rv x2, rv x2] []
  obtain ⟨T3, X3, e3, st3⟩ := getS2 X2 hx hZ hown (host := "") (Or.inl (wd_7 hw)) Via.refl e2 (P3.ext O0.2) (g := (mkF m 19 #[rv x1, rv x2, rv x2] [])) rfl (hb hby d1_19)
  refine Rch.go st3 ?_
  show Aw p e below _ T3 m 22 #[rv x1, rv x2, rv x2] [(.int y3)]
  refine Rch.go (fun t k => XS.ifNo X3.here hx rfl (hb hby d1_22) rfl (XT.i0_eq_f P4) (XS.aloadN X3.here hx rfl (hb hby d1_25) rfl rfl k)) ?_
  show Aw p e below _ T3 m 26 #[rv x1, rv x2, rv x2] [(.ref x1)]
  obtain ⟨T4, X4, e4, st4⟩ := getF X3 hx hZ hown (host := "") (Or.inl (wd_27 hw)) Via.refl e3 P5 (g := (mkF m 26 #[rv x1, rv x2, rv x2] [(.ref x1)])) rfl rfl (hb hby d1_26)
  refine Rch.go st4 ?_
  show Aw p e below _ T4 m 29 #[rv x1, rv x2, rv x2] [(.int 0)]
  refine Rch.go (fun t k => XS.aloadN X4.here hx rfl (hb hby d1_29) rfl rfl k) ?_
  show Aw p e below _ T4 m 30 #[rv x1, rv x2, rv x2] [(.ref x2), (.int 0)]
  obtain ⟨T5, X5, e5, st5⟩ := getF X4 hx hZ hown (host := "") (Or.inl (wd_27 hw)) Via.refl e4 P6 (g := (mkF m 30 #[rv x1, rv x2, rv x2] [(.ref x2), (.int 0)])) rfl rfl (hb hby d1_30)
  refine Rch.go st5 ?_
  show Aw p e below _ T5 m 33 #[rv x1, rv x2, rv x2] [(.int 0), (.int 0)]
  refine Rch.go (fun t k => XS.icmpNo X5.here hx rfl (hb hby d1_33) rfl (by decide) (XS.aloadN X5.here hx rfl (hb hby d1_36) rfl rfl k)) ?_
  show Aw p e below _ T5 m 37 #[rv x1, rv x2, rv x2] [(.ref x1)]
  obtain ⟨T6, X6, e6, st6⟩ := getF X5 hx hZ hown (host := "") (Or.inl (wd_25 hw)) Via.refl e5 P7 (g := (mkF m 37 #[rv x1, rv x2, rv x2] [(.ref x1)])) rfl rfl (hb hby d1_37)
  refine Rch.go st6 ?_
  show Aw p e below _ T6 m 40 #[rv x1, rv x2, rv x2] [(.ref x4)]
  refine Rch.go (fun t k => XS.aloadN X6.here hx rfl (hb hby d1_40) rfl rfl k) ?_
  show Aw p e below _ T6 m 41 #[rv x1, rv x2, rv x2] [(.ref x2), (.ref x4)]
  obtain ⟨T7, X7, e7, st7⟩ := getF X6 hx hZ hown (host := "") (Or.inl (wd_25 hw)) Via.refl e6 P8 (g := (mkF m 41 #[rv x1, rv x2, rv x2] [(.ref x2), (.ref x4)])) rfl rfl (hb hby d1_41)
  refine Rch.go st7 ?_
  show Aw p e below _ T7 m 44 #[rv x1, rv x2, rv x2] [(.ref x5), (.ref x4)]
  obtain ⟨v8, T8, L8, X8, Q8, st8⟩ := callSt X7 hx hZ (m8_equals l Z a0 hw x4 x5 kk6 y7 kk8 y9 h0 n0 Z0 O0 P9 P10 P11) e7 hown (wd_208 hw) (wd_209 hw) (wd_210 hw) (wd_10 hw) (by decide) (hb hby d1_44) 0 (by decide) (by decide) (by decide) (by decide) (by rw [hml]; rfl) [(.ref x4), (.ref x5)] [] rfl (lenOf pd_0 rfl) rfl (Nat.le_of_eq rfl) (Ls := #[rv x1, rv x2, rv x2])
  obtain ⟨rfl, M8, e8⟩ := Q8
  have N8 := Fr.app N0 M8
  refine Rch.go st8 ?_
  show Aw p e below _ T8 m 47 #[rv x1, rv x2, rv x2] [(.int 0)]
  refine Rch.go (fun t k => XS.ifYes X8.here hx rfl (pc0 := 47) (pc' := 54) rfl (hb hby d1_47) rfl (by decide) (by decide) (by decide) (XS.iconst X8.here hx rfl (hb hby d1_54) k)) ?_
  show Aw p e below _ T8 m 55 #[rv x1, rv x2, rv x2] [(.int 0)]
  refine Rch.val X8 hx (t := .boolean) hret hlk rfl (mayI (by simp)) (hb hby d1_55) (by decide) (by decide) ?_
  try rw [e8]
  exact ⟨rfl, N8, rfl⟩
theorem d0_18 : decode prog_9_method_6_code 18 = .ok (.invokestatic 70, 3) := by decide +kernel
theorem wd_246 {Z a0} (hw : HW Z a0) : (Cond.methodLink s2' (70 : Nat) ⟨"java/util/Optional", "empty", "()Ljava/util/Optional;"⟩).before a0 Z = true := hw.at 246 rfl
theorem d7_0 : decode jdk_32_method_1_code 0 = .ok (.getstatic 1, 3) := by decide +kernel
theorem wd_249 {Z a0} (hw : HW Z a0) : (Cond.fieldLink "java/util/Optional" (1 : Nat) "java/util/Optional" "EMPTY" "Ljava/util/Optional;").before a0 Z = true := hw.at 249 rfl
theorem d7_3 : decode jdk_32_method_1_code 3 = .ok (.astore_n 0, 1) := by decide +kernel
theorem d7_4 : decode jdk_32_method_1_code 4 = .ok (.aload_n 0, 1) := by decide +kernel
theorem d7_5 : decode jdk_32_method_1_code 5 = .ok (.areturn, 1) := by decide +kernel
theorem ef_m9_empty (m : MethodId) : entryFrame m #[] 1 = mkF m 0 #[uu] [] := by first | rfl | (simp [entryFrame, mkF, argsToLocals, Value.category]; done)
theorem m9_empty (l : Launch) (Z : State) (a0 : Array Value) (hw : HW Z a0) (x1 : Addr) (h0 : Heap) (n0 : Nat) (Z0 : n0 ≤ h0.size) (O0 : Old Z n0 h0) (P1 : Sta Z Z.heap "java/util/Optional" "EMPTY" "Ljava/util/Optional;" (.ref x1)) :
    Ctr l Z [] (⟨"java/util/Optional", "empty", "()Ljava/util/Optional;"⟩ : MethodName) jdk_32_method_1_code 1 (some (.object "java/util/Optional")) #[] h0 ({ frames := 0, cells := 0, slots := 0, locals := 0 } : Room) (fun v h L => v = some (.ref x1) ∧ Fr n0 L ∧ h = h0) := by
  refine Ctr.of (plainFor_of_name pn_java_util_Optional) (fun m => ef_m9_empty m ) ?_
  intro p e s m below meth c T0 hx hZ hby hml hown hnm hret hlk X0 e0
  have N0 := Fr.nil n0
  show Aw p e below _ T0 m 0 #[uu] []
  obtain ⟨T1, X1, e1, st1⟩ := getS2 X0 hx hZ hown (host := "") (Or.inl (wd_249 hw)) Via.refl e0 (P1.ext O0.2) (g := (mkF m 0 #[uu] [])) rfl (hb hby d7_0)
  refine Rch.go st1 ?_
  show Aw p e below _ T1 m 3 #[uu] [(.ref x1)]
  refine Rch.go (fun t k => XS.astoreN X1.here hx rfl (hb hby d7_3) rfl rfl (l' := #[rv x1]) rfl (XS.aloadN X1.here hx rfl (hb hby d7_4) rfl rfl k)) ?_
  show Aw p e below _ T1 m 5 #[rv x1] [(.ref x1)]
  refine Rch.val X1 hx (t := (.object "java/util/Optional")) hret hlk rfl (Or.inr (Or.inr (Or.inr (Or.inr ⟨rfl, rfl, rfl⟩)))) (hb hby d7_5) (by decide) (by decide) ?_
  try rw [e1]
  exact ⟨rfl, N0, rfl⟩
theorem wd_248 {Z a0} (hw : HW Z a0) : (Cond.code ⟨"java/util/Optional", "empty", "()Ljava/util/Optional;"⟩ jdk_32_method_1_code (1 : Nat) (Option.some (FieldType.object "java/util/Optional"))).before a0 Z = true := hw.at 248 rfl
theorem pd_6 : parseMethodDescriptor "()Ljava/util/Optional;" = some ⟨[], some (.object "java/util/Optional")⟩ := by decide +kernel
theorem wd_247 {Z a0} (hw : HW Z a0) : (Cond.static ⟨"java/util/Optional", "empty", "()Ljava/util/Optional;"⟩).before a0 Z = true := hw.at 247 rfl
theorem d6_7 : decode jdk_32_method_7_code 7 = .ok (.iconst 1, 1) := by decide +kernel
theorem d6_8 : decode jdk_32_method_7_code 8 = .ok (.goto 4, 3) := by decide +kernel
theorem ef_m10_isEmpty (m : MethodId) (x1 : Addr) : entryFrame m #[(.ref x1)] 1 = mkF m 0 #[rv x1] [] := by first | rfl | (simp [entryFrame, mkF, argsToLocals, Value.category]; done)
theorem m10_isEmpty (l : Launch) (Z : State) (a0 : Array Value) (hw : HW Z a0) (x1 : Addr) (h0 : Heap) (n0 : Nat) (Z0 : n0 ≤ h0.size) (O0 : Old Z n0 h0) (P1 : Fld Z Z.heap x1 "java/util/Optional" "value" "Ljava/lang/Object;" .null) :
    Ctr l Z [] (⟨"java/util/Optional", "isEmpty", "()Z"⟩ : MethodName) jdk_32_method_7_code 1 (some .boolean) #[(.ref x1)] h0 ({ frames := 0, cells := 0, slots := 0, locals := 0 } : Room) (fun v h L => v = some (.int 1) ∧ Fr n0 L ∧ h = h0) := by
  refine Ctr.of (plainFor_of_name pn_java_util_Optional) (fun m => ef_m10_isEmpty m x1) ?_
  intro p e s m below meth c T0 hx hZ hby hml hown hnm hret hlk X0 e0
  have N0 := Fr.nil n0
  show Aw p e below _ T0 m 0 #[rv x1] []
  refine Rch.go (fun t k => XS.aloadN X0.here hx rfl (hb hby d6_0) rfl rfl k) ?_
  show Aw p e below _ T0 m 1 #[rv x1] [(.ref x1)]
  obtain ⟨T1, X1, e1, st1⟩ := getF X0 hx hZ hown (host := "") (Or.inl (wd_223 hw)) Via.refl e0 (P1.ext O0.2) (g := (mkF m 1 #[rv x1] [(.ref x1)])) rfl rfl (hb hby d6_1)
  refine Rch.go st1 ?_
  show Aw p e below _ T1 m 4 #[rv x1] [.null]
  refine Rch.go (fun t k => XS.ifnonnullNo X1.here hx rfl (hb hby d6_4) rfl (XS.iconst X1.here hx rfl (hb hby d6_7) (XS.goto X1.here hx rfl (pc0 := 8) (pc' := 12) rfl (hb hby d6_8) (by decide) (by decide) k))) ?_
  show Aw p e below _ T1 m 12 #[rv x1] [(.int 1)]
  refine Rch.val X1 hx (t := .boolean) hret hlk rfl (mayI (by simp)) (hb hby d6_12) (by decide) (by decide) ?_
  try rw [e1]
  exact ⟨rfl, N0, rfl⟩
theorem d0_31 : decode prog_9_method_6_code 31 = .ok (.iload_n 3, 1) := by decide +kernel
theorem d0_32 : decode prog_9_method_6_code 32 = .ok (.aload_n 0, 1) := by decide +kernel
theorem d0_33 : decode prog_9_method_6_code 33 = .ok (.getfield 39, 3) := by decide +kernel
theorem wd_105 {Z a0} (hw : HW Z a0) : (Cond.fieldLink s2' (39 : Nat) s2' "children" "Ljava/util/List;").before a0 Z = true := hw.at 105 rfl
theorem d0_36 : decode prog_9_method_6_code 36 = .ok (.invokeinterface 75 1, 5) := by decide +kernel
theorem wd_250 {Z a0} (hw : HW Z a0) : (Cond.methodLink s2' (75 : Nat) ⟨"java/util/List", "size", "()I"⟩).before a0 Z = true := hw.at 250 rfl
theorem d8_0 : decode jdk_45_method_3_code 0 = .ok (.aload_n 0, 1) := by decide +kernel
theorem d8_1 : decode jdk_45_method_3_code 1 = .ok (.getfield 7, 3) := by decide +kernel
theorem wd_276 {Z a0} (hw : HW Z a0) : (Cond.fieldLink s8' (7 : Nat) s8' "elements" s4').before a0 Z = true := hw.at 276 rfl
theorem d8_4 : decode jdk_45_method_3_code 4 = .ok (.arraylength, 1) := by decide +kernel
theorem d8_5 : decode jdk_45_method_3_code 5 = .ok (.ireturn, 1) := by decide +kernel
theorem pn_java_util_ImmutableCollections_ListN : plainName s8' = true := by first | (simp [plainName, overriddenIn]; done) | decide +kernel
theorem ef_m11_size (m : MethodId) (x1 : Addr) : entryFrame m #[(.ref x1)] 1 = mkF m 0 #[rv x1] [] := by first | rfl | (simp [entryFrame, mkF, argsToLocals, Value.category]; done)
theorem m11_size (l : Launch) (Z : State) (a0 : Array Value) (hw : HW Z a0) (x1 x2 : Addr) (kk3 : ClassId) (h0 : Heap) (n0 : Nat) (Z0 : n0 ≤ h0.size) (O0 : Old Z n0 h0) (P1 : Fld Z Z.heap x1 s8' "elements" s4' (.ref x2)) (P2 : Arv Z Z.heap x2 kk3 (.object "java/lang/Object") (0 : Int32) [] .null) :
    Ctr l Z [] (⟨s8', "size", "()I"⟩ : MethodName) jdk_45_method_3_code 1 (some .int) #[(.ref x1)] h0 ({ frames := 0, cells := 0, slots := 0, locals := 0 } : Room) (fun v h L => v = some (.int 0) ∧ Fr n0 L ∧ h = h0) := by
  refine Ctr.of (plainFor_of_name pn_java_util_ImmutableCollections_ListN) (fun m => ef_m11_size m x1) ?_
  intro p e s m below meth c T0 hx hZ hby hml hown hnm hret hlk X0 e0
  have N0 := Fr.nil n0
  show Aw p e below _ T0 m 0 #[rv x1] []
  refine Rch.go (fun t k => XS.aloadN X0.here hx rfl (hb hby d8_0) rfl rfl k) ?_
  show Aw p e below _ T0 m 1 #[rv x1] [(.ref x1)]
  obtain ⟨T1, X1, e1, st1⟩ := getF X0 hx hZ hown (host := "") (Or.inl (wd_276 hw)) Via.refl e0 (P1.ext O0.2) (g := (mkF m 1 #[rv x1] [(.ref x1)])) rfl rfl (hb hby d8_1)
  refine Rch.go st1 ?_
  show Aw p e below _ T1 m 4 #[rv x1] [(.ref x2)]
  obtain ⟨c2, r2, q2, s2, u2, H2, G2⟩ := id (P2.ext O0.2)
  refine Rch.go (fun t k => X1.arraylength hx (by rw [e1]; exact r2.1) (State.isArrayOf_alike hZ.alike r2.2.1) (g := (mkF m 4 #[rv x1] [(.ref x2)])) rfl rfl (hb hby d8_4) t (by rw [len_of s2 u2]; exact k)) ?_
  show Aw p e below _ T1 m 5 #[rv x1] [(.int 0)]
  refine Rch.val X1 hx (t := .int) hret hlk rfl (mayI (by simp)) (hb hby d8_5) (by decide) (by decide) ?_
  try rw [e1]
  exact ⟨rfl, N0, rfl⟩
theorem wd_275 {Z a0} (hw : HW Z a0) : (Cond.code ⟨s8', "size", "()I"⟩ jdk_45_method_3_code (1 : Nat) (Option.some FieldType.int)).before a0 Z = true := hw.at 275 rfl
theorem wd_274 {Z a0} (hw : HW Z a0) : (Cond.initialized s8').before a0 Z = true := hw.at 274 rfl
theorem pd_7 : parseMethodDescriptor "()I" = some ⟨[], some .int⟩ := by decide +kernel
theorem wd_251 {Z a0} (hw : HW Z a0) : (Cond.declares ⟨"java/util/List", "size", "()I"⟩).before a0 Z = true := hw.at 251 rfl
theorem wd_252 {Z a0} (hw : HW Z a0) : (Cond.interfaceMethod "java/util/List" "java/util/List" "size" "()I").before a0 Z = true := hw.at 252 rfl
theorem wd_269 {Z a0} (hw : HW Z a0) : (Cond.selects s8' ⟨"java/util/List", "size", "()I"⟩ ⟨s8', "size", "()I"⟩).before a0 Z = true := hw.at 269 rfl
theorem wd_270 {Z a0} (hw : HW Z a0) : (Cond.instanceMethod ⟨s8', "size", "()I"⟩).before a0 Z = true := hw.at 270 rfl
theorem wd_271 {Z a0} (hw : HW Z a0) : (Cond.publicMethod ⟨s8', "size", "()I"⟩).before a0 Z = true := hw.at 271 rfl
theorem wd_272 {Z a0} (hw : HW Z a0) : (Cond.unhidden s8' "size" "()I").before a0 Z = true := hw.at 272 rfl
theorem wd_273 {Z a0} (hw : HW Z a0) : (Cond.castable s8' "java/util/List").before a0 Z = true := hw.at 273 rfl
theorem d0_41 : decode prog_9_method_6_code 41 = .ok (.if_icmp .ge 27, 3) := by decide +kernel
theorem ef_find_0 (m : MethodId) (xx sq : Addr) : entryFrame m #[(.ref xx), (.ref sq)] 4 = mkF m 0 #[rv xx, rv sq, uu, uu] [] := by first | rfl | (simp [entryFrame, mkF, argsToLocals, Value.category]; done)
theorem find_0 (l : Launch) (Z : State) (a0 : Array Value) (hw : HW Z a0) (xx sq ss el em oe : Addr) (ch cq : Int32) (h0 : Heap) (n0 : Nat) (Z0 : n0 ≤ h0.size) (O0 : Old Z n0 h0) (PO : Oz Z el em oe) (P1 : Exa Z h0 xx s2') (P2 : Fld Z h0 xx s2' "value" "Ljava/lang/String;" (.ref ss)) (P3 : Sg Z h0 ss ch) (P4 : Sg Z h0 sq cq) (P5 : ss ≠ sq) (P6 : ¬ ((nar .byte (ch.toInt8.toInt32)) = (nar .byte (cq.toInt8.toInt32)))) (P7 : Fld Z h0 xx s2' "children" "Ljava/util/List;" (.ref el)) :
    Ctr l Z [] (⟨s2', "find", s9'⟩ : MethodName) prog_9_method_6_code 4 (some (.object "java/util/Optional")) #[(.ref xx), (.ref sq)] h0 ({ frames := 2, cells := 0, slots := 0, locals := 28 } : Room) (FQ Z n0 h0 .null) := by
  refine Ctr.of (plainFor_of_name pn_com_example_harpocrates_harpocrates_data_Taxonomy) (fun m => ef_find_0 m xx sq) ?_
  intro p e s m below meth c T0 hx hZ hby hml hown hnm hret hlk X0 e0
  have N0 := Fr.nil n0
  obtain ⟨ar, kk, ww, go1, go2, go3, go4, go5, go6, go7, go8, go9⟩ := PO
  obtain ⟨bs, ks, sgE, sgV, sgC, sgA, -⟩ := P3
  obtain ⟨bq, kq, sqE, sqV, sqC, sqA, sqL⟩ := P4
  show Aw p e below _ T0 m 0 #[rv xx, rv sq, uu, uu] []
  refine Rch.go (fun t k => XS.aloadN X0.here hx rfl (hb hby d0_0) rfl rfl k) ?_
  show Aw p e below _ T0 m 1 #[rv xx, rv sq, uu, uu] [(.ref xx)]
  obtain ⟨T1, X1, e1, st1⟩ := getF X0 hx hZ hown (host := "") (Or.inl (wd_103 hw)) Via.refl e0 P2 (g := (mkF m 1 #[rv xx, rv sq, uu, uu] [(.ref xx)])) rfl rfl (hb hby d0_1)
  refine Rch.go st1 ?_
  show Aw p e below _ T1 m 4 #[rv xx, rv sq, uu, uu] [(.ref ss)]
  refine Rch.go (fun t k => XS.aloadN X1.here hx rfl (hb hby d0_4) rfl rfl k) ?_
  show Aw p e below _ T1 m 5 #[rv xx, rv sq, uu, uu] [(.ref sq), (.ref ss)]
  obtain ⟨v2, T2, L2, X2, Q2, st2⟩ := callVi X1 hx hZ (m7_equals l Z a0 hw ss sq ww bs bq ks (nar .byte (ch.toInt8.toInt32)) kq (nar .byte (cq.toInt8.toInt32)) h0 n0 Z0 O0 P5 sqE go8 go9 sgC sqC sgV sqV sgA sqA P6) e1 hown (wd_203 hw) (wd_204 hw) (wd_206 hw) (notFace_of_selects (args := #[]) (mvT hZ (wd_206 hw))) (wd_205 hw) (wd_207 hw) (wd_5 hw) (by decide) (hb hby d0_5) 0 (by decide) (by decide) (by decide) (by decide) (by rw [hml]; rfl) ss sgE [(.ref sq)] [] rfl (lenOf pd_1 rfl) rfl (Nat.le_of_eq rfl) (Ls := #[rv xx, rv sq, uu, uu])
  obtain ⟨rfl, M2, e2⟩ := Q2
  have N2 := Fr.app N0 M2
  refine Rch.go st2 ?_
  show Aw p e below _ T2 m 8 #[rv xx, rv sq, uu, uu] [(.int 0)]
  refine Rch.go (fun t k => XS.ifYes X2.here hx rfl (pc0 := 8) (pc' := 18) rfl (hb hby d0_8) rfl (by decide) (by decide) (by decide) k) ?_
  show Aw p e below _ T2 m 18 #[rv xx, rv sq, uu, uu] []
  obtain ⟨v3, T3, L3, X3, Q3, st3⟩ := callSt X2 hx hZ (m9_empty l Z a0 hw oe h0 n0 Z0 O0 go5) e2 hown (wd_246 hw) (wd_247 hw) (wd_248 hw) (wd_213 hw) (by decide) (hb hby d0_18) 0 (by decide) (by decide) (by decide) (by decide) (by rw [hml]; rfl) [] [] rfl (lenOf pd_6 rfl) rfl (Nat.le_of_eq rfl) (Ls := #[rv xx, rv sq, uu, uu])
  obtain ⟨rfl, M3, e3⟩ := Q3
  have N3 := Fr.app N2 M3
  refine Rch.go st3 ?_
  show Aw p e below _ T3 m 21 #[rv xx, rv sq, uu, uu] [(.ref oe)]
  refine Rch.go (fun t k => XS.astoreN X3.here hx rfl (hb hby d0_21) rfl rfl (l' := #[rv xx, rv sq, rv oe, uu]) rfl (XS.iconst X3.here hx rfl (hb hby d0_22) (XS.istoreN X3.here hx rfl (hb hby d0_23) rfl  (l' := #[rv xx, rv sq, rv oe, iv 0]) rfl (XS.aloadN X3.here hx rfl (hb hby d0_24) rfl rfl k)))) ?_
  show Aw p e below _ T3 m 25 #[rv xx, rv sq, rv oe, iv 0] [(.ref oe)]
  obtain ⟨v4, T4, L4, X4, Q4, st4⟩ := callVi X3 hx hZ (m10_isEmpty l Z a0 hw oe h0 n0 Z0 O0 go7) e3 hown (wd_225 hw) (wd_226 hw) (wd_228 hw) (notFace_of_selects (args := #[]) (mvT hZ (wd_228 hw))) (wd_227 hw) (wd_229 hw) (wd_213 hw) (by decide) (hb hby d0_25) 0 (by decide) (by decide) (by decide) (by decide) (by rw [hml]; rfl) oe (go6.ext O0.2) [] [] rfl (lenOf pd_5 rfl) rfl (Nat.le_of_eq rfl) (Ls := #[rv xx, rv sq, rv oe, iv 0])
  obtain ⟨rfl, M4, e4⟩ := Q4
  have N4 := Fr.app N3 M4
  refine Rch.go st4 ?_
  show Aw p e below _ T4 m 28 #[rv xx, rv sq, rv oe, iv 0] [(.int 1)]
  refine Rch.go (fun t k => XS.ifNo X4.here hx rfl (hb hby d0_28) rfl (by decide) (XS.iloadN X4.here hx rfl (hb hby d0_31) rfl  (XS.aloadN X4.here hx rfl (hb hby d0_32) rfl rfl k))) ?_
  show Aw p e below _ T4 m 33 #[rv xx, rv sq, rv oe, iv 0] [(.ref xx), (.int 0)]
  obtain ⟨T5, X5, e5, st5⟩ := getF X4 hx hZ hown (host := "") (Or.inl (wd_105 hw)) Via.refl e4 P7 (g := (mkF m 33 #[rv xx, rv sq, rv oe, iv 0] [(.ref xx), (.int 0)])) rfl rfl (hb hby d0_33)
  refine Rch.go st5 ?_
  show Aw p e below _ T5 m 36 #[rv xx, rv sq, rv oe, iv 0] [(.ref el), (.int 0)]
  obtain ⟨v6, T6, L6, X6, Q6, st6⟩ := callIf X5 hx hZ (m11_size l Z a0 hw el ar kk h0 n0 Z0 O0 go2 go3) e5 hown (wd_250 hw) (wd_251 hw) (wd_252 hw) (wd_269 hw) (wd_270 hw) (wd_271 hw) (wd_272 hw) (wd_273 hw) (wd_275 hw) (wd_274 hw) (by decide) (hb hby d0_36) 1 (by decide) (by decide) (by decide) (by decide) (by rw [hml]; rfl) el (go1.ext O0.2) [] [(.int 0)] rfl (lenOf pd_7 rfl) rfl (Nat.le_of_eq rfl) (Ls := #[rv xx, rv sq, rv oe, iv 0])
  obtain ⟨rfl, M6, e6⟩ := Q6
  have N6 := Fr.app N4 M6
  refine Rch.go st6 ?_
  show Aw p e below _ T6 m 41 #[rv xx, rv sq, rv oe, iv 0] [(.int 0), (.int 0)]
  refine Rch.go (fun t k => XS.icmpYes X6.here hx rfl (pc0 := 41) (pc' := 68) rfl (hb hby d0_41) rfl (by decide) (by decide) (by decide) (XS.aloadN X6.here hx rfl (hb hby d0_68) rfl rfl k)) ?_
  show Aw p e below _ T6 m 69 #[rv xx, rv sq, rv oe, iv 0] [(.ref oe)]
  refine Rch.val X6 hx (t := (.object "java/util/Optional")) hret hlk rfl (Or.inr (Or.inr (Or.inr (Or.inr ⟨rfl, rfl, rfl⟩)))) (hb hby d0_69) (by decide) (by decide) ?_
  try rw [e6]
  exact ⟨oe, rfl, N6, (Keep.refl _ _), (go6.ext O0.2), (go7.ext O0.2)⟩
abbrev RA : Room := ({ frames := 3, cells := 1, slots := 1, locals := 38 } : Room)
theorem d9_0 : decode jdk_44_method_3_code 0 = .ok (.aload_n 0, 1) := by decide +kernel
theorem d9_1 : decode jdk_44_method_3_code 1 = .ok (.getfield 24, 3) := by decide +kernel
theorem wd_196 {Z a0} (hw : HW Z a0) : (Cond.fieldLink s3' (24 : Nat) s3' "e1" "Ljava/lang/Object;").before a0 Z = true := hw.at 196 rfl
theorem d9_4 : decode jdk_44_method_3_code 4 = .ok (.getstatic 19, 3) := by decide +kernel
theorem wd_195 {Z a0} (hw : HW Z a0) : (Cond.fieldLinkNest s3' (19 : Nat) s5' "EMPTY" "Ljava/lang/Object;" s5').before a0 Z = true := hw.at 195 rfl
theorem d9_7 : decode jdk_44_method_3_code 7 = .ok (.if_acmp .eq 7, 3) := by decide +kernel
theorem d9_14 : decode jdk_44_method_3_code 14 = .ok (.iconst 1, 1) := by decide +kernel
theorem d9_15 : decode jdk_44_method_3_code 15 = .ok (.ireturn, 1) := by decide +kernel
theorem pn_java_util_ImmutableCollections_List12 : plainName s3' = true := by first | (simp [plainName, overriddenIn]; done) | decide +kernel
theorem ef_m12_size (m : MethodId) (x1 : Addr) : entryFrame m #[(.ref x1)] 1 = mkF m 0 #[rv x1] [] := by first | rfl | (simp [entryFrame, mkF, argsToLocals, Value.category]; done)
theorem m12_size (l : Launch) (Z : State) (a0 : Array Value) (hw : HW Z a0) (x1 x2 : Addr) (h0 : Heap) (n0 : Nat) (Z0 : n0 ≤ h0.size) (O0 : Old Z n0 h0) (P1 : Fld Z h0 x1 s3' "e1" "Ljava/lang/Object;" (.ref x2)) (P2 : Sta Z Z.heap s5' "EMPTY" "Ljava/lang/Object;" (.ref x2)) :
    Ctr l Z [] (⟨s3', "size", "()I"⟩ : MethodName) jdk_44_method_3_code 1 (some .int) #[(.ref x1)] h0 ({ frames := 0, cells := 0, slots := 0, locals := 0 } : Room) (fun v h L => v = some (.int 1) ∧ Fr n0 L ∧ h = h0) := by
  refine Ctr.of (plainFor_of_name pn_java_util_ImmutableCollections_List12) (fun m => ef_m12_size m x1) ?_
  intro p e s m below meth c T0 hx hZ hby hml hown hnm hret hlk X0 e0
  have N0 := Fr.nil n0
  show Aw p e below _ T0 m 0 #[rv x1] []
  refine Rch.go (fun t k => XS.aloadN X0.here hx rfl (hb hby d9_0) rfl rfl k) ?_
  show Aw p e below _ T0 m 1 #[rv x1] [(.ref x1)]
  obtain ⟨T1, X1, e1, st1⟩ := getF X0 hx hZ hown (host := "") (Or.inl (wd_196 hw)) Via.refl e0 P1 (g := (mkF m 1 #[rv x1] [(.ref x1)])) rfl rfl (hb hby d9_1)
  refine Rch.go st1 ?_
  show Aw p e below _ T1 m 4 #[rv x1] [(.ref x2)]
  obtain ⟨T2, X2, e2, st2⟩ := getS2 X1 hx hZ hown (Or.inr (wd_195 hw)) Via.refl e1 (P2.ext O0.2) (g := (mkF m 4 #[rv x1] [(.ref x2)])) rfl (hb hby d9_4)
  refine Rch.go st2 ?_
  show Aw p e below _ T2 m 7 #[rv x1] [(.ref x2), (.ref x2)]
  refine Rch.go (fun t k => acmp X2 hx rfl (x := (.ref x2)) (y := (.ref x2)) rfl rfl (pc0 := 7) (pc' := 14) (same := true) rfl (hb hby d9_7) rfl (decide_eq_true rfl) (by decide) (by decide) (XS.iconst X2.here hx rfl (hb hby d9_14) k)) ?_
  show Aw p e below _ T2 m 15 #[rv x1] [(.int 1)]
  refine Rch.val X2 hx (t := .int) hret hlk rfl (mayI (by simp)) (hb hby d9_15) (by decide) (by decide) ?_
  try rw [e2]
  exact ⟨rfl, N0, rfl⟩
theorem wd_258 {Z a0} (hw : HW Z a0) : (Cond.code ⟨s3', "size", "()I"⟩ jdk_44_method_3_code (1 : Nat) (Option.some FieldType.int)).before a0 Z = true := hw.at 258 rfl
theorem wd_171 {Z a0} (hw : HW Z a0) : (Cond.initialized s3').before a0 Z = true := hw.at 171 rfl
theorem wd_253 {Z a0} (hw : HW Z a0) : (Cond.selects s3' ⟨"java/util/List", "size", "()I"⟩ ⟨s3', "size", "()I"⟩).before a0 Z = true := hw.at 253 rfl
theorem wd_254 {Z a0} (hw : HW Z a0) : (Cond.instanceMethod ⟨s3', "size", "()I"⟩).before a0 Z = true := hw.at 254 rfl
theorem wd_255 {Z a0} (hw : HW Z a0) : (Cond.publicMethod ⟨s3', "size", "()I"⟩).before a0 Z = true := hw.at 255 rfl
theorem wd_256 {Z a0} (hw : HW Z a0) : (Cond.unhidden s3' "size" "()I").before a0 Z = true := hw.at 256 rfl
theorem wd_257 {Z a0} (hw : HW Z a0) : (Cond.castable s3' "java/util/List").before a0 Z = true := hw.at 257 rfl
theorem d0_44 : decode prog_9_method_6_code 44 = .ok (.aload_n 0, 1) := by decide +kernel
theorem d0_45 : decode prog_9_method_6_code 45 = .ok (.getfield 39, 3) := by decide +kernel
theorem d0_48 : decode prog_9_method_6_code 48 = .ok (.iload_n 3, 1) := by decide +kernel
theorem d0_49 : decode prog_9_method_6_code 49 = .ok (.invokeinterface 79 2, 5) := by decide +kernel
theorem wd_259 {Z a0} (hw : HW Z a0) : (Cond.methodLink s2' (79 : Nat) ⟨"java/util/List", "get", "(I)Ljava/lang/Object;"⟩).before a0 Z = true := hw.at 259 rfl
theorem d10_0 : decode jdk_44_method_5_code 0 = .ok (.iload_n 1, 1) := by decide +kernel
theorem d10_1 : decode jdk_44_method_5_code 1 = .ok (.ifCond .ne 8, 3) := by decide +kernel
theorem d10_4 : decode jdk_44_method_5_code 4 = .ok (.aload_n 0, 1) := by decide +kernel
theorem d10_5 : decode jdk_44_method_5_code 5 = .ok (.getfield 13, 3) := by decide +kernel
theorem wd_193 {Z a0} (hw : HW Z a0) : (Cond.fieldLink s3' (13 : Nat) s3' "e0" "Ljava/lang/Object;").before a0 Z = true := hw.at 193 rfl
theorem d10_8 : decode jdk_44_method_5_code 8 = .ok (.areturn, 1) := by decide +kernel
theorem ef_m13_get (m : MethodId) (x1 : Addr) : entryFrame m #[(.ref x1), (.int 0)] 2 = mkF m 0 #[rv x1, iv 0] [] := by first | rfl | (simp [entryFrame, mkF, argsToLocals, Value.category]; done)
theorem m13_get (l : Launch) (Z : State) (a0 : Array Value) (hw : HW Z a0) (x1 x2 : Addr) (h0 : Heap) (n0 : Nat) (Z0 : n0 ≤ h0.size) (O0 : Old Z n0 h0) (P1 : Fld Z h0 x1 s3' "e0" "Ljava/lang/Object;" (.ref x2)) :
    Ctr l Z [] (⟨s3', "get", "(I)Ljava/lang/Object;"⟩ : MethodName) jdk_44_method_5_code 2 (some (.object "java/lang/Object")) #[(.ref x1), (.int 0)] h0 ({ frames := 0, cells := 0, slots := 0, locals := 0 } : Room) (fun v h L => v = some (.ref x2) ∧ Fr n0 L ∧ h = h0) := by
  refine Ctr.of (plainFor_of_name pn_java_util_ImmutableCollections_List12) (fun m => ef_m13_get m x1) ?_
  intro p e s m below meth c T0 hx hZ hby hml hown hnm hret hlk X0 e0
  have N0 := Fr.nil n0
  show Aw p e below _ T0 m 0 #[rv x1, iv 0] []
  refine Rch.go (fun t k => XS.iloadN X0.here hx rfl (hb hby d10_0) rfl  (XS.ifNo X0.here hx rfl (hb hby d10_1) rfl (by decide) (XS.aloadN X0.here hx rfl (hb hby d10_4) rfl rfl k))) ?_
  show Aw p e below _ T0 m 5 #[rv x1, iv 0] [(.ref x1)]
  obtain ⟨T1, X1, e1, st1⟩ := getF X0 hx hZ hown (host := "") (Or.inl (wd_193 hw)) Via.refl e0 P1 (g := (mkF m 5 #[rv x1, iv 0] [(.ref x1)])) rfl rfl (hb hby d10_5)
  refine Rch.go st1 ?_
  show Aw p e below _ T1 m 8 #[rv x1, iv 0] [(.ref x2)]
  refine Rch.val X1 hx (t := (.object "java/lang/Object")) hret hlk rfl (Or.inr (Or.inr (Or.inr (Or.inr ⟨rfl, rfl, rfl⟩)))) (hb hby d10_8) (by decide) (by decide) ?_
  try rw [e1]
  exact ⟨rfl, N0, rfl⟩
theorem wd_266 {Z a0} (hw : HW Z a0) : (Cond.code ⟨s3', "get", "(I)Ljava/lang/Object;"⟩ jdk_44_method_5_code (2 : Nat) (Option.some (FieldType.object "java/lang/Object"))).before a0 Z = true := hw.at 266 rfl
theorem pd_8 : parseMethodDescriptor "(I)Ljava/lang/Object;" = some ⟨[.int], some (.object "java/lang/Object")⟩ := by decide +kernel
theorem wd_260 {Z a0} (hw : HW Z a0) : (Cond.declares ⟨"java/util/List", "get", "(I)Ljava/lang/Object;"⟩).before a0 Z = true := hw.at 260 rfl
theorem wd_261 {Z a0} (hw : HW Z a0) : (Cond.interfaceMethod "java/util/List" "java/util/List" "get" "(I)Ljava/lang/Object;").before a0 Z = true := hw.at 261 rfl
theorem wd_262 {Z a0} (hw : HW Z a0) : (Cond.selects s3' ⟨"java/util/List", "get", "(I)Ljava/lang/Object;"⟩ ⟨s3', "get", "(I)Ljava/lang/Object;"⟩).before a0 Z = true := hw.at 262 rfl
theorem wd_263 {Z a0} (hw : HW Z a0) : (Cond.instanceMethod ⟨s3', "get", "(I)Ljava/lang/Object;"⟩).before a0 Z = true := hw.at 263 rfl
theorem wd_264 {Z a0} (hw : HW Z a0) : (Cond.publicMethod ⟨s3', "get", "(I)Ljava/lang/Object;"⟩).before a0 Z = true := hw.at 264 rfl
theorem wd_265 {Z a0} (hw : HW Z a0) : (Cond.unhidden s3' "get" "(I)Ljava/lang/Object;").before a0 Z = true := hw.at 265 rfl
theorem d0_54 : decode prog_9_method_6_code 54 = .ok (.checkcast 35, 3) := by decide +kernel
theorem wd_267 {Z a0} (hw : HW Z a0) : (Cond.classLink s2' (35 : Nat) s2').before a0 Z = true := hw.at 267 rfl
theorem d0_57 : decode prog_9_method_6_code 57 = .ok (.aload_n 1, 1) := by decide +kernel
theorem d0_58 : decode prog_9_method_6_code 58 = .ok (.invokevirtual 83, 3) := by decide +kernel
theorem wd_268 {Z a0} (hw : HW Z a0) : (Cond.methodLink s2' (83 : Nat) ⟨s2', "find", s9'⟩).before a0 Z = true := hw.at 268 rfl
theorem wd_202 {Z a0} (hw : HW Z a0) : (Cond.code ⟨s2', "find", s9'⟩ prog_9_method_6_code (4 : Nat) (Option.some (FieldType.object "java/util/Optional"))).before a0 Z = true := hw.at 202 rfl
theorem wd_2 {Z a0} (hw : HW Z a0) : (Cond.initialized s2').before a0 Z = true := hw.at 2 rfl
theorem pd_9 : parseMethodDescriptor s9' = some ⟨[(.object "java/lang/String")], some (.object "java/util/Optional")⟩ := by decide +kernel
theorem wd_201 {Z a0} (hw : HW Z a0) : (Cond.selects s2' ⟨s2', "find", s9'⟩ ⟨s2', "find", s9'⟩).before a0 Z = true := hw.at 201 rfl
theorem wd_199 {Z a0} (hw : HW Z a0) : (Cond.declares ⟨s2', "find", s9'⟩).before a0 Z = true := hw.at 199 rfl
theorem wd_200 {Z a0} (hw : HW Z a0) : (Cond.instanceMethod ⟨s2', "find", s9'⟩).before a0 Z = true := hw.at 200 rfl
theorem d0_61 : decode prog_9_method_6_code 61 = .ok (.astore_n 2, 1) := by decide +kernel
theorem d0_62 : decode prog_9_method_6_code 62 = .ok (.iinc 3 1, 3) := by decide +kernel
theorem d0_65 : decode prog_9_method_6_code 65 = .ok (.goto (-41), 3) := by decide +kernel
theorem ef_m14_isEmpty (m : MethodId) (x1 : Addr) : entryFrame m #[(.ref x1)] 1 = mkF m 0 #[rv x1] [] := by first | rfl | (simp [entryFrame, mkF, argsToLocals, Value.category]; done)
theorem m14_isEmpty (l : Launch) (Z : State) (a0 : Array Value) (hw : HW Z a0) (x1 : Addr) (h0 : Heap) (n0 : Nat) (Z0 : n0 ≤ h0.size) (O0 : Old Z n0 h0) (P1 : Fld Z h0 x1 "java/util/Optional" "value" "Ljava/lang/Object;" .null) :
    Ctr l Z [] (⟨"java/util/Optional", "isEmpty", "()Z"⟩ : MethodName) jdk_32_method_7_code 1 (some .boolean) #[(.ref x1)] h0 ({ frames := 0, cells := 0, slots := 0, locals := 0 } : Room) (fun v h L => v = some (.int 1) ∧ Fr n0 L ∧ h = h0) := by
  refine Ctr.of (plainFor_of_name pn_java_util_Optional) (fun m => ef_m14_isEmpty m x1) ?_
  intro p e s m below meth c T0 hx hZ hby hml hown hnm hret hlk X0 e0
  have N0 := Fr.nil n0
  show Aw p e below _ T0 m 0 #[rv x1] []
  refine Rch.go (fun t k => XS.aloadN X0.here hx rfl (hb hby d6_0) rfl rfl k) ?_
  show Aw p e below _ T0 m 1 #[rv x1] [(.ref x1)]
  obtain ⟨T1, X1, e1, st1⟩ := getF X0 hx hZ hown (host := "") (Or.inl (wd_223 hw)) Via.refl e0 P1 (g := (mkF m 1 #[rv x1] [(.ref x1)])) rfl rfl (hb hby d6_1)
  refine Rch.go st1 ?_
  show Aw p e below _ T1 m 4 #[rv x1] [.null]
  refine Rch.go (fun t k => XS.ifnonnullNo X1.here hx rfl (hb hby d6_4) rfl (XS.iconst X1.here hx rfl (hb hby d6_7) (XS.goto X1.here hx rfl (pc0 := 8) (pc' := 12) rfl (hb hby d6_8) (by decide) (by decide) k))) ?_
  show Aw p e below _ T1 m 12 #[rv x1] [(.int 1)]
  refine Rch.val X1 hx (t := .boolean) hret hlk rfl (mayI (by simp)) (hb hby d6_12) (by decide) (by decide) ?_
  try rw [e1]
  exact ⟨rfl, N0, rfl⟩
theorem ef_find_1A (m : MethodId) (xx sq : Addr) : entryFrame m #[(.ref xx), (.ref sq)] 4 = mkF m 0 #[rv xx, rv sq, uu, uu] [] := by first | rfl | (simp [entryFrame, mkF, argsToLocals, Value.category]; done)
theorem find_1A (l : Launch) (Z : State) (a0 : Array Value) (hw : HW Z a0) (xx sq ss el em oe ll yy : Addr) (ch cq : Int32) (hE : Heap) (res : Value) (h0 : Heap) (n0 : Nat) (Z0 : n0 ≤ h0.size) (O0 : Old Z n0 h0) (PO : Oz Z el em oe) (P1 : Exa Z h0 xx s2') (P2 : Fld Z h0 xx s2' "value" "Ljava/lang/String;" (.ref ss)) (P3 : Sg Z h0 ss ch) (P4 : Sg Z h0 sq cq) (P5 : ss ≠ sq) (P6 : ¬ ((nar .byte (ch.toInt8.toInt32)) = (nar .byte (cq.toInt8.toInt32)))) (P7 : Fld Z h0 xx s2' "children" "Ljava/util/List;" (.ref ll)) (P8 : Exa Z h0 ll s3') (P9 : Fld Z h0 ll s3' "e0" "Ljava/lang/Object;" (.ref yy)) (P10 : Fld Z h0 ll s3' "e1" "Ljava/lang/Object;" (.ref em)) (PK : Keep hE h0 []) (PQ : hE.size ≤ sq) (PF1 : FC l Z RA n0 hE yy cq res) (hv : res.isRef = true) :
    Ctr l Z [] (⟨s2', "find", s9'⟩ : MethodName) prog_9_method_6_code 4 (some (.object "java/util/Optional")) #[(.ref xx), (.ref sq)] h0 ({ frames := 4, cells := 1, slots := 1, locals := 53 } : Room) (FQ Z n0 h0 res) := by
  refine Ctr.of (plainFor_of_name pn_com_example_harpocrates_harpocrates_data_Taxonomy) (fun m => ef_find_1A m xx sq) ?_
  intro p e s m below meth c T0 hx hZ hby hml hown hnm hret hlk X0 e0
  have N0 := Fr.nil n0
  obtain ⟨ar, kk, ww, go1, go2, go3, go4, go5, go6, go7, go8, go9⟩ := PO
  obtain ⟨bs, ks, sgE, sgV, sgC, sgA, -⟩ := P3
  obtain ⟨bq, kq, sqE, sqV, sqC, sqA, sqL⟩ := P4
  rcases ref_cases hv with rfl | ⟨rv', rfl⟩
  · show Aw p e below _ T0 m 0 #[rv xx, rv sq, uu, uu] []
    refine Rch.go (fun t k => XS.aloadN X0.here hx rfl (hb hby d0_0) rfl rfl k) ?_
    show Aw p e below _ T0 m 1 #[rv xx, rv sq, uu, uu] [(.ref xx)]
    obtain ⟨T1, X1, e1, st1⟩ := getF X0 hx hZ hown (host := "") (Or.inl (wd_103 hw)) Via.refl e0 P2 (g := (mkF m 1 #[rv xx, rv sq, uu, uu] [(.ref xx)])) rfl rfl (hb hby d0_1)
    refine Rch.go st1 ?_
    show Aw p e below _ T1 m 4 #[rv xx, rv sq, uu, uu] [(.ref ss)]
    refine Rch.go (fun t k => XS.aloadN X1.here hx rfl (hb hby d0_4) rfl rfl k) ?_
    show Aw p e below _ T1 m 5 #[rv xx, rv sq, uu, uu] [(.ref sq), (.ref ss)]
    obtain ⟨v2, T2, L2, X2, Q2, st2⟩ := callVi X1 hx hZ (m7_equals l Z a0 hw ss sq ww bs bq ks (nar .byte (ch.toInt8.toInt32)) kq (nar .byte (cq.toInt8.toInt32)) h0 n0 Z0 O0 P5 sqE go8 go9 sgC sqC sgV sqV sgA sqA P6) e1 hown (wd_203 hw) (wd_204 hw) (wd_206 hw) (notFace_of_selects (args := #[]) (mvT hZ (wd_206 hw))) (wd_205 hw) (wd_207 hw) (wd_5 hw) (by decide) (hb hby d0_5) 0 (by decide) (by decide) (by decide) (by decide) (by rw [hml]; rfl) ss sgE [(.ref sq)] [] rfl (lenOf pd_1 rfl) rfl (Nat.le_of_eq rfl) (Ls := #[rv xx, rv sq, uu, uu])
    obtain ⟨rfl, M2, e2⟩ := Q2
    have N2 := Fr.app N0 M2
    refine Rch.go st2 ?_
    show Aw p e below _ T2 m 8 #[rv xx, rv sq, uu, uu] [(.int 0)]
    refine Rch.go (fun t k => XS.ifYes X2.here hx rfl (pc0 := 8) (pc' := 18) rfl (hb hby d0_8) rfl (by decide) (by decide) (by decide) k) ?_
    show Aw p e below _ T2 m 18 #[rv xx, rv sq, uu, uu] []
    obtain ⟨v3, T3, L3, X3, Q3, st3⟩ := callSt X2 hx hZ (m9_empty l Z a0 hw oe h0 n0 Z0 O0 go5) e2 hown (wd_246 hw) (wd_247 hw) (wd_248 hw) (wd_213 hw) (by decide) (hb hby d0_18) 0 (by decide) (by decide) (by decide) (by decide) (by rw [hml]; rfl) [] [] rfl (lenOf pd_6 rfl) rfl (Nat.le_of_eq rfl) (Ls := #[rv xx, rv sq, uu, uu])
    obtain ⟨rfl, M3, e3⟩ := Q3
    have N3 := Fr.app N2 M3
    refine Rch.go st3 ?_
    show Aw p e below _ T3 m 21 #[rv xx, rv sq, uu, uu] [(.ref oe)]
    refine Rch.go (fun t k => XS.astoreN X3.here hx rfl (hb hby d0_21) rfl rfl (l' := #[rv xx, rv sq, rv oe, uu]) rfl (XS.iconst X3.here hx rfl (hb hby d0_22) (XS.istoreN X3.here hx rfl (hb hby d0_23) rfl  (l' := #[rv xx, rv sq, rv oe, iv 0]) rfl (XS.aloadN X3.here hx rfl (hb hby d0_24) rfl rfl k)))) ?_
    show Aw p e below _ T3 m 25 #[rv xx, rv sq, rv oe, iv 0] [(.ref oe)]
    obtain ⟨v4, T4, L4, X4, Q4, st4⟩ := callVi X3 hx hZ (m10_isEmpty l Z a0 hw oe h0 n0 Z0 O0 go7) e3 hown (wd_225 hw) (wd_226 hw) (wd_228 hw) (notFace_of_selects (args := #[]) (mvT hZ (wd_228 hw))) (wd_227 hw) (wd_229 hw) (wd_213 hw) (by decide) (hb hby d0_25) 0 (by decide) (by decide) (by decide) (by decide) (by rw [hml]; rfl) oe (go6.ext O0.2) [] [] rfl (lenOf pd_5 rfl) rfl (Nat.le_of_eq rfl) (Ls := #[rv xx, rv sq, rv oe, iv 0])
    obtain ⟨rfl, M4, e4⟩ := Q4
    have N4 := Fr.app N3 M4
    refine Rch.go st4 ?_
    show Aw p e below _ T4 m 28 #[rv xx, rv sq, rv oe, iv 0] [(.int 1)]
    refine Rch.go (fun t k => XS.ifNo X4.here hx rfl (hb hby d0_28) rfl (by decide) (XS.iloadN X4.here hx rfl (hb hby d0_31) rfl  (XS.aloadN X4.here hx rfl (hb hby d0_32) rfl rfl k))) ?_
    show Aw p e below _ T4 m 33 #[rv xx, rv sq, rv oe, iv 0] [(.ref xx), (.int 0)]
    obtain ⟨T5, X5, e5, st5⟩ := getF X4 hx hZ hown (host := "") (Or.inl (wd_105 hw)) Via.refl e4 P7 (g := (mkF m 33 #[rv xx, rv sq, rv oe, iv 0] [(.ref xx), (.int 0)])) rfl rfl (hb hby d0_33)
    refine Rch.go st5 ?_
    show Aw p e below _ T5 m 36 #[rv xx, rv sq, rv oe, iv 0] [(.ref ll), (.int 0)]
    obtain ⟨v6, T6, L6, X6, Q6, st6⟩ := callIf X5 hx hZ (m12_size l Z a0 hw ll em h0 n0 Z0 O0 P10 go4) e5 hown (wd_250 hw) (wd_251 hw) (wd_252 hw) (wd_253 hw) (wd_254 hw) (wd_255 hw) (wd_256 hw) (wd_257 hw) (wd_258 hw) (wd_171 hw) (by decide) (hb hby d0_36) 1 (by decide) (by decide) (by decide) (by decide) (by rw [hml]; rfl) ll P8 [] [(.int 0)] rfl (lenOf pd_7 rfl) rfl (Nat.le_of_eq rfl) (Ls := #[rv xx, rv sq, rv oe, iv 0])
    obtain ⟨rfl, M6, e6⟩ := Q6
    have N6 := Fr.app N4 M6
    refine Rch.go st6 ?_
    show Aw p e below _ T6 m 41 #[rv xx, rv sq, rv oe, iv 0] [(.int 1), (.int 0)]
    refine Rch.go (fun t k => XS.icmpNo X6.here hx rfl (hb hby d0_41) rfl (by decide) (XS.aloadN X6.here hx rfl (hb hby d0_44) rfl rfl k)) ?_
    show Aw p e below _ T6 m 45 #[rv xx, rv sq, rv oe, iv 0] [(.ref xx)]
    obtain ⟨T7, X7, e7, st7⟩ := getF X6 hx hZ hown (host := "") (Or.inl (wd_105 hw)) Via.refl e6 P7 (g := (mkF m 45 #[rv xx, rv sq, rv oe, iv 0] [(.ref xx)])) rfl rfl (hb hby d0_45)
    refine Rch.go st7 ?_
    show Aw p e below _ T7 m 48 #[rv xx, rv sq, rv oe, iv 0] [(.ref ll)]
    refine Rch.go (fun t k => XS.iloadN X7.here hx rfl (hb hby d0_48) rfl  k) ?_
    show Aw p e below _ T7 m 49 #[rv xx, rv sq, rv oe, iv 0] [(.int 0), (.ref ll)]
    obtain ⟨v8, T8, L8, X8, Q8, st8⟩ := callIf X7 hx hZ (m13_get l Z a0 hw ll yy h0 n0 Z0 O0 P9) e7 hown (wd_259 hw) (wd_260 hw) (wd_261 hw) (wd_262 hw) (wd_263 hw) (wd_264 hw) (wd_265 hw) (wd_257 hw) (wd_266 hw) (wd_171 hw) (by decide) (hb hby d0_49) 0 (by decide) (by decide) (by decide) (by decide) (by rw [hml]; rfl) ll P8 [(.int 0)] [] rfl (lenOf pd_8 rfl) rfl (Nat.le_of_eq rfl) (Ls := #[rv xx, rv sq, rv oe, iv 0])
    obtain ⟨rfl, M8, e8⟩ := Q8
    have N8 := Fr.app N6 M8
    refine Rch.go st8 ?_
    show Aw p e below _ T8 m 54 #[rv xx, rv sq, rv oe, iv 0] [(.ref yy)]
    obtain ⟨T9, X9, e9, st9⟩ := castY X8 hx hZ hown (wd_267 hw) e8 (Ins.self (PF1.1.keep PK)) (g := (mkF m 54 #[rv xx, rv sq, rv oe, iv 0] [(.ref yy)])) rfl rfl (hb hby d0_54)
    refine Rch.go st9 ?_
    show Aw p e below _ T9 m 57 #[rv xx, rv sq, rv oe, iv 0] [(.ref yy)]
    refine Rch.go (fun t k => XS.aloadN X9.here hx rfl (hb hby d0_57) rfl rfl k) ?_
    show Aw p e below _ T9 m 58 #[rv xx, rv sq, rv oe, iv 0] [(.ref sq), (.ref yy)]
    obtain ⟨v10, T10, L10, X10, Q10, st10⟩ := callVi X9 hx hZ (PF1.2.2 _ sq (PK.trans (Keep.refl _ _) all0) ⟨bq, kq, sqE, sqV, sqC, sqA, sqL⟩ PQ) e9 hown (wd_268 hw) (wd_199 hw) (wd_201 hw) (notFace_of_selects (args := #[]) (mvT hZ (wd_201 hw))) (wd_200 hw) (wd_202 hw) (wd_2 hw) (by decide) (hb hby d0_58) 0 (by decide) (by decide) (by decide) (by decide) (by rw [hml]; rfl) yy (PF1.1.keep PK) [(.ref sq)] [] rfl (lenOf pd_9 rfl) rfl (Nat.le_of_eq rfl) (Ls := #[rv xx, rv sq, rv oe, iv 0])
    obtain ⟨o10, rfl, M10, K10, E10, F10⟩ := Q10
    have N10 := Fr.app N8 M10
    refine Rch.go st10 ?_
    show Aw p e below _ T10 m 61 #[rv xx, rv sq, rv oe, iv 0] [(.ref o10)]
    refine Rch.go (fun t k => XS.astoreN X10.here hx rfl (hb hby d0_61) rfl rfl (l' := #[rv xx, rv sq, rv o10, iv 0]) rfl (XS.iinc X10.here hx rfl (hb hby d0_62) rfl (l' := #[rv xx, rv sq, rv o10, iv 1]) rfl (XS.goto X10.here hx rfl (pc0 := 65) (pc' := 24) rfl (hb hby d0_65) (by decide) (by decide) (XS.aloadN X10.here hx rfl (hb hby d0_24) rfl rfl k)))) ?_
    show Aw p e below _ T10 m 25 #[rv xx, rv sq, rv o10, iv 1] [(.ref o10)]
    have z11 := (Nat.le_trans Z0 K10.1)
    have o12 := (O0.keep K10 all0)
    obtain ⟨v13, T13, L13, X13, Q13, st13⟩ := callVi X10 hx hZ (m14_isEmpty l Z a0 hw o10 T10.heap n0 z11 o12 F10) rfl hown (wd_225 hw) (wd_226 hw) (wd_228 hw) (notFace_of_selects (args := #[]) (mvT hZ (wd_228 hw))) (wd_227 hw) (wd_229 hw) (wd_213 hw) (by decide) (hb hby d0_25) 0 (by decide) (by decide) (by decide) (by decide) (by rw [hml]; rfl) o10 E10 [] [] rfl (lenOf pd_5 rfl) rfl (Nat.le_of_eq rfl) (Ls := #[rv xx, rv sq, rv o10, iv 1])
    obtain ⟨rfl, M13, e13⟩ := Q13
    have N13 := Fr.app N10 M13
    refine Rch.go st13 ?_
    show Aw p e below _ T13 m 28 #[rv xx, rv sq, rv o10, iv 1] [(.int 1)]
    refine Rch.go (fun t k => XS.ifNo X13.here hx rfl (hb hby d0_28) rfl (by decide) (XS.iloadN X13.here hx rfl (hb hby d0_31) rfl  (XS.aloadN X13.here hx rfl (hb hby d0_32) rfl rfl k))) ?_
    show Aw p e below _ T13 m 33 #[rv xx, rv sq, rv o10, iv 1] [(.ref xx), (.int 1)]
    have f15 := (P7.keep K10 nin0)
    obtain ⟨T14, X14, e14, st14⟩ := getF X13 hx hZ hown (host := "") (Or.inl (wd_105 hw)) Via.refl e13 f15 (g := (mkF m 33 #[rv xx, rv sq, rv o10, iv 1] [(.ref xx), (.int 1)])) rfl rfl (hb hby d0_33)
    refine Rch.go st14 ?_
    show Aw p e below _ T14 m 36 #[rv xx, rv sq, rv o10, iv 1] [(.ref ll), (.int 1)]
    have f16 := (P10.keep K10 nin0)
    have f18 := (P8.keep K10)
    obtain ⟨v17, T17, L17, X17, Q17, st17⟩ := callIf X14 hx hZ (m12_size l Z a0 hw ll em T10.heap n0 z11 o12 f16 go4) e14 hown (wd_250 hw) (wd_251 hw) (wd_252 hw) (wd_253 hw) (wd_254 hw) (wd_255 hw) (wd_256 hw) (wd_257 hw) (wd_258 hw) (wd_171 hw) (by decide) (hb hby d0_36) 1 (by decide) (by decide) (by decide) (by decide) (by rw [hml]; rfl) ll f18 [] [(.int 1)] rfl (lenOf pd_7 rfl) rfl (Nat.le_of_eq rfl) (Ls := #[rv xx, rv sq, rv o10, iv 1])
    obtain ⟨rfl, M17, e17⟩ := Q17
    have N17 := Fr.app N13 M17
    refine Rch.go st17 ?_
    show Aw p e below _ T17 m 41 #[rv xx, rv sq, rv o10, iv 1] [(.int 1), (.int 1)]
    refine Rch.go (fun t k => XS.icmpYes X17.here hx rfl (pc0 := 41) (pc' := 68) rfl (hb hby d0_41) rfl (by decide) (by decide) (by decide) (XS.aloadN X17.here hx rfl (hb hby d0_68) rfl rfl k)) ?_
    show Aw p e below _ T17 m 69 #[rv xx, rv sq, rv o10, iv 1] [(.ref o10)]
    refine Rch.val X17 hx (t := (.object "java/util/Optional")) hret hlk rfl (Or.inr (Or.inr (Or.inr (Or.inr ⟨rfl, rfl, rfl⟩)))) (hb hby d0_69) (by decide) (by decide) ?_
    try rw [e17]
    exact ⟨o10, rfl, N17, ((Keep.refl _ _).trans K10 all0), E10, F10⟩
  · show Aw p e below _ T0 m 0 #[rv xx, rv sq, uu, uu] []
    refine Rch.go (fun t k => XS.aloadN X0.here hx rfl (hb hby d0_0) rfl rfl k) ?_
    show Aw p e below _ T0 m 1 #[rv xx, rv sq, uu, uu] [(.ref xx)]
    obtain ⟨T19, X19, e19, st19⟩ := getF X0 hx hZ hown (host := "") (Or.inl (wd_103 hw)) Via.refl e0 P2 (g := (mkF m 1 #[rv xx, rv sq, uu, uu] [(.ref xx)])) rfl rfl (hb hby d0_1)
    refine Rch.go st19 ?_
    show Aw p e below _ T19 m 4 #[rv xx, rv sq, uu, uu] [(.ref ss)]
    refine Rch.go (fun t k => XS.aloadN X19.here hx rfl (hb hby d0_4) rfl rfl k) ?_
    show Aw p e below _ T19 m 5 #[rv xx, rv sq, uu, uu] [(.ref sq), (.ref ss)]
    obtain ⟨v20, T20, L20, X20, Q20, st20⟩ := callVi X19 hx hZ (m7_equals l Z a0 hw ss sq ww bs bq ks (nar .byte (ch.toInt8.toInt32)) kq (nar .byte (cq.toInt8.toInt32)) h0 n0 Z0 O0 P5 sqE go8 go9 sgC sqC sgV sqV sgA sqA P6) e19 hown (wd_203 hw) (wd_204 hw) (wd_206 hw) (notFace_of_selects (args := #[]) (mvT hZ (wd_206 hw))) (wd_205 hw) (wd_207 hw) (wd_5 hw) (by decide) (hb hby d0_5) 0 (by decide) (by decide) (by decide) (by decide) (by rw [hml]; rfl) ss sgE [(.ref sq)] [] rfl (lenOf pd_1 rfl) rfl (Nat.le_of_eq rfl) (Ls := #[rv xx, rv sq, uu, uu])
    obtain ⟨rfl, M20, e20⟩ := Q20
    have N20 := Fr.app N0 M20
    refine Rch.go st20 ?_
    show Aw p e below _ T20 m 8 #[rv xx, rv sq, uu, uu] [(.int 0)]
    refine Rch.go (fun t k => XS.ifYes X20.here hx rfl (pc0 := 8) (pc' := 18) rfl (hb hby d0_8) rfl (by decide) (by decide) (by decide) k) ?_
    show Aw p e below _ T20 m 18 #[rv xx, rv sq, uu, uu] []
    obtain ⟨v21, T21, L21, X21, Q21, st21⟩ := callSt X20 hx hZ (m9_empty l Z a0 hw oe h0 n0 Z0 O0 go5) e20 hown (wd_246 hw) (wd_247 hw) (wd_248 hw) (wd_213 hw) (by decide) (hb hby d0_18) 0 (by decide) (by decide) (by decide) (by decide) (by rw [hml]; rfl) [] [] rfl (lenOf pd_6 rfl) rfl (Nat.le_of_eq rfl) (Ls := #[rv xx, rv sq, uu, uu])
    obtain ⟨rfl, M21, e21⟩ := Q21
    have N21 := Fr.app N20 M21
    refine Rch.go st21 ?_
    show Aw p e below _ T21 m 21 #[rv xx, rv sq, uu, uu] [(.ref oe)]
    refine Rch.go (fun t k => XS.astoreN X21.here hx rfl (hb hby d0_21) rfl rfl (l' := #[rv xx, rv sq, rv oe, uu]) rfl (XS.iconst X21.here hx rfl (hb hby d0_22) (XS.istoreN X21.here hx rfl (hb hby d0_23) rfl  (l' := #[rv xx, rv sq, rv oe, iv 0]) rfl (XS.aloadN X21.here hx rfl (hb hby d0_24) rfl rfl k)))) ?_
    show Aw p e below _ T21 m 25 #[rv xx, rv sq, rv oe, iv 0] [(.ref oe)]
    obtain ⟨v22, T22, L22, X22, Q22, st22⟩ := callVi X21 hx hZ (m10_isEmpty l Z a0 hw oe h0 n0 Z0 O0 go7) e21 hown (wd_225 hw) (wd_226 hw) (wd_228 hw) (notFace_of_selects (args := #[]) (mvT hZ (wd_228 hw))) (wd_227 hw) (wd_229 hw) (wd_213 hw) (by decide) (hb hby d0_25) 0 (by decide) (by decide) (by decide) (by decide) (by rw [hml]; rfl) oe (go6.ext O0.2) [] [] rfl (lenOf pd_5 rfl) rfl (Nat.le_of_eq rfl) (Ls := #[rv xx, rv sq, rv oe, iv 0])
    obtain ⟨rfl, M22, e22⟩ := Q22
    have N22 := Fr.app N21 M22
    refine Rch.go st22 ?_
    show Aw p e below _ T22 m 28 #[rv xx, rv sq, rv oe, iv 0] [(.int 1)]
    refine Rch.go (fun t k => XS.ifNo X22.here hx rfl (hb hby d0_28) rfl (by decide) (XS.iloadN X22.here hx rfl (hb hby d0_31) rfl  (XS.aloadN X22.here hx rfl (hb hby d0_32) rfl rfl k))) ?_
    show Aw p e below _ T22 m 33 #[rv xx, rv sq, rv oe, iv 0] [(.ref xx), (.int 0)]
    obtain ⟨T23, X23, e23, st23⟩ := getF X22 hx hZ hown (host := "") (Or.inl (wd_105 hw)) Via.refl e22 P7 (g := (mkF m 33 #[rv xx, rv sq, rv oe, iv 0] [(.ref xx), (.int 0)])) rfl rfl (hb hby d0_33)
    refine Rch.go st23 ?_
    show Aw p e below _ T23 m 36 #[rv xx, rv sq, rv oe, iv 0] [(.ref ll), (.int 0)]
    obtain ⟨v24, T24, L24, X24, Q24, st24⟩ := callIf X23 hx hZ (m12_size l Z a0 hw ll em h0 n0 Z0 O0 P10 go4) e23 hown (wd_250 hw) (wd_251 hw) (wd_252 hw) (wd_253 hw) (wd_254 hw) (wd_255 hw) (wd_256 hw) (wd_257 hw) (wd_258 hw) (wd_171 hw) (by decide) (hb hby d0_36) 1 (by decide) (by decide) (by decide) (by decide) (by rw [hml]; rfl) ll P8 [] [(.int 0)] rfl (lenOf pd_7 rfl) rfl (Nat.le_of_eq rfl) (Ls := #[rv xx, rv sq, rv oe, iv 0])
    obtain ⟨rfl, M24, e24⟩ := Q24
    have N24 := Fr.app N22 M24
    refine Rch.go st24 ?_
    show Aw p e below _ T24 m 41 #[rv xx, rv sq, rv oe, iv 0] [(.int 1), (.int 0)]
    refine Rch.go (fun t k => XS.icmpNo X24.here hx rfl (hb hby d0_41) rfl (by decide) (XS.aloadN X24.here hx rfl (hb hby d0_44) rfl rfl k)) ?_
    show Aw p e below _ T24 m 45 #[rv xx, rv sq, rv oe, iv 0] [(.ref xx)]
    obtain ⟨T25, X25, e25, st25⟩ := getF X24 hx hZ hown (host := "") (Or.inl (wd_105 hw)) Via.refl e24 P7 (g := (mkF m 45 #[rv xx, rv sq, rv oe, iv 0] [(.ref xx)])) rfl rfl (hb hby d0_45)
    refine Rch.go st25 ?_
    show Aw p e below _ T25 m 48 #[rv xx, rv sq, rv oe, iv 0] [(.ref ll)]
    refine Rch.go (fun t k => XS.iloadN X25.here hx rfl (hb hby d0_48) rfl  k) ?_
    show Aw p e below _ T25 m 49 #[rv xx, rv sq, rv oe, iv 0] [(.int 0), (.ref ll)]
    obtain ⟨v26, T26, L26, X26, Q26, st26⟩ := callIf X25 hx hZ (m13_get l Z a0 hw ll yy h0 n0 Z0 O0 P9) e25 hown (wd_259 hw) (wd_260 hw) (wd_261 hw) (wd_262 hw) (wd_263 hw) (wd_264 hw) (wd_265 hw) (wd_257 hw) (wd_266 hw) (wd_171 hw) (by decide) (hb hby d0_49) 0 (by decide) (by decide) (by decide) (by decide) (by rw [hml]; rfl) ll P8 [(.int 0)] [] rfl (lenOf pd_8 rfl) rfl (Nat.le_of_eq rfl) (Ls := #[rv xx, rv sq, rv oe, iv 0])
    obtain ⟨rfl, M26, e26⟩ := Q26
    have N26 := Fr.app N24 M26
    refine Rch.go st26 ?_
    show Aw p e below _ T26 m 54 #[rv xx, rv sq, rv oe, iv 0] [(.ref yy)]
    obtain ⟨T27, X27, e27, st27⟩ := castY X26 hx hZ hown (wd_267 hw) e26 (Ins.self (PF1.1.keep PK)) (g := (mkF m 54 #[rv xx, rv sq, rv oe, iv 0] [(.ref yy)])) rfl rfl (hb hby d0_54)
    refine Rch.go st27 ?_
    show Aw p e below _ T27 m 57 #[rv xx, rv sq, rv oe, iv 0] [(.ref yy)]
    refine Rch.go (fun t k => XS.aloadN X27.here hx rfl (hb hby d0_57) rfl rfl k) ?_
    show Aw p e below _ T27 m 58 #[rv xx, rv sq, rv oe, iv 0] [(.ref sq), (.ref yy)]
    obtain ⟨v28, T28, L28, X28, Q28, st28⟩ := callVi X27 hx hZ (PF1.2.2 _ sq (PK.trans (Keep.refl _ _) all0) ⟨bq, kq, sqE, sqV, sqC, sqA, sqL⟩ PQ) e27 hown (wd_268 hw) (wd_199 hw) (wd_201 hw) (notFace_of_selects (args := #[]) (mvT hZ (wd_201 hw))) (wd_200 hw) (wd_202 hw) (wd_2 hw) (by decide) (hb hby d0_58) 0 (by decide) (by decide) (by decide) (by decide) (by rw [hml]; rfl) yy (PF1.1.keep PK) [(.ref sq)] [] rfl (lenOf pd_9 rfl) rfl (Nat.le_of_eq rfl) (Ls := #[rv xx, rv sq, rv oe, iv 0])
    obtain ⟨o28, rfl, M28, K28, E28, F28⟩ := Q28
    have N28 := Fr.app N26 M28
    refine Rch.go st28 ?_
    show Aw p e below _ T28 m 61 #[rv xx, rv sq, rv oe, iv 0] [(.ref o28)]
    refine Rch.go (fun t k => XS.astoreN X28.here hx rfl (hb hby d0_61) rfl rfl (l' := #[rv xx, rv sq, rv o28, iv 0]) rfl (XS.iinc X28.here hx rfl (hb hby d0_62) rfl (l' := #[rv xx, rv sq, rv o28, iv 1]) rfl (XS.goto X28.here hx rfl (pc0 := 65) (pc' := 24) rfl (hb hby d0_65) (by decide) (by decide) (XS.aloadN X28.here hx rfl (hb hby d0_24) rfl rfl k)))) ?_
    show Aw p e below _ T28 m 25 #[rv xx, rv sq, rv o28, iv 1] [(.ref o28)]
    have z29 := (Nat.le_trans Z0 K28.1)
    have o30 := (O0.keep K28 all0)
    obtain ⟨v31, T31, L31, X31, Q31, st31⟩ := callVi X28 hx hZ (m6_isEmpty l Z a0 hw o28 rv' T28.heap n0 z29 o30 F28) rfl hown (wd_225 hw) (wd_226 hw) (wd_228 hw) (notFace_of_selects (args := #[]) (mvT hZ (wd_228 hw))) (wd_227 hw) (wd_229 hw) (wd_213 hw) (by decide) (hb hby d0_25) 0 (by decide) (by decide) (by decide) (by decide) (by rw [hml]; rfl) o28 E28 [] [] rfl (lenOf pd_5 rfl) rfl (Nat.le_of_eq rfl) (Ls := #[rv xx, rv sq, rv o28, iv 1])
    obtain ⟨rfl, M31, e31⟩ := Q31
    have N31 := Fr.app N28 M31
    refine Rch.go st31 ?_
    show Aw p e below _ T31 m 28 #[rv xx, rv sq, rv o28, iv 1] [(.int 0)]
    refine Rch.go (fun t k => XS.ifYes X31.here hx rfl (pc0 := 28) (pc' := 68) rfl (hb hby d0_28) rfl (by decide) (by decide) (by decide) (XS.aloadN X31.here hx rfl (hb hby d0_68) rfl rfl k)) ?_
    show Aw p e below _ T31 m 69 #[rv xx, rv sq, rv o28, iv 1] [(.ref o28)]
    refine Rch.val X31 hx (t := (.object "java/util/Optional")) hret hlk rfl (Or.inr (Or.inr (Or.inr (Or.inr ⟨rfl, rfl, rfl⟩)))) (hb hby d0_69) (by decide) (by decide) ?_
    try rw [e31]
    exact ⟨o28, rfl, N31, ((Keep.refl _ _).trans K28 all0), E28, F28⟩
abbrev RB : Room := ({ frames := 4, cells := 1, slots := 1, locals := 53 } : Room)
theorem ef_find_1B (m : MethodId) (xx sq : Addr) : entryFrame m #[(.ref xx), (.ref sq)] 4 = mkF m 0 #[rv xx, rv sq, uu, uu] [] := by first | rfl | (simp [entryFrame, mkF, argsToLocals, Value.category]; done)
theorem find_1B (l : Launch) (Z : State) (a0 : Array Value) (hw : HW Z a0) (xx sq ss el em oe ll yy : Addr) (ch cq : Int32) (hE : Heap) (res : Value) (h0 : Heap) (n0 : Nat) (Z0 : n0 ≤ h0.size) (O0 : Old Z n0 h0) (PO : Oz Z el em oe) (P1 : Exa Z h0 xx s2') (P2 : Fld Z h0 xx s2' "value" "Ljava/lang/String;" (.ref ss)) (P3 : Sg Z h0 ss ch) (P4 : Sg Z h0 sq cq) (P5 : ss ≠ sq) (P6 : ¬ ((nar .byte (ch.toInt8.toInt32)) = (nar .byte (cq.toInt8.toInt32)))) (P7 : Fld Z h0 xx s2' "children" "Ljava/util/List;" (.ref ll)) (P8 : Exa Z h0 ll s3') (P9 : Fld Z h0 ll s3' "e0" "Ljava/lang/Object;" (.ref yy)) (P10 : Fld Z h0 ll s3' "e1" "Ljava/lang/Object;" (.ref em)) (PK : Keep hE h0 []) (PQ : hE.size ≤ sq) (PF1 : FC l Z RB n0 hE yy cq res) (hv : res.isRef = true) :
    Ctr l Z [] (⟨s2', "find", s9'⟩ : MethodName) prog_9_method_6_code 4 (some (.object "java/util/Optional")) #[(.ref xx), (.ref sq)] h0 ({ frames := 5, cells := 1, slots := 1, locals := 68 } : Room) (FQ Z n0 h0 res) := by
  refine Ctr.of (plainFor_of_name pn_com_example_harpocrates_harpocrates_data_Taxonomy) (fun m => ef_find_1B m xx sq) ?_
  intro p e s m below meth c T0 hx hZ hby hml hown hnm hret hlk X0 e0
  have N0 := Fr.nil n0
  obtain ⟨ar, kk, ww, go1, go2, go3, go4, go5, go6, go7, go8, go9⟩ := PO
  obtain ⟨bs, ks, sgE, sgV, sgC, sgA, -⟩ := P3
  obtain ⟨bq, kq, sqE, sqV, sqC, sqA, sqL⟩ := P4
  rcases ref_cases hv with rfl | ⟨rv', rfl⟩
  · show Aw p e below _ T0 m 0 #[rv xx, rv sq, uu, uu] []
    refine Rch.go (fun t k => XS.aloadN X0.here hx rfl (hb hby d0_0) rfl rfl k) ?_
    show Aw p e below _ T0 m 1 #[rv xx, rv sq, uu, uu] [(.ref xx)]
    obtain ⟨T1, X1, e1, st1⟩ := getF X0 hx hZ hown (host := "") (Or.inl (wd_103 hw)) Via.refl e0 P2 (g := (mkF m 1 #[rv xx, rv sq, uu, uu] [(.ref xx)])) rfl rfl (hb hby d0_1)
    refine Rch.go st1 ?_
    show Aw p e below _ T1 m 4 #[rv xx, rv sq, uu, uu] [(.ref ss)]
    refine Rch.go (fun t k => XS.aloadN X1.here hx rfl (hb hby d0_4) rfl rfl k) ?_
    show Aw p e below _ T1 m 5 #[rv xx, rv sq, uu, uu] [(.ref sq), (.ref ss)]
    obtain ⟨v2, T2, L2, X2, Q2, st2⟩ := callVi X1 hx hZ (m7_equals l Z a0 hw ss sq ww bs bq ks (nar .byte (ch.toInt8.toInt32)) kq (nar .byte (cq.toInt8.toInt32)) h0 n0 Z0 O0 P5 sqE go8 go9 sgC sqC sgV sqV sgA sqA P6) e1 hown (wd_203 hw) (wd_204 hw) (wd_206 hw) (notFace_of_selects (args := #[]) (mvT hZ (wd_206 hw))) (wd_205 hw) (wd_207 hw) (wd_5 hw) (by decide) (hb hby d0_5) 0 (by decide) (by decide) (by decide) (by decide) (by rw [hml]; rfl) ss sgE [(.ref sq)] [] rfl (lenOf pd_1 rfl) rfl (Nat.le_of_eq rfl) (Ls := #[rv xx, rv sq, uu, uu])
    obtain ⟨rfl, M2, e2⟩ := Q2
    have N2 := Fr.app N0 M2
    refine Rch.go st2 ?_
    show Aw p e below _ T2 m 8 #[rv xx, rv sq, uu, uu] [(.int 0)]
    refine Rch.go (fun t k => XS.ifYes X2.here hx rfl (pc0 := 8) (pc' := 18) rfl (hb hby d0_8) rfl (by decide) (by decide) (by decide) k) ?_
    show Aw p e below _ T2 m 18 #[rv xx, rv sq, uu, uu] []
    obtain ⟨v3, T3, L3, X3, Q3, st3⟩ := callSt X2 hx hZ (m9_empty l Z a0 hw oe h0 n0 Z0 O0 go5) e2 hown (wd_246 hw) (wd_247 hw) (wd_248 hw) (wd_213 hw) (by decide) (hb hby d0_18) 0 (by decide) (by decide) (by decide) (by decide) (by rw [hml]; rfl) [] [] rfl (lenOf pd_6 rfl) rfl (Nat.le_of_eq rfl) (Ls := #[rv xx, rv sq, uu, uu])
    obtain ⟨rfl, M3, e3⟩ := Q3
    have N3 := Fr.app N2 M3
    refine Rch.go st3 ?_
    show Aw p e below _ T3 m 21 #[rv xx, rv sq, uu, uu] [(.ref oe)]
    refine Rch.go (fun t k => XS.astoreN X3.here hx rfl (hb hby d0_21) rfl rfl (l' := #[rv xx, rv sq, rv oe, uu]) rfl (XS.iconst X3.here hx rfl (hb hby d0_22) (XS.istoreN X3.here hx rfl (hb hby d0_23) rfl  (l' := #[rv xx, rv sq, rv oe, iv 0]) rfl (XS.aloadN X3.here hx rfl (hb hby d0_24) rfl rfl k)))) ?_
    show Aw p e below _ T3 m 25 #[rv xx, rv sq, rv oe, iv 0] [(.ref oe)]
    obtain ⟨v4, T4, L4, X4, Q4, st4⟩ := callVi X3 hx hZ (m10_isEmpty l Z a0 hw oe h0 n0 Z0 O0 go7) e3 hown (wd_225 hw) (wd_226 hw) (wd_228 hw) (notFace_of_selects (args := #[]) (mvT hZ (wd_228 hw))) (wd_227 hw) (wd_229 hw) (wd_213 hw) (by decide) (hb hby d0_25) 0 (by decide) (by decide) (by decide) (by decide) (by rw [hml]; rfl) oe (go6.ext O0.2) [] [] rfl (lenOf pd_5 rfl) rfl (Nat.le_of_eq rfl) (Ls := #[rv xx, rv sq, rv oe, iv 0])
    obtain ⟨rfl, M4, e4⟩ := Q4
    have N4 := Fr.app N3 M4
    refine Rch.go st4 ?_
    show Aw p e below _ T4 m 28 #[rv xx, rv sq, rv oe, iv 0] [(.int 1)]
    refine Rch.go (fun t k => XS.ifNo X4.here hx rfl (hb hby d0_28) rfl (by decide) (XS.iloadN X4.here hx rfl (hb hby d0_31) rfl  (XS.aloadN X4.here hx rfl (hb hby d0_32) rfl rfl k))) ?_
    show Aw p e below _ T4 m 33 #[rv xx, rv sq, rv oe, iv 0] [(.ref xx), (.int 0)]
    obtain ⟨T5, X5, e5, st5⟩ := getF X4 hx hZ hown (host := "") (Or.inl (wd_105 hw)) Via.refl e4 P7 (g := (mkF m 33 #[rv xx, rv sq, rv oe, iv 0] [(.ref xx), (.int 0)])) rfl rfl (hb hby d0_33)
    refine Rch.go st5 ?_
    show Aw p e below _ T5 m 36 #[rv xx, rv sq, rv oe, iv 0] [(.ref ll), (.int 0)]
    obtain ⟨v6, T6, L6, X6, Q6, st6⟩ := callIf X5 hx hZ (m12_size l Z a0 hw ll em h0 n0 Z0 O0 P10 go4) e5 hown (wd_250 hw) (wd_251 hw) (wd_252 hw) (wd_253 hw) (wd_254 hw) (wd_255 hw) (wd_256 hw) (wd_257 hw) (wd_258 hw) (wd_171 hw) (by decide) (hb hby d0_36) 1 (by decide) (by decide) (by decide) (by decide) (by rw [hml]; rfl) ll P8 [] [(.int 0)] rfl (lenOf pd_7 rfl) rfl (Nat.le_of_eq rfl) (Ls := #[rv xx, rv sq, rv oe, iv 0])
    obtain ⟨rfl, M6, e6⟩ := Q6
    have N6 := Fr.app N4 M6
    refine Rch.go st6 ?_
    show Aw p e below _ T6 m 41 #[rv xx, rv sq, rv oe, iv 0] [(.int 1), (.int 0)]
    refine Rch.go (fun t k => XS.icmpNo X6.here hx rfl (hb hby d0_41) rfl (by decide) (XS.aloadN X6.here hx rfl (hb hby d0_44) rfl rfl k)) ?_
    show Aw p e below _ T6 m 45 #[rv xx, rv sq, rv oe, iv 0] [(.ref xx)]
    obtain ⟨T7, X7, e7, st7⟩ := getF X6 hx hZ hown (host := "") (Or.inl (wd_105 hw)) Via.refl e6 P7 (g := (mkF m 45 #[rv xx, rv sq, rv oe, iv 0] [(.ref xx)])) rfl rfl (hb hby d0_45)
    refine Rch.go st7 ?_
    show Aw p e below _ T7 m 48 #[rv xx, rv sq, rv oe, iv 0] [(.ref ll)]
    refine Rch.go (fun t k => XS.iloadN X7.here hx rfl (hb hby d0_48) rfl  k) ?_
    show Aw p e below _ T7 m 49 #[rv xx, rv sq, rv oe, iv 0] [(.int 0), (.ref ll)]
    obtain ⟨v8, T8, L8, X8, Q8, st8⟩ := callIf X7 hx hZ (m13_get l Z a0 hw ll yy h0 n0 Z0 O0 P9) e7 hown (wd_259 hw) (wd_260 hw) (wd_261 hw) (wd_262 hw) (wd_263 hw) (wd_264 hw) (wd_265 hw) (wd_257 hw) (wd_266 hw) (wd_171 hw) (by decide) (hb hby d0_49) 0 (by decide) (by decide) (by decide) (by decide) (by rw [hml]; rfl) ll P8 [(.int 0)] [] rfl (lenOf pd_8 rfl) rfl (Nat.le_of_eq rfl) (Ls := #[rv xx, rv sq, rv oe, iv 0])
    obtain ⟨rfl, M8, e8⟩ := Q8
    have N8 := Fr.app N6 M8
    refine Rch.go st8 ?_
    show Aw p e below _ T8 m 54 #[rv xx, rv sq, rv oe, iv 0] [(.ref yy)]
    obtain ⟨T9, X9, e9, st9⟩ := castY X8 hx hZ hown (wd_267 hw) e8 (Ins.self (PF1.1.keep PK)) (g := (mkF m 54 #[rv xx, rv sq, rv oe, iv 0] [(.ref yy)])) rfl rfl (hb hby d0_54)
    refine Rch.go st9 ?_
    show Aw p e below _ T9 m 57 #[rv xx, rv sq, rv oe, iv 0] [(.ref yy)]
    refine Rch.go (fun t k => XS.aloadN X9.here hx rfl (hb hby d0_57) rfl rfl k) ?_
    show Aw p e below _ T9 m 58 #[rv xx, rv sq, rv oe, iv 0] [(.ref sq), (.ref yy)]
    obtain ⟨v10, T10, L10, X10, Q10, st10⟩ := callVi X9 hx hZ (PF1.2.2 _ sq (PK.trans (Keep.refl _ _) all0) ⟨bq, kq, sqE, sqV, sqC, sqA, sqL⟩ PQ) e9 hown (wd_268 hw) (wd_199 hw) (wd_201 hw) (notFace_of_selects (args := #[]) (mvT hZ (wd_201 hw))) (wd_200 hw) (wd_202 hw) (wd_2 hw) (by decide) (hb hby d0_58) 0 (by decide) (by decide) (by decide) (by decide) (by rw [hml]; rfl) yy (PF1.1.keep PK) [(.ref sq)] [] rfl (lenOf pd_9 rfl) rfl (Nat.le_of_eq rfl) (Ls := #[rv xx, rv sq, rv oe, iv 0])
    obtain ⟨o10, rfl, M10, K10, E10, F10⟩ := Q10
    have N10 := Fr.app N8 M10
    refine Rch.go st10 ?_
    show Aw p e below _ T10 m 61 #[rv xx, rv sq, rv oe, iv 0] [(.ref o10)]
    refine Rch.go (fun t k => XS.astoreN X10.here hx rfl (hb hby d0_61) rfl rfl (l' := #[rv xx, rv sq, rv o10, iv 0]) rfl (XS.iinc X10.here hx rfl (hb hby d0_62) rfl (l' := #[rv xx, rv sq, rv o10, iv 1]) rfl (XS.goto X10.here hx rfl (pc0 := 65) (pc' := 24) rfl (hb hby d0_65) (by decide) (by decide) (XS.aloadN X10.here hx rfl (hb hby d0_24) rfl rfl k)))) ?_
    show Aw p e below _ T10 m 25 #[rv xx, rv sq, rv o10, iv 1] [(.ref o10)]
    have z11 := (Nat.le_trans Z0 K10.1)
    have o12 := (O0.keep K10 all0)
    obtain ⟨v13, T13, L13, X13, Q13, st13⟩ := callVi X10 hx hZ (m14_isEmpty l Z a0 hw o10 T10.heap n0 z11 o12 F10) rfl hown (wd_225 hw) (wd_226 hw) (wd_228 hw) (notFace_of_selects (args := #[]) (mvT hZ (wd_228 hw))) (wd_227 hw) (wd_229 hw) (wd_213 hw) (by decide) (hb hby d0_25) 0 (by decide) (by decide) (by decide) (by decide) (by rw [hml]; rfl) o10 E10 [] [] rfl (lenOf pd_5 rfl) rfl (Nat.le_of_eq rfl) (Ls := #[rv xx, rv sq, rv o10, iv 1])
    obtain ⟨rfl, M13, e13⟩ := Q13
    have N13 := Fr.app N10 M13
    refine Rch.go st13 ?_
    show Aw p e below _ T13 m 28 #[rv xx, rv sq, rv o10, iv 1] [(.int 1)]
    refine Rch.go (fun t k => XS.ifNo X13.here hx rfl (hb hby d0_28) rfl (by decide) (XS.iloadN X13.here hx rfl (hb hby d0_31) rfl  (XS.aloadN X13.here hx rfl (hb hby d0_32) rfl rfl k))) ?_
    show Aw p e below _ T13 m 33 #[rv xx, rv sq, rv o10, iv 1] [(.ref xx), (.int 1)]
    have f15 := (P7.keep K10 nin0)
    obtain ⟨T14, X14, e14, st14⟩ := getF X13 hx hZ hown (host := "") (Or.inl (wd_105 hw)) Via.refl e13 f15 (g := (mkF m 33 #[rv xx, rv sq, rv o10, iv 1] [(.ref xx), (.int 1)])) rfl rfl (hb hby d0_33)
    refine Rch.go st14 ?_
    show Aw p e below _ T14 m 36 #[rv xx, rv sq, rv o10, iv 1] [(.ref ll), (.int 1)]
    have f16 := (P10.keep K10 nin0)
    have f18 := (P8.keep K10)
    obtain ⟨v17, T17, L17, X17, Q17, st17⟩ := callIf X14 hx hZ (m12_size l Z a0 hw ll em T10.heap n0 z11 o12 f16 go4) e14 hown (wd_250 hw) (wd_251 hw) (wd_252 hw) (wd_253 hw) (wd_254 hw) (wd_255 hw) (wd_256 hw) (wd_257 hw) (wd_258 hw) (wd_171 hw) (by decide) (hb hby d0_36) 1 (by decide) (by decide) (by decide) (by decide) (by rw [hml]; rfl) ll f18 [] [(.int 1)] rfl (lenOf pd_7 rfl) rfl (Nat.le_of_eq rfl) (Ls := #[rv xx, rv sq, rv o10, iv 1])
    obtain ⟨rfl, M17, e17⟩ := Q17
    have N17 := Fr.app N13 M17
    refine Rch.go st17 ?_
    show Aw p e below _ T17 m 41 #[rv xx, rv sq, rv o10, iv 1] [(.int 1), (.int 1)]
    refine Rch.go (fun t k => XS.icmpYes X17.here hx rfl (pc0 := 41) (pc' := 68) rfl (hb hby d0_41) rfl (by decide) (by decide) (by decide) (XS.aloadN X17.here hx rfl (hb hby d0_68) rfl rfl k)) ?_
    show Aw p e below _ T17 m 69 #[rv xx, rv sq, rv o10, iv 1] [(.ref o10)]
    refine Rch.val X17 hx (t := (.object "java/util/Optional")) hret hlk rfl (Or.inr (Or.inr (Or.inr (Or.inr ⟨rfl, rfl, rfl⟩)))) (hb hby d0_69) (by decide) (by decide) ?_
    try rw [e17]
    exact ⟨o10, rfl, N17, ((Keep.refl _ _).trans K10 all0), E10, F10⟩
  · show Aw p e below _ T0 m 0 #[rv xx, rv sq, uu, uu] []
    refine Rch.go (fun t k => XS.aloadN X0.here hx rfl (hb hby d0_0) rfl rfl k) ?_
    show Aw p e below _ T0 m 1 #[rv xx, rv sq, uu, uu] [(.ref xx)]
    obtain ⟨T19, X19, e19, st19⟩ := getF X0 hx hZ hown (host := "") (Or.inl (wd_103 hw)) Via.refl e0 P2 (g := (mkF m 1 #[rv xx, rv sq, uu, uu] [(.ref xx)])) rfl rfl (hb hby d0_1)
    refine Rch.go st19 ?_
    show Aw p e below _ T19 m 4 #[rv xx, rv sq, uu, uu] [(.ref ss)]
    refine Rch.go (fun t k => XS.aloadN X19.here hx rfl (hb hby d0_4) rfl rfl k) ?_
    show Aw p e below _ T19 m 5 #[rv xx, rv sq, uu, uu] [(.ref sq), (.ref ss)]
    obtain ⟨v20, T20, L20, X20, Q20, st20⟩ := callVi X19 hx hZ (m7_equals l Z a0 hw ss sq ww bs bq ks (nar .byte (ch.toInt8.toInt32)) kq (nar .byte (cq.toInt8.toInt32)) h0 n0 Z0 O0 P5 sqE go8 go9 sgC sqC sgV sqV sgA sqA P6) e19 hown (wd_203 hw) (wd_204 hw) (wd_206 hw) (notFace_of_selects (args := #[]) (mvT hZ (wd_206 hw))) (wd_205 hw) (wd_207 hw) (wd_5 hw) (by decide) (hb hby d0_5) 0 (by decide) (by decide) (by decide) (by decide) (by rw [hml]; rfl) ss sgE [(.ref sq)] [] rfl (lenOf pd_1 rfl) rfl (Nat.le_of_eq rfl) (Ls := #[rv xx, rv sq, uu, uu])
    obtain ⟨rfl, M20, e20⟩ := Q20
    have N20 := Fr.app N0 M20
    refine Rch.go st20 ?_
    show Aw p e below _ T20 m 8 #[rv xx, rv sq, uu, uu] [(.int 0)]
    refine Rch.go (fun t k => XS.ifYes X20.here hx rfl (pc0 := 8) (pc' := 18) rfl (hb hby d0_8) rfl (by decide) (by decide) (by decide) k) ?_
    show Aw p e below _ T20 m 18 #[rv xx, rv sq, uu, uu] []
    obtain ⟨v21, T21, L21, X21, Q21, st21⟩ := callSt X20 hx hZ (m9_empty l Z a0 hw oe h0 n0 Z0 O0 go5) e20 hown (wd_246 hw) (wd_247 hw) (wd_248 hw) (wd_213 hw) (by decide) (hb hby d0_18) 0 (by decide) (by decide) (by decide) (by decide) (by rw [hml]; rfl) [] [] rfl (lenOf pd_6 rfl) rfl (Nat.le_of_eq rfl) (Ls := #[rv xx, rv sq, uu, uu])
    obtain ⟨rfl, M21, e21⟩ := Q21
    have N21 := Fr.app N20 M21
    refine Rch.go st21 ?_
    show Aw p e below _ T21 m 21 #[rv xx, rv sq, uu, uu] [(.ref oe)]
    refine Rch.go (fun t k => XS.astoreN X21.here hx rfl (hb hby d0_21) rfl rfl (l' := #[rv xx, rv sq, rv oe, uu]) rfl (XS.iconst X21.here hx rfl (hb hby d0_22) (XS.istoreN X21.here hx rfl (hb hby d0_23) rfl  (l' := #[rv xx, rv sq, rv oe, iv 0]) rfl (XS.aloadN X21.here hx rfl (hb hby d0_24) rfl rfl k)))) ?_
    show Aw p e below _ T21 m 25 #[rv xx, rv sq, rv oe, iv 0] [(.ref oe)]
    obtain ⟨v22, T22, L22, X22, Q22, st22⟩ := callVi X21 hx hZ (m10_isEmpty l Z a0 hw oe h0 n0 Z0 O0 go7) e21 hown (wd_225 hw) (wd_226 hw) (wd_228 hw) (notFace_of_selects (args := #[]) (mvT hZ (wd_228 hw))) (wd_227 hw) (wd_229 hw) (wd_213 hw) (by decide) (hb hby d0_25) 0 (by decide) (by decide) (by decide) (by decide) (by rw [hml]; rfl) oe (go6.ext O0.2) [] [] rfl (lenOf pd_5 rfl) rfl (Nat.le_of_eq rfl) (Ls := #[rv xx, rv sq, rv oe, iv 0])
    obtain ⟨rfl, M22, e22⟩ := Q22
    have N22 := Fr.app N21 M22
    refine Rch.go st22 ?_
    show Aw p e below _ T22 m 28 #[rv xx, rv sq, rv oe, iv 0] [(.int 1)]
    refine Rch.go (fun t k => XS.ifNo X22.here hx rfl (hb hby d0_28) rfl (by decide) (XS.iloadN X22.here hx rfl (hb hby d0_31) rfl  (XS.aloadN X22.here hx rfl (hb hby d0_32) rfl rfl k))) ?_
    show Aw p e below _ T22 m 33 #[rv xx, rv sq, rv oe, iv 0] [(.ref xx), (.int 0)]
    obtain ⟨T23, X23, e23, st23⟩ := getF X22 hx hZ hown (host := "") (Or.inl (wd_105 hw)) Via.refl e22 P7 (g := (mkF m 33 #[rv xx, rv sq, rv oe, iv 0] [(.ref xx), (.int 0)])) rfl rfl (hb hby d0_33)
    refine Rch.go st23 ?_
    show Aw p e below _ T23 m 36 #[rv xx, rv sq, rv oe, iv 0] [(.ref ll), (.int 0)]
    obtain ⟨v24, T24, L24, X24, Q24, st24⟩ := callIf X23 hx hZ (m12_size l Z a0 hw ll em h0 n0 Z0 O0 P10 go4) e23 hown (wd_250 hw) (wd_251 hw) (wd_252 hw) (wd_253 hw) (wd_254 hw) (wd_255 hw) (wd_256 hw) (wd_257 hw) (wd_258 hw) (wd_171 hw) (by decide) (hb hby d0_36) 1 (by decide) (by decide) (by decide) (by decide) (by rw [hml]; rfl) ll P8 [] [(.int 0)] rfl (lenOf pd_7 rfl) rfl (Nat.le_of_eq rfl) (Ls := #[rv xx, rv sq, rv oe, iv 0])
    obtain ⟨rfl, M24, e24⟩ := Q24
    have N24 := Fr.app N22 M24
    refine Rch.go st24 ?_
    show Aw p e below _ T24 m 41 #[rv xx, rv sq, rv oe, iv 0] [(.int 1), (.int 0)]
    refine Rch.go (fun t k => XS.icmpNo X24.here hx rfl (hb hby d0_41) rfl (by decide) (XS.aloadN X24.here hx rfl (hb hby d0_44) rfl rfl k)) ?_
    show Aw p e below _ T24 m 45 #[rv xx, rv sq, rv oe, iv 0] [(.ref xx)]
    obtain ⟨T25, X25, e25, st25⟩ := getF X24 hx hZ hown (host := "") (Or.inl (wd_105 hw)) Via.refl e24 P7 (g := (mkF m 45 #[rv xx, rv sq, rv oe, iv 0] [(.ref xx)])) rfl rfl (hb hby d0_45)
    refine Rch.go st25 ?_
    show Aw p e below _ T25 m 48 #[rv xx, rv sq, rv oe, iv 0] [(.ref ll)]
    refine Rch.go (fun t k => XS.iloadN X25.here hx rfl (hb hby d0_48) rfl  k) ?_
    show Aw p e below _ T25 m 49 #[rv xx, rv sq, rv oe, iv 0] [(.int 0), (.ref ll)]
    obtain ⟨v26, T26, L26, X26, Q26, st26⟩ := callIf X25 hx hZ (m13_get l Z a0 hw ll yy h0 n0 Z0 O0 P9) e25 hown (wd_259 hw) (wd_260 hw) (wd_261 hw) (wd_262 hw) (wd_263 hw) (wd_264 hw) (wd_265 hw) (wd_257 hw) (wd_266 hw) (wd_171 hw) (by decide) (hb hby d0_49) 0 (by decide) (by decide) (by decide) (by decide) (by rw [hml]; rfl) ll P8 [(.int 0)] [] rfl (lenOf pd_8 rfl) rfl (Nat.le_of_eq rfl) (Ls := #[rv xx, rv sq, rv oe, iv 0])
    obtain ⟨rfl, M26, e26⟩ := Q26
    have N26 := Fr.app N24 M26
    refine Rch.go st26 ?_
    show Aw p e below _ T26 m 54 #[rv xx, rv sq, rv oe, iv 0] [(.ref yy)]
    obtain ⟨T27, X27, e27, st27⟩ := castY X26 hx hZ hown (wd_267 hw) e26 (Ins.self (PF1.1.keep PK)) (g := (mkF m 54 #[rv xx, rv sq, rv oe, iv 0] [(.ref yy)])) rfl rfl (hb hby d0_54)
    refine Rch.go st27 ?_
    show Aw p e below _ T27 m 57 #[rv xx, rv sq, rv oe, iv 0] [(.ref yy)]
    refine Rch.go (fun t k => XS.aloadN X27.here hx rfl (hb hby d0_57) rfl rfl k) ?_
    show Aw p e below _ T27 m 58 #[rv xx, rv sq, rv oe, iv 0] [(.ref sq), (.ref yy)]
    obtain ⟨v28, T28, L28, X28, Q28, st28⟩ := callVi X27 hx hZ (PF1.2.2 _ sq (PK.trans (Keep.refl _ _) all0) ⟨bq, kq, sqE, sqV, sqC, sqA, sqL⟩ PQ) e27 hown (wd_268 hw) (wd_199 hw) (wd_201 hw) (notFace_of_selects (args := #[]) (mvT hZ (wd_201 hw))) (wd_200 hw) (wd_202 hw) (wd_2 hw) (by decide) (hb hby d0_58) 0 (by decide) (by decide) (by decide) (by decide) (by rw [hml]; rfl) yy (PF1.1.keep PK) [(.ref sq)] [] rfl (lenOf pd_9 rfl) rfl (Nat.le_of_eq rfl) (Ls := #[rv xx, rv sq, rv oe, iv 0])
    obtain ⟨o28, rfl, M28, K28, E28, F28⟩ := Q28
    have N28 := Fr.app N26 M28
    refine Rch.go st28 ?_
    show Aw p e below _ T28 m 61 #[rv xx, rv sq, rv oe, iv 0] [(.ref o28)]
    refine Rch.go (fun t k => XS.astoreN X28.here hx rfl (hb hby d0_61) rfl rfl (l' := #[rv xx, rv sq, rv o28, iv 0]) rfl (XS.iinc X28.here hx rfl (hb hby d0_62) rfl (l' := #[rv xx, rv sq, rv o28, iv 1]) rfl (XS.goto X28.here hx rfl (pc0 := 65) (pc' := 24) rfl (hb hby d0_65) (by decide) (by decide) (XS.aloadN X28.here hx rfl (hb hby d0_24) rfl rfl k)))) ?_
    show Aw p e below _ T28 m 25 #[rv xx, rv sq, rv o28, iv 1] [(.ref o28)]
    have z29 := (Nat.le_trans Z0 K28.1)
    have o30 := (O0.keep K28 all0)
    obtain ⟨v31, T31, L31, X31, Q31, st31⟩ := callVi X28 hx hZ (m6_isEmpty l Z a0 hw o28 rv' T28.heap n0 z29 o30 F28) rfl hown (wd_225 hw) (wd_226 hw) (wd_228 hw) (notFace_of_selects (args := #[]) (mvT hZ (wd_228 hw))) (wd_227 hw) (wd_229 hw) (wd_213 hw) (by decide) (hb hby d0_25) 0 (by decide) (by decide) (by decide) (by decide) (by rw [hml]; rfl) o28 E28 [] [] rfl (lenOf pd_5 rfl) rfl (Nat.le_of_eq rfl) (Ls := #[rv xx, rv sq, rv o28, iv 1])
    obtain ⟨rfl, M31, e31⟩ := Q31
    have N31 := Fr.app N28 M31
    refine Rch.go st31 ?_
    show Aw p e below _ T31 m 28 #[rv xx, rv sq, rv o28, iv 1] [(.int 0)]
    refine Rch.go (fun t k => XS.ifYes X31.here hx rfl (pc0 := 28) (pc' := 68) rfl (hb hby d0_28) rfl (by decide) (by decide) (by decide) (XS.aloadN X31.here hx rfl (hb hby d0_68) rfl rfl k)) ?_
    show Aw p e below _ T31 m 69 #[rv xx, rv sq, rv o28, iv 1] [(.ref o28)]
    refine Rch.val X31 hx (t := (.object "java/util/Optional")) hret hlk rfl (Or.inr (Or.inr (Or.inr (Or.inr ⟨rfl, rfl, rfl⟩)))) (hb hby d0_69) (by decide) (by decide) ?_
    try rw [e31]
    exact ⟨o28, rfl, N31, ((Keep.refl _ _).trans K28 all0), E28, F28⟩
theorem d9_10 : decode jdk_44_method_3_code 10 = .ok (.iconst 2, 1) := by decide +kernel
theorem d9_11 : decode jdk_44_method_3_code 11 = .ok (.goto 4, 3) := by decide +kernel
theorem ef_m15_size (m : MethodId) (x1 : Addr) : entryFrame m #[(.ref x1)] 1 = mkF m 0 #[rv x1] [] := by first | rfl | (simp [entryFrame, mkF, argsToLocals, Value.category]; done)
theorem m15_size (l : Launch) (Z : State) (a0 : Array Value) (hw : HW Z a0) (x1 x2 x3 : Addr) (h0 : Heap) (n0 : Nat) (Z0 : n0 ≤ h0.size) (O0 : Old Z n0 h0) (P1 : Fld Z h0 x1 s3' "e1" "Ljava/lang/Object;" (.ref x2)) (P2 : Sta Z Z.heap s5' "EMPTY" "Ljava/lang/Object;" (.ref x3)) (P3 : x2 ≠ x3) :
    Ctr l Z [] (⟨s3', "size", "()I"⟩ : MethodName) jdk_44_method_3_code 1 (some .int) #[(.ref x1)] h0 ({ frames := 0, cells := 0, slots := 0, locals := 0 } : Room) (fun v h L => v = some (.int 2) ∧ Fr n0 L ∧ h = h0) := by
  refine Ctr.of (plainFor_of_name pn_java_util_ImmutableCollections_List12) (fun m => ef_m15_size m x1) ?_
  intro p e s m below meth c T0 hx hZ hby hml hown hnm hret hlk X0 e0
  have N0 := Fr.nil n0
  show Aw p e below _ T0 m 0 #[rv x1] []
  refine Rch.go (fun t k => XS.aloadN X0.here hx rfl (hb hby d9_0) rfl rfl k) ?_
  show Aw p e below _ T0 m 1 #[rv x1] [(.ref x1)]
  obtain ⟨T1, X1, e1, st1⟩ := getF X0 hx hZ hown (host := "") (Or.inl (wd_196 hw)) Via.refl e0 P1 (g := (mkF m 1 #[rv x1] [(.ref x1)])) rfl rfl (hb hby d9_1)
  refine Rch.go st1 ?_
  show Aw p e below _ T1 m 4 #[rv x1] [(.ref x2)]
  obtain ⟨T2, X2, e2, st2⟩ := getS2 X1 hx hZ hown (Or.inr (wd_195 hw)) Via.refl e1 (P2.ext O0.2) (g := (mkF m 4 #[rv x1] [(.ref x2)])) rfl (hb hby d9_4)
  refine Rch.go st2 ?_
  show Aw p e below _ T2 m 7 #[rv x1] [(.ref x3), (.ref x2)]
  refine Rch.go (fun t k => acmp X2 hx rfl (x := (.ref x2)) (y := (.ref x3)) rfl rfl (pc0 := 7) (pc' := 10) (same := false) rfl (hb hby d9_7) rfl (decide_eq_false (fun q => absurd (Value.ref.inj q) P3)) (by decide) (by decide) (XS.iconst X2.here hx rfl (hb hby d9_10) (XS.goto X2.here hx rfl (pc0 := 11) (pc' := 15) rfl (hb hby d9_11) (by decide) (by decide) k))) ?_
  show Aw p e below _ T2 m 15 #[rv x1] [(.int 2)]
  refine Rch.val X2 hx (t := .int) hret hlk rfl (mayI (by simp)) (hb hby d9_15) (by decide) (by decide) ?_
  try rw [e2]
  exact ⟨rfl, N0, rfl⟩
theorem ef_find_2a (m : MethodId) (xx sq : Addr) : entryFrame m #[(.ref xx), (.ref sq)] 4 = mkF m 0 #[rv xx, rv sq, uu, uu] [] := by first | rfl | (simp [entryFrame, mkF, argsToLocals, Value.category]; done)
theorem find_2a (l : Launch) (Z : State) (a0 : Array Value) (hw : HW Z a0) (xx sq ss el em oe ll yy zz : Addr) (ch cq : Int32) (hE : Heap) (rr : Addr) (h0 : Heap) (n0 : Nat) (Z0 : n0 ≤ h0.size) (O0 : Old Z n0 h0) (PO : Oz Z el em oe) (P1 : Exa Z h0 xx s2') (P2 : Fld Z h0 xx s2' "value" "Ljava/lang/String;" (.ref ss)) (P3 : Sg Z h0 ss ch) (P4 : Sg Z h0 sq cq) (P5 : ss ≠ sq) (P6 : ¬ ((nar .byte (ch.toInt8.toInt32)) = (nar .byte (cq.toInt8.toInt32)))) (P7 : Fld Z h0 xx s2' "children" "Ljava/util/List;" (.ref ll)) (P8 : Exa Z h0 ll s3') (P9 : Fld Z h0 ll s3' "e0" "Ljava/lang/Object;" (.ref yy)) (P10 : Fld Z h0 ll s3' "e1" "Ljava/lang/Object;" (.ref zz)) (PK : Keep hE h0 []) (PQ : hE.size ≤ sq) (PF1 : FC l Z RB n0 hE yy cq (.ref rr)) (PN : zz ≠ em) (PF2 : Exa Z hE zz s2') :
    Ctr l Z [] (⟨s2', "find", s9'⟩ : MethodName) prog_9_method_6_code 4 (some (.object "java/util/Optional")) #[(.ref xx), (.ref sq)] h0 ({ frames := 5, cells := 1, slots := 1, locals := 68 } : Room) (FQ Z n0 h0 (.ref rr)) := by
  refine Ctr.of (plainFor_of_name pn_com_example_harpocrates_harpocrates_data_Taxonomy) (fun m => ef_find_2a m xx sq) ?_
  intro p e s m below meth c T0 hx hZ hby hml hown hnm hret hlk X0 e0
  have N0 := Fr.nil n0
  obtain ⟨ar, kk, ww, go1, go2, go3, go4, go5, go6, go7, go8, go9⟩ := PO
  obtain ⟨bs, ks, sgE, sgV, sgC, sgA, -⟩ := P3
  obtain ⟨bq, kq, sqE, sqV, sqC, sqA, sqL⟩ := P4
  show Aw p e below _ T0 m 0 #[rv xx, rv sq, uu, uu] []
  refine Rch.go (fun t k => XS.aloadN X0.here hx rfl (hb hby d0_0) rfl rfl k) ?_
  show Aw p e below _ T0 m 1 #[rv xx, rv sq, uu, uu] [(.ref xx)]
  obtain ⟨T1, X1, e1, st1⟩ := getF X0 hx hZ hown (host := "") (Or.inl (wd_103 hw)) Via.refl e0 P2 (g := (mkF m 1 #[rv xx, rv sq, uu, uu] [(.ref xx)])) rfl rfl (hb hby d0_1)
  refine Rch.go st1 ?_
  show Aw p e below _ T1 m 4 #[rv xx, rv sq, uu, uu] [(.ref ss)]
  refine Rch.go (fun t k => XS.aloadN X1.here hx rfl (hb hby d0_4) rfl rfl k) ?_
  show Aw p e below _ T1 m 5 #[rv xx, rv sq, uu, uu] [(.ref sq), (.ref ss)]
  obtain ⟨v2, T2, L2, X2, Q2, st2⟩ := callVi X1 hx hZ (m7_equals l Z a0 hw ss sq ww bs bq ks (nar .byte (ch.toInt8.toInt32)) kq (nar .byte (cq.toInt8.toInt32)) h0 n0 Z0 O0 P5 sqE go8 go9 sgC sqC sgV sqV sgA sqA P6) e1 hown (wd_203 hw) (wd_204 hw) (wd_206 hw) (notFace_of_selects (args := #[]) (mvT hZ (wd_206 hw))) (wd_205 hw) (wd_207 hw) (wd_5 hw) (by decide) (hb hby d0_5) 0 (by decide) (by decide) (by decide) (by decide) (by rw [hml]; rfl) ss sgE [(.ref sq)] [] rfl (lenOf pd_1 rfl) rfl (Nat.le_of_eq rfl) (Ls := #[rv xx, rv sq, uu, uu])
  obtain ⟨rfl, M2, e2⟩ := Q2
  have N2 := Fr.app N0 M2
  refine Rch.go st2 ?_
  show Aw p e below _ T2 m 8 #[rv xx, rv sq, uu, uu] [(.int 0)]
  refine Rch.go (fun t k => XS.ifYes X2.here hx rfl (pc0 := 8) (pc' := 18) rfl (hb hby d0_8) rfl (by decide) (by decide) (by decide) k) ?_
  show Aw p e below _ T2 m 18 #[rv xx, rv sq, uu, uu] []
  obtain ⟨v3, T3, L3, X3, Q3, st3⟩ := callSt X2 hx hZ (m9_empty l Z a0 hw oe h0 n0 Z0 O0 go5) e2 hown (wd_246 hw) (wd_247 hw) (wd_248 hw) (wd_213 hw) (by decide) (hb hby d0_18) 0 (by decide) (by decide) (by decide) (by decide) (by rw [hml]; rfl) [] [] rfl (lenOf pd_6 rfl) rfl (Nat.le_of_eq rfl) (Ls := #[rv xx, rv sq, uu, uu])
  obtain ⟨rfl, M3, e3⟩ := Q3
  have N3 := Fr.app N2 M3
  refine Rch.go st3 ?_
  show Aw p e below _ T3 m 21 #[rv xx, rv sq, uu, uu] [(.ref oe)]
  refine Rch.go (fun t k => XS.astoreN X3.here hx rfl (hb hby d0_21) rfl rfl (l' := #[rv xx, rv sq, rv oe, uu]) rfl (XS.iconst X3.here hx rfl (hb hby d0_22) (XS.istoreN X3.here hx rfl (hb hby d0_23) rfl  (l' := #[rv xx, rv sq, rv oe, iv 0]) rfl (XS.aloadN X3.here hx rfl (hb hby d0_24) rfl rfl k)))) ?_
  show Aw p e below _ T3 m 25 #[rv xx, rv sq, rv oe, iv 0] [(.ref oe)]
  obtain ⟨v4, T4, L4, X4, Q4, st4⟩ := callVi X3 hx hZ (m10_isEmpty l Z a0 hw oe h0 n0 Z0 O0 go7) e3 hown (wd_225 hw) (wd_226 hw) (wd_228 hw) (notFace_of_selects (args := #[]) (mvT hZ (wd_228 hw))) (wd_227 hw) (wd_229 hw) (wd_213 hw) (by decide) (hb hby d0_25) 0 (by decide) (by decide) (by decide) (by decide) (by rw [hml]; rfl) oe (go6.ext O0.2) [] [] rfl (lenOf pd_5 rfl) rfl (Nat.le_of_eq rfl) (Ls := #[rv xx, rv sq, rv oe, iv 0])
  obtain ⟨rfl, M4, e4⟩ := Q4
  have N4 := Fr.app N3 M4
  refine Rch.go st4 ?_
  show Aw p e below _ T4 m 28 #[rv xx, rv sq, rv oe, iv 0] [(.int 1)]
  refine Rch.go (fun t k => XS.ifNo X4.here hx rfl (hb hby d0_28) rfl (by decide) (XS.iloadN X4.here hx rfl (hb hby d0_31) rfl  (XS.aloadN X4.here hx rfl (hb hby d0_32) rfl rfl k))) ?_
  show Aw p e below _ T4 m 33 #[rv xx, rv sq, rv oe, iv 0] [(.ref xx), (.int 0)]
  obtain ⟨T5, X5, e5, st5⟩ := getF X4 hx hZ hown (host := "") (Or.inl (wd_105 hw)) Via.refl e4 P7 (g := (mkF m 33 #[rv xx, rv sq, rv oe, iv 0] [(.ref xx), (.int 0)])) rfl rfl (hb hby d0_33)
  refine Rch.go st5 ?_
  show Aw p e below _ T5 m 36 #[rv xx, rv sq, rv oe, iv 0] [(.ref ll), (.int 0)]
  obtain ⟨v6, T6, L6, X6, Q6, st6⟩ := callIf X5 hx hZ (m15_size l Z a0 hw ll zz em h0 n0 Z0 O0 P10 go4 PN) e5 hown (wd_250 hw) (wd_251 hw) (wd_252 hw) (wd_253 hw) (wd_254 hw) (wd_255 hw) (wd_256 hw) (wd_257 hw) (wd_258 hw) (wd_171 hw) (by decide) (hb hby d0_36) 1 (by decide) (by decide) (by decide) (by decide) (by rw [hml]; rfl) ll P8 [] [(.int 0)] rfl (lenOf pd_7 rfl) rfl (Nat.le_of_eq rfl) (Ls := #[rv xx, rv sq, rv oe, iv 0])
  obtain ⟨rfl, M6, e6⟩ := Q6
  have N6 := Fr.app N4 M6
  refine Rch.go st6 ?_
  show Aw p e below _ T6 m 41 #[rv xx, rv sq, rv oe, iv 0] [(.int 2), (.int 0)]
  refine Rch.go (fun t k => XS.icmpNo X6.here hx rfl (hb hby d0_41) rfl (by decide) (XS.aloadN X6.here hx rfl (hb hby d0_44) rfl rfl k)) ?_
  show Aw p e below _ T6 m 45 #[rv xx, rv sq, rv oe, iv 0] [(.ref xx)]
  obtain ⟨T7, X7, e7, st7⟩ := getF X6 hx hZ hown (host := "") (Or.inl (wd_105 hw)) Via.refl e6 P7 (g := (mkF m 45 #[rv xx, rv sq, rv oe, iv 0] [(.ref xx)])) rfl rfl (hb hby d0_45)
  refine Rch.go st7 ?_
  show Aw p e below _ T7 m 48 #[rv xx, rv sq, rv oe, iv 0] [(.ref ll)]
  refine Rch.go (fun t k => XS.iloadN X7.here hx rfl (hb hby d0_48) rfl  k) ?_
  show Aw p e below _ T7 m 49 #[rv xx, rv sq, rv oe, iv 0] [(.int 0), (.ref ll)]
  obtain ⟨v8, T8, L8, X8, Q8, st8⟩ := callIf X7 hx hZ (m13_get l Z a0 hw ll yy h0 n0 Z0 O0 P9) e7 hown (wd_259 hw) (wd_260 hw) (wd_261 hw) (wd_262 hw) (wd_263 hw) (wd_264 hw) (wd_265 hw) (wd_257 hw) (wd_266 hw) (wd_171 hw) (by decide) (hb hby d0_49) 0 (by decide) (by decide) (by decide) (by decide) (by rw [hml]; rfl) ll P8 [(.int 0)] [] rfl (lenOf pd_8 rfl) rfl (Nat.le_of_eq rfl) (Ls := #[rv xx, rv sq, rv oe, iv 0])
  obtain ⟨rfl, M8, e8⟩ := Q8
  have N8 := Fr.app N6 M8
  refine Rch.go st8 ?_
  show Aw p e below _ T8 m 54 #[rv xx, rv sq, rv oe, iv 0] [(.ref yy)]
  obtain ⟨T9, X9, e9, st9⟩ := castY X8 hx hZ hown (wd_267 hw) e8 (Ins.self (PF1.1.keep PK)) (g := (mkF m 54 #[rv xx, rv sq, rv oe, iv 0] [(.ref yy)])) rfl rfl (hb hby d0_54)
  refine Rch.go st9 ?_
  show Aw p e below _ T9 m 57 #[rv xx, rv sq, rv oe, iv 0] [(.ref yy)]
  refine Rch.go (fun t k => XS.aloadN X9.here hx rfl (hb hby d0_57) rfl rfl k) ?_
  show Aw p e below _ T9 m 58 #[rv xx, rv sq, rv oe, iv 0] [(.ref sq), (.ref yy)]
  obtain ⟨v10, T10, L10, X10, Q10, st10⟩ := callVi X9 hx hZ (PF1.2.2 _ sq (PK.trans (Keep.refl _ _) all0) ⟨bq, kq, sqE, sqV, sqC, sqA, sqL⟩ PQ) e9 hown (wd_268 hw) (wd_199 hw) (wd_201 hw) (notFace_of_selects (args := #[]) (mvT hZ (wd_201 hw))) (wd_200 hw) (wd_202 hw) (wd_2 hw) (by decide) (hb hby d0_58) 0 (by decide) (by decide) (by decide) (by decide) (by rw [hml]; rfl) yy (PF1.1.keep PK) [(.ref sq)] [] rfl (lenOf pd_9 rfl) rfl (Nat.le_of_eq rfl) (Ls := #[rv xx, rv sq, rv oe, iv 0])
  obtain ⟨o10, rfl, M10, K10, E10, F10⟩ := Q10
  have N10 := Fr.app N8 M10
  refine Rch.go st10 ?_
  show Aw p e below _ T10 m 61 #[rv xx, rv sq, rv oe, iv 0] [(.ref o10)]
  refine Rch.go (fun t k => XS.astoreN X10.here hx rfl (hb hby d0_61) rfl rfl (l' := #[rv xx, rv sq, rv o10, iv 0]) rfl (XS.iinc X10.here hx rfl (hb hby d0_62) rfl (l' := #[rv xx, rv sq, rv o10, iv 1]) rfl (XS.goto X10.here hx rfl (pc0 := 65) (pc' := 24) rfl (hb hby d0_65) (by decide) (by decide) (XS.aloadN X10.here hx rfl (hb hby d0_24) rfl rfl k)))) ?_
  show Aw p e below _ T10 m 25 #[rv xx, rv sq, rv o10, iv 1] [(.ref o10)]
  have z11 := (Nat.le_trans Z0 K10.1)
  have o12 := (O0.keep K10 all0)
  obtain ⟨v13, T13, L13, X13, Q13, st13⟩ := callVi X10 hx hZ (m6_isEmpty l Z a0 hw o10 rr T10.heap n0 z11 o12 F10) rfl hown (wd_225 hw) (wd_226 hw) (wd_228 hw) (notFace_of_selects (args := #[]) (mvT hZ (wd_228 hw))) (wd_227 hw) (wd_229 hw) (wd_213 hw) (by decide) (hb hby d0_25) 0 (by decide) (by decide) (by decide) (by decide) (by rw [hml]; rfl) o10 E10 [] [] rfl (lenOf pd_5 rfl) rfl (Nat.le_of_eq rfl) (Ls := #[rv xx, rv sq, rv o10, iv 1])
  obtain ⟨rfl, M13, e13⟩ := Q13
  have N13 := Fr.app N10 M13
  refine Rch.go st13 ?_
  show Aw p e below _ T13 m 28 #[rv xx, rv sq, rv o10, iv 1] [(.int 0)]
  refine Rch.go (fun t k => XS.ifYes X13.here hx rfl (pc0 := 28) (pc' := 68) rfl (hb hby d0_28) rfl (by decide) (by decide) (by decide) (XS.aloadN X13.here hx rfl (hb hby d0_68) rfl rfl k)) ?_
  show Aw p e below _ T13 m 69 #[rv xx, rv sq, rv o10, iv 1] [(.ref o10)]
  refine Rch.val X13 hx (t := (.object "java/util/Optional")) hret hlk rfl (Or.inr (Or.inr (Or.inr (Or.inr ⟨rfl, rfl, rfl⟩)))) (hb hby d0_69) (by decide) (by decide) ?_
  try rw [e13]
  exact ⟨o10, rfl, N13, ((Keep.refl _ _).trans K10 all0), E10, F10⟩
theorem d10_9 : decode jdk_44_method_5_code 9 = .ok (.iload_n 1, 1) := by decide +kernel
theorem d10_10 : decode jdk_44_method_5_code 10 = .ok (.iconst 1, 1) := by decide +kernel
theorem d10_11 : decode jdk_44_method_5_code 11 = .ok (.if_icmp .ne 18, 3) := by decide +kernel
theorem d10_14 : decode jdk_44_method_5_code 14 = .ok (.aload_n 0, 1) := by decide +kernel
theorem d10_15 : decode jdk_44_method_5_code 15 = .ok (.getfield 24, 3) := by decide +kernel
theorem d10_18 : decode jdk_44_method_5_code 18 = .ok (.getstatic 19, 3) := by decide +kernel
theorem d10_21 : decode jdk_44_method_5_code 21 = .ok (.if_acmp .eq 8, 3) := by decide +kernel
theorem d10_24 : decode jdk_44_method_5_code 24 = .ok (.aload_n 0, 1) := by decide +kernel
theorem d10_25 : decode jdk_44_method_5_code 25 = .ok (.getfield 24, 3) := by decide +kernel
theorem d10_28 : decode jdk_44_method_5_code 28 = .ok (.areturn, 1) := by decide +kernel
theorem ef_m16_get (m : MethodId) (x1 : Addr) : entryFrame m #[(.ref x1), (.int 1)] 2 = mkF m 0 #[rv x1, iv 1] [] := by first | rfl | (simp [entryFrame, mkF, argsToLocals, Value.category]; done)
theorem m16_get (l : Launch) (Z : State) (a0 : Array Value) (hw : HW Z a0) (x1 x2 x3 : Addr) (h0 : Heap) (n0 : Nat) (Z0 : n0 ≤ h0.size) (O0 : Old Z n0 h0) (P1 : Fld Z h0 x1 s3' "e1" "Ljava/lang/Object;" (.ref x2)) (P2 : Sta Z Z.heap s5' "EMPTY" "Ljava/lang/Object;" (.ref x3)) (P3 : x2 ≠ x3) :
    Ctr l Z [] (⟨s3', "get", "(I)Ljava/lang/Object;"⟩ : MethodName) jdk_44_method_5_code 2 (some (.object "java/lang/Object")) #[(.ref x1), (.int 1)] h0 ({ frames := 0, cells := 0, slots := 0, locals := 0 } : Room) (fun v h L => v = some (.ref x2) ∧ Fr n0 L ∧ h = h0) := by
  refine Ctr.of (plainFor_of_name pn_java_util_ImmutableCollections_List12) (fun m => ef_m16_get m x1) ?_
  intro p e s m below meth c T0 hx hZ hby hml hown hnm hret hlk X0 e0
  have N0 := Fr.nil n0
  show Aw p e below _ T0 m 0 #[rv x1, iv 1] []
  refine Rch.go (fun t k => XS.iloadN X0.here hx rfl (hb hby d10_0) rfl  (XS.ifYes X0.here hx rfl (pc0 := 1) (pc' := 9) rfl (hb hby d10_1) rfl (by decide) (by decide) (by decide) (XS.iloadN X0.here hx rfl (hb hby d10_9) rfl  (XS.iconst X0.here hx rfl (hb hby d10_10) (XS.icmpNo X0.here hx rfl (hb hby d10_11) rfl (by decide) (XS.aloadN X0.here hx rfl (hb hby d10_14) rfl rfl k)))))) ?_
  show Aw p e below _ T0 m 15 #[rv x1, iv 1] [(.ref x1)]
  obtain ⟨T1, X1, e1, st1⟩ := getF X0 hx hZ hown (host := "") (Or.inl (wd_196 hw)) Via.refl e0 P1 (g := (mkF m 15 #[rv x1, iv 1] [(.ref x1)])) rfl rfl (hb hby d10_15)
  refine Rch.go st1 ?_
  show Aw p e below _ T1 m 18 #[rv x1, iv 1] [(.ref x2)]
  obtain ⟨T2, X2, e2, st2⟩ := getS2 X1 hx hZ hown (Or.inr (wd_195 hw)) Via.refl e1 (P2.ext O0.2) (g := (mkF m 18 #[rv x1, iv 1] [(.ref x2)])) rfl (hb hby d10_18)
  refine Rch.go st2 ?_
  show Aw p e below _ T2 m 21 #[rv x1, iv 1] [(.ref x3), (.ref x2)]
  refine Rch.go (fun t k => acmp X2 hx rfl (x := (.ref x2)) (y := (.ref x3)) rfl rfl (pc0 := 21) (pc' := 24) (same := false) rfl (hb hby d10_21) rfl (decide_eq_false (fun q => absurd (Value.ref.inj q) P3)) (by decide) (by decide) (XS.aloadN X2.here hx rfl (hb hby d10_24) rfl rfl k)) ?_
  show Aw p e below _ T2 m 25 #[rv x1, iv 1] [(.ref x1)]
  obtain ⟨T3, X3, e3, st3⟩ := getF X2 hx hZ hown (host := "") (Or.inl (wd_196 hw)) Via.refl e2 P1 (g := (mkF m 25 #[rv x1, iv 1] [(.ref x1)])) rfl rfl (hb hby d10_25)
  refine Rch.go st3 ?_
  show Aw p e below _ T3 m 28 #[rv x1, iv 1] [(.ref x2)]
  refine Rch.val X3 hx (t := (.object "java/lang/Object")) hret hlk rfl (Or.inr (Or.inr (Or.inr (Or.inr ⟨rfl, rfl, rfl⟩)))) (hb hby d10_28) (by decide) (by decide) ?_
  try rw [e3]
  exact ⟨rfl, N0, rfl⟩
theorem ef_find_2b (m : MethodId) (xx sq : Addr) : entryFrame m #[(.ref xx), (.ref sq)] 4 = mkF m 0 #[rv xx, rv sq, uu, uu] [] := by first | rfl | (simp [entryFrame, mkF, argsToLocals, Value.category]; done)
theorem find_2b (l : Launch) (Z : State) (a0 : Array Value) (hw : HW Z a0) (xx sq ss el em oe ll yy zz : Addr) (ch cq : Int32) (hE : Heap) (res : Value) (h0 : Heap) (n0 : Nat) (Z0 : n0 ≤ h0.size) (O0 : Old Z n0 h0) (PO : Oz Z el em oe) (P1 : Exa Z h0 xx s2') (P2 : Fld Z h0 xx s2' "value" "Ljava/lang/String;" (.ref ss)) (P3 : Sg Z h0 ss ch) (P4 : Sg Z h0 sq cq) (P5 : ss ≠ sq) (P6 : ¬ ((nar .byte (ch.toInt8.toInt32)) = (nar .byte (cq.toInt8.toInt32)))) (P7 : Fld Z h0 xx s2' "children" "Ljava/util/List;" (.ref ll)) (P8 : Exa Z h0 ll s3') (P9 : Fld Z h0 ll s3' "e0" "Ljava/lang/Object;" (.ref yy)) (P10 : Fld Z h0 ll s3' "e1" "Ljava/lang/Object;" (.ref zz)) (PK : Keep hE h0 []) (PQ : hE.size ≤ sq) (PF1 : FC l Z RB n0 hE yy cq .null) (PN : zz ≠ em) (PF2 : FC l Z RB n0 hE zz cq res) (hv : res.isRef = true) :
    Ctr l Z [] (⟨s2', "find", s9'⟩ : MethodName) prog_9_method_6_code 4 (some (.object "java/util/Optional")) #[(.ref xx), (.ref sq)] h0 ({ frames := 5, cells := 2, slots := 2, locals := 68 } : Room) (FQ Z n0 h0 res) := by
  refine Ctr.of (plainFor_of_name pn_com_example_harpocrates_harpocrates_data_Taxonomy) (fun m => ef_find_2b m xx sq) ?_
  intro p e s m below meth c T0 hx hZ hby hml hown hnm hret hlk X0 e0
  have N0 := Fr.nil n0
  obtain ⟨ar, kk, ww, go1, go2, go3, go4, go5, go6, go7, go8, go9⟩ := PO
  obtain ⟨bs, ks, sgE, sgV, sgC, sgA, -⟩ := P3
  obtain ⟨bq, kq, sqE, sqV, sqC, sqA, sqL⟩ := P4
  rcases ref_cases hv with rfl | ⟨rv', rfl⟩
  · show Aw p e below _ T0 m 0 #[rv xx, rv sq, uu, uu] []
    refine Rch.go (fun t k => XS.aloadN X0.here hx rfl (hb hby d0_0) rfl rfl k) ?_
    show Aw p e below _ T0 m 1 #[rv xx, rv sq, uu, uu] [(.ref xx)]
    obtain ⟨T1, X1, e1, st1⟩ := getF X0 hx hZ hown (host := "") (Or.inl (wd_103 hw)) Via.refl e0 P2 (g := (mkF m 1 #[rv xx, rv sq, uu, uu] [(.ref xx)])) rfl rfl (hb hby d0_1)
    refine Rch.go st1 ?_
    show Aw p e below _ T1 m 4 #[rv xx, rv sq, uu, uu] [(.ref ss)]
    refine Rch.go (fun t k => XS.aloadN X1.here hx rfl (hb hby d0_4) rfl rfl k) ?_
    show Aw p e below _ T1 m 5 #[rv xx, rv sq, uu, uu] [(.ref sq), (.ref ss)]
    obtain ⟨v2, T2, L2, X2, Q2, st2⟩ := callVi X1 hx hZ (m7_equals l Z a0 hw ss sq ww bs bq ks (nar .byte (ch.toInt8.toInt32)) kq (nar .byte (cq.toInt8.toInt32)) h0 n0 Z0 O0 P5 sqE go8 go9 sgC sqC sgV sqV sgA sqA P6) e1 hown (wd_203 hw) (wd_204 hw) (wd_206 hw) (notFace_of_selects (args := #[]) (mvT hZ (wd_206 hw))) (wd_205 hw) (wd_207 hw) (wd_5 hw) (by decide) (hb hby d0_5) 0 (by decide) (by decide) (by decide) (by decide) (by rw [hml]; rfl) ss sgE [(.ref sq)] [] rfl (lenOf pd_1 rfl) rfl (Nat.le_of_eq rfl) (Ls := #[rv xx, rv sq, uu, uu])
    obtain ⟨rfl, M2, e2⟩ := Q2
    have N2 := Fr.app N0 M2
    refine Rch.go st2 ?_
    show Aw p e below _ T2 m 8 #[rv xx, rv sq, uu, uu] [(.int 0)]
    refine Rch.go (fun t k => XS.ifYes X2.here hx rfl (pc0 := 8) (pc' := 18) rfl (hb hby d0_8) rfl (by decide) (by decide) (by decide) k) ?_
    show Aw p e below _ T2 m 18 #[rv xx, rv sq, uu, uu] []
    obtain ⟨v3, T3, L3, X3, Q3, st3⟩ := callSt X2 hx hZ (m9_empty l Z a0 hw oe h0 n0 Z0 O0 go5) e2 hown (wd_246 hw) (wd_247 hw) (wd_248 hw) (wd_213 hw) (by decide) (hb hby d0_18) 0 (by decide) (by decide) (by decide) (by decide) (by rw [hml]; rfl) [] [] rfl (lenOf pd_6 rfl) rfl (Nat.le_of_eq rfl) (Ls := #[rv xx, rv sq, uu, uu])
    obtain ⟨rfl, M3, e3⟩ := Q3
    have N3 := Fr.app N2 M3
    refine Rch.go st3 ?_
    show Aw p e below _ T3 m 21 #[rv xx, rv sq, uu, uu] [(.ref oe)]
    refine Rch.go (fun t k => XS.astoreN X3.here hx rfl (hb hby d0_21) rfl rfl (l' := #[rv xx, rv sq, rv oe, uu]) rfl (XS.iconst X3.here hx rfl (hb hby d0_22) (XS.istoreN X3.here hx rfl (hb hby d0_23) rfl  (l' := #[rv xx, rv sq, rv oe, iv 0]) rfl (XS.aloadN X3.here hx rfl (hb hby d0_24) rfl rfl k)))) ?_
    show Aw p e below _ T3 m 25 #[rv xx, rv sq, rv oe, iv 0] [(.ref oe)]
    obtain ⟨v4, T4, L4, X4, Q4, st4⟩ := callVi X3 hx hZ (m10_isEmpty l Z a0 hw oe h0 n0 Z0 O0 go7) e3 hown (wd_225 hw) (wd_226 hw) (wd_228 hw) (notFace_of_selects (args := #[]) (mvT hZ (wd_228 hw))) (wd_227 hw) (wd_229 hw) (wd_213 hw) (by decide) (hb hby d0_25) 0 (by decide) (by decide) (by decide) (by decide) (by rw [hml]; rfl) oe (go6.ext O0.2) [] [] rfl (lenOf pd_5 rfl) rfl (Nat.le_of_eq rfl) (Ls := #[rv xx, rv sq, rv oe, iv 0])
    obtain ⟨rfl, M4, e4⟩ := Q4
    have N4 := Fr.app N3 M4
    refine Rch.go st4 ?_
    show Aw p e below _ T4 m 28 #[rv xx, rv sq, rv oe, iv 0] [(.int 1)]
    refine Rch.go (fun t k => XS.ifNo X4.here hx rfl (hb hby d0_28) rfl (by decide) (XS.iloadN X4.here hx rfl (hb hby d0_31) rfl  (XS.aloadN X4.here hx rfl (hb hby d0_32) rfl rfl k))) ?_
    show Aw p e below _ T4 m 33 #[rv xx, rv sq, rv oe, iv 0] [(.ref xx), (.int 0)]
    obtain ⟨T5, X5, e5, st5⟩ := getF X4 hx hZ hown (host := "") (Or.inl (wd_105 hw)) Via.refl e4 P7 (g := (mkF m 33 #[rv xx, rv sq, rv oe, iv 0] [(.ref xx), (.int 0)])) rfl rfl (hb hby d0_33)
    refine Rch.go st5 ?_
    show Aw p e below _ T5 m 36 #[rv xx, rv sq, rv oe, iv 0] [(.ref ll), (.int 0)]
    obtain ⟨v6, T6, L6, X6, Q6, st6⟩ := callIf X5 hx hZ (m15_size l Z a0 hw ll zz em h0 n0 Z0 O0 P10 go4 PN) e5 hown (wd_250 hw) (wd_251 hw) (wd_252 hw) (wd_253 hw) (wd_254 hw) (wd_255 hw) (wd_256 hw) (wd_257 hw) (wd_258 hw) (wd_171 hw) (by decide) (hb hby d0_36) 1 (by decide) (by decide) (by decide) (by decide) (by rw [hml]; rfl) ll P8 [] [(.int 0)] rfl (lenOf pd_7 rfl) rfl (Nat.le_of_eq rfl) (Ls := #[rv xx, rv sq, rv oe, iv 0])
    obtain ⟨rfl, M6, e6⟩ := Q6
    have N6 := Fr.app N4 M6
    refine Rch.go st6 ?_
    show Aw p e below _ T6 m 41 #[rv xx, rv sq, rv oe, iv 0] [(.int 2), (.int 0)]
    refine Rch.go (fun t k => XS.icmpNo X6.here hx rfl (hb hby d0_41) rfl (by decide) (XS.aloadN X6.here hx rfl (hb hby d0_44) rfl rfl k)) ?_
    show Aw p e below _ T6 m 45 #[rv xx, rv sq, rv oe, iv 0] [(.ref xx)]
    obtain ⟨T7, X7, e7, st7⟩ := getF X6 hx hZ hown (host := "") (Or.inl (wd_105 hw)) Via.refl e6 P7 (g := (mkF m 45 #[rv xx, rv sq, rv oe, iv 0] [(.ref xx)])) rfl rfl (hb hby d0_45)
    refine Rch.go st7 ?_
    show Aw p e below _ T7 m 48 #[rv xx, rv sq, rv oe, iv 0] [(.ref ll)]
    refine Rch.go (fun t k => XS.iloadN X7.here hx rfl (hb hby d0_48) rfl  k) ?_
    show Aw p e below _ T7 m 49 #[rv xx, rv sq, rv oe, iv 0] [(.int 0), (.ref ll)]
    obtain ⟨v8, T8, L8, X8, Q8, st8⟩ := callIf X7 hx hZ (m13_get l Z a0 hw ll yy h0 n0 Z0 O0 P9) e7 hown (wd_259 hw) (wd_260 hw) (wd_261 hw) (wd_262 hw) (wd_263 hw) (wd_264 hw) (wd_265 hw) (wd_257 hw) (wd_266 hw) (wd_171 hw) (by decide) (hb hby d0_49) 0 (by decide) (by decide) (by decide) (by decide) (by rw [hml]; rfl) ll P8 [(.int 0)] [] rfl (lenOf pd_8 rfl) rfl (Nat.le_of_eq rfl) (Ls := #[rv xx, rv sq, rv oe, iv 0])
    obtain ⟨rfl, M8, e8⟩ := Q8
    have N8 := Fr.app N6 M8
    refine Rch.go st8 ?_
    show Aw p e below _ T8 m 54 #[rv xx, rv sq, rv oe, iv 0] [(.ref yy)]
    obtain ⟨T9, X9, e9, st9⟩ := castY X8 hx hZ hown (wd_267 hw) e8 (Ins.self (PF1.1.keep PK)) (g := (mkF m 54 #[rv xx, rv sq, rv oe, iv 0] [(.ref yy)])) rfl rfl (hb hby d0_54)
    refine Rch.go st9 ?_
    show Aw p e below _ T9 m 57 #[rv xx, rv sq, rv oe, iv 0] [(.ref yy)]
    refine Rch.go (fun t k => XS.aloadN X9.here hx rfl (hb hby d0_57) rfl rfl k) ?_
    show Aw p e below _ T9 m 58 #[rv xx, rv sq, rv oe, iv 0] [(.ref sq), (.ref yy)]
    obtain ⟨v10, T10, L10, X10, Q10, st10⟩ := callVi X9 hx hZ (PF1.2.2 _ sq (PK.trans (Keep.refl _ _) all0) ⟨bq, kq, sqE, sqV, sqC, sqA, sqL⟩ PQ) e9 hown (wd_268 hw) (wd_199 hw) (wd_201 hw) (notFace_of_selects (args := #[]) (mvT hZ (wd_201 hw))) (wd_200 hw) (wd_202 hw) (wd_2 hw) (by decide) (hb hby d0_58) 0 (by decide) (by decide) (by decide) (by decide) (by rw [hml]; rfl) yy (PF1.1.keep PK) [(.ref sq)] [] rfl (lenOf pd_9 rfl) rfl (Nat.le_of_eq rfl) (Ls := #[rv xx, rv sq, rv oe, iv 0])
    obtain ⟨o10, rfl, M10, K10, E10, F10⟩ := Q10
    have N10 := Fr.app N8 M10
    refine Rch.go st10 ?_
    show Aw p e below _ T10 m 61 #[rv xx, rv sq, rv oe, iv 0] [(.ref o10)]
    refine Rch.go (fun t k => XS.astoreN X10.here hx rfl (hb hby d0_61) rfl rfl (l' := #[rv xx, rv sq, rv o10, iv 0]) rfl (XS.iinc X10.here hx rfl (hb hby d0_62) rfl (l' := #[rv xx, rv sq, rv o10, iv 1]) rfl (XS.goto X10.here hx rfl (pc0 := 65) (pc' := 24) rfl (hb hby d0_65) (by decide) (by decide) (XS.aloadN X10.here hx rfl (hb hby d0_24) rfl rfl k)))) ?_
    show Aw p e below _ T10 m 25 #[rv xx, rv sq, rv o10, iv 1] [(.ref o10)]
    have z11 := (Nat.le_trans Z0 K10.1)
    have o12 := (O0.keep K10 all0)
    obtain ⟨v13, T13, L13, X13, Q13, st13⟩ := callVi X10 hx hZ (m14_isEmpty l Z a0 hw o10 T10.heap n0 z11 o12 F10) rfl hown (wd_225 hw) (wd_226 hw) (wd_228 hw) (notFace_of_selects (args := #[]) (mvT hZ (wd_228 hw))) (wd_227 hw) (wd_229 hw) (wd_213 hw) (by decide) (hb hby d0_25) 0 (by decide) (by decide) (by decide) (by decide) (by rw [hml]; rfl) o10 E10 [] [] rfl (lenOf pd_5 rfl) rfl (Nat.le_of_eq rfl) (Ls := #[rv xx, rv sq, rv o10, iv 1])
    obtain ⟨rfl, M13, e13⟩ := Q13
    have N13 := Fr.app N10 M13
    refine Rch.go st13 ?_
    show Aw p e below _ T13 m 28 #[rv xx, rv sq, rv o10, iv 1] [(.int 1)]
    refine Rch.go (fun t k => XS.ifNo X13.here hx rfl (hb hby d0_28) rfl (by decide) (XS.iloadN X13.here hx rfl (hb hby d0_31) rfl  (XS.aloadN X13.here hx rfl (hb hby d0_32) rfl rfl k))) ?_
    show Aw p e below _ T13 m 33 #[rv xx, rv sq, rv o10, iv 1] [(.ref xx), (.int 1)]
    have f15 := (P7.keep K10 nin0)
    obtain ⟨T14, X14, e14, st14⟩ := getF X13 hx hZ hown (host := "") (Or.inl (wd_105 hw)) Via.refl e13 f15 (g := (mkF m 33 #[rv xx, rv sq, rv o10, iv 1] [(.ref xx), (.int 1)])) rfl rfl (hb hby d0_33)
    refine Rch.go st14 ?_
    show Aw p e below _ T14 m 36 #[rv xx, rv sq, rv o10, iv 1] [(.ref ll), (.int 1)]
    have f16 := (P10.keep K10 nin0)
    have f18 := (P8.keep K10)
    obtain ⟨v17, T17, L17, X17, Q17, st17⟩ := callIf X14 hx hZ (m15_size l Z a0 hw ll zz em T10.heap n0 z11 o12 f16 go4 PN) e14 hown (wd_250 hw) (wd_251 hw) (wd_252 hw) (wd_253 hw) (wd_254 hw) (wd_255 hw) (wd_256 hw) (wd_257 hw) (wd_258 hw) (wd_171 hw) (by decide) (hb hby d0_36) 1 (by decide) (by decide) (by decide) (by decide) (by rw [hml]; rfl) ll f18 [] [(.int 1)] rfl (lenOf pd_7 rfl) rfl (Nat.le_of_eq rfl) (Ls := #[rv xx, rv sq, rv o10, iv 1])
    obtain ⟨rfl, M17, e17⟩ := Q17
    have N17 := Fr.app N13 M17
    refine Rch.go st17 ?_
    show Aw p e below _ T17 m 41 #[rv xx, rv sq, rv o10, iv 1] [(.int 2), (.int 1)]
    refine Rch.go (fun t k => XS.icmpNo X17.here hx rfl (hb hby d0_41) rfl (by decide) (XS.aloadN X17.here hx rfl (hb hby d0_44) rfl rfl k)) ?_
    show Aw p e below _ T17 m 45 #[rv xx, rv sq, rv o10, iv 1] [(.ref xx)]
    obtain ⟨T19, X19, e19, st19⟩ := getF X17 hx hZ hown (host := "") (Or.inl (wd_105 hw)) Via.refl e17 f15 (g := (mkF m 45 #[rv xx, rv sq, rv o10, iv 1] [(.ref xx)])) rfl rfl (hb hby d0_45)
    refine Rch.go st19 ?_
    show Aw p e below _ T19 m 48 #[rv xx, rv sq, rv o10, iv 1] [(.ref ll)]
    refine Rch.go (fun t k => XS.iloadN X19.here hx rfl (hb hby d0_48) rfl  k) ?_
    show Aw p e below _ T19 m 49 #[rv xx, rv sq, rv o10, iv 1] [(.int 1), (.ref ll)]
    obtain ⟨v20, T20, L20, X20, Q20, st20⟩ := callIf X19 hx hZ (m16_get l Z a0 hw ll zz em T10.heap n0 z11 o12 f16 go4 PN) e19 hown (wd_259 hw) (wd_260 hw) (wd_261 hw) (wd_262 hw) (wd_263 hw) (wd_264 hw) (wd_265 hw) (wd_257 hw) (wd_266 hw) (wd_171 hw) (by decide) (hb hby d0_49) 0 (by decide) (by decide) (by decide) (by decide) (by rw [hml]; rfl) ll f18 [(.int 1)] [] rfl (lenOf pd_8 rfl) rfl (Nat.le_of_eq rfl) (Ls := #[rv xx, rv sq, rv o10, iv 1])
    obtain ⟨rfl, M20, e20⟩ := Q20
    have N20 := Fr.app N17 M20
    refine Rch.go st20 ?_
    show Aw p e below _ T20 m 54 #[rv xx, rv sq, rv o10, iv 1] [(.ref zz)]
    have f22 := ((PF2.1.keep PK).keep K10)
    obtain ⟨T21, X21, e21, st21⟩ := castY X20 hx hZ hown (wd_267 hw) e20 (Ins.self f22) (g := (mkF m 54 #[rv xx, rv sq, rv o10, iv 1] [(.ref zz)])) rfl rfl (hb hby d0_54)
    refine Rch.go st21 ?_
    show Aw p e below _ T21 m 57 #[rv xx, rv sq, rv o10, iv 1] [(.ref zz)]
    refine Rch.go (fun t k => XS.aloadN X21.here hx rfl (hb hby d0_57) rfl rfl k) ?_
    show Aw p e below _ T21 m 58 #[rv xx, rv sq, rv o10, iv 1] [(.ref sq), (.ref zz)]
    have f23 := (sqE.keep K10)
    have f24 := (sqV.keep K10 nin0)
    have f25 := (sqC.keep K10 nin0)
    have f26 := (sqA.keep K10 nin0)
    obtain ⟨v27, T27, L27, X27, Q27, st27⟩ := callVi X21 hx hZ (PF2.2.2 _ sq (PK.trans ((Keep.refl _ _).trans K10 all0) all0) ⟨bq, kq, f23, f24, f25, f26, sqL⟩ PQ) e21 hown (wd_268 hw) (wd_199 hw) (wd_201 hw) (notFace_of_selects (args := #[]) (mvT hZ (wd_201 hw))) (wd_200 hw) (wd_202 hw) (wd_2 hw) (by decide) (hb hby d0_58) 0 (by decide) (by decide) (by decide) (by decide) (by rw [hml]; rfl) zz f22 [(.ref sq)] [] rfl (lenOf pd_9 rfl) rfl (Nat.le_of_eq rfl) (Ls := #[rv xx, rv sq, rv o10, iv 1])
    obtain ⟨o27, rfl, M27, K27, E27, F27⟩ := Q27
    have N27 := Fr.app N20 M27
    refine Rch.go st27 ?_
    show Aw p e below _ T27 m 61 #[rv xx, rv sq, rv o10, iv 1] [(.ref o27)]
    refine Rch.go (fun t k => XS.astoreN X27.here hx rfl (hb hby d0_61) rfl rfl (l' := #[rv xx, rv sq, rv o27, iv 1]) rfl (XS.iinc X27.here hx rfl (hb hby d0_62) rfl (l' := #[rv xx, rv sq, rv o27, iv 2]) rfl (XS.goto X27.here hx rfl (pc0 := 65) (pc' := 24) rfl (hb hby d0_65) (by decide) (by decide) (XS.aloadN X27.here hx rfl (hb hby d0_24) rfl rfl k)))) ?_
    show Aw p e below _ T27 m 25 #[rv xx, rv sq, rv o27, iv 2] [(.ref o27)]
    have z28 := (Nat.le_trans z11 K27.1)
    have o29 := (o12.keep K27 all0)
    obtain ⟨v30, T30, L30, X30, Q30, st30⟩ := callVi X27 hx hZ (m14_isEmpty l Z a0 hw o27 T27.heap n0 z28 o29 F27) rfl hown (wd_225 hw) (wd_226 hw) (wd_228 hw) (notFace_of_selects (args := #[]) (mvT hZ (wd_228 hw))) (wd_227 hw) (wd_229 hw) (wd_213 hw) (by decide) (hb hby d0_25) 0 (by decide) (by decide) (by decide) (by decide) (by rw [hml]; rfl) o27 E27 [] [] rfl (lenOf pd_5 rfl) rfl (Nat.le_of_eq rfl) (Ls := #[rv xx, rv sq, rv o27, iv 2])
    obtain ⟨rfl, M30, e30⟩ := Q30
    have N30 := Fr.app N27 M30
    refine Rch.go st30 ?_
    show Aw p e below _ T30 m 28 #[rv xx, rv sq, rv o27, iv 2] [(.int 1)]
    refine Rch.go (fun t k => XS.ifNo X30.here hx rfl (hb hby d0_28) rfl (by decide) (XS.iloadN X30.here hx rfl (hb hby d0_31) rfl  (XS.aloadN X30.here hx rfl (hb hby d0_32) rfl rfl k))) ?_
    show Aw p e below _ T30 m 33 #[rv xx, rv sq, rv o27, iv 2] [(.ref xx), (.int 2)]
    have f32 := (f15.keep K27 nin0)
    obtain ⟨T31, X31, e31, st31⟩ := getF X30 hx hZ hown (host := "") (Or.inl (wd_105 hw)) Via.refl e30 f32 (g := (mkF m 33 #[rv xx, rv sq, rv o27, iv 2] [(.ref xx), (.int 2)])) rfl rfl (hb hby d0_33)
    refine Rch.go st31 ?_
    show Aw p e below _ T31 m 36 #[rv xx, rv sq, rv o27, iv 2] [(.ref ll), (.int 2)]
    have f33 := (f16.keep K27 nin0)
    have f35 := (f18.keep K27)
    obtain ⟨v34, T34, L34, X34, Q34, st34⟩ := callIf X31 hx hZ (m15_size l Z a0 hw ll zz em T27.heap n0 z28 o29 f33 go4 PN) e31 hown (wd_250 hw) (wd_251 hw) (wd_252 hw) (wd_253 hw) (wd_254 hw) (wd_255 hw) (wd_256 hw) (wd_257 hw) (wd_258 hw) (wd_171 hw) (by decide) (hb hby d0_36) 1 (by decide) (by decide) (by decide) (by decide) (by rw [hml]; rfl) ll f35 [] [(.int 2)] rfl (lenOf pd_7 rfl) rfl (Nat.le_of_eq rfl) (Ls := #[rv xx, rv sq, rv o27, iv 2])
    obtain ⟨rfl, M34, e34⟩ := Q34
    have N34 := Fr.app N30 M34
    refine Rch.go st34 ?_
    show Aw p e below _ T34 m 41 #[rv xx, rv sq, rv o27, iv 2] [(.int 2), (.int 2)]
    refine Rch.go (fun t k => XS.icmpYes X34.here hx rfl (pc0 := 41) (pc' := 68) rfl (hb hby d0_41) rfl (by decide) (by decide) (by decide) (XS.aloadN X34.here hx rfl (hb hby d0_68) rfl rfl k)) ?_
    show Aw p e below _ T34 m 69 #[rv xx, rv sq, rv o27, iv 2] [(.ref o27)]
    refine Rch.val X34 hx (t := (.object "java/util/Optional")) hret hlk rfl (Or.inr (Or.inr (Or.inr (Or.inr ⟨rfl, rfl, rfl⟩)))) (hb hby d0_69) (by decide) (by decide) ?_
    try rw [e34]
    exact ⟨o27, rfl, N34, (((Keep.refl _ _).trans K10 all0).trans K27 all0), E27, F27⟩
  · show Aw p e below _ T0 m 0 #[rv xx, rv sq, uu, uu] []
    refine Rch.go (fun t k => XS.aloadN X0.here hx rfl (hb hby d0_0) rfl rfl k) ?_
    show Aw p e below _ T0 m 1 #[rv xx, rv sq, uu, uu] [(.ref xx)]
    obtain ⟨T36, X36, e36, st36⟩ := getF X0 hx hZ hown (host := "") (Or.inl (wd_103 hw)) Via.refl e0 P2 (g := (mkF m 1 #[rv xx, rv sq, uu, uu] [(.ref xx)])) rfl rfl (hb hby d0_1)
    refine Rch.go st36 ?_
    show Aw p e below _ T36 m 4 #[rv xx, rv sq, uu, uu] [(.ref ss)]
    refine Rch.go (fun t k => XS.aloadN X36.here hx rfl (hb hby d0_4) rfl rfl k) ?_
    show Aw p e below _ T36 m 5 #[rv xx, rv sq, uu, uu] [(.ref sq), (.ref ss)]
    obtain ⟨v37, T37, L37, X37, Q37, st37⟩ := callVi X36 hx hZ (m7_equals l Z a0 hw ss sq ww bs bq ks (nar .byte (ch.toInt8.toInt32)) kq (nar .byte (cq.toInt8.toInt32)) h0 n0 Z0 O0 P5 sqE go8 go9 sgC sqC sgV sqV sgA sqA P6) e36 hown (wd_203 hw) (wd_204 hw) (wd_206 hw) (notFace_of_selects (args := #[]) (mvT hZ (wd_206 hw))) (wd_205 hw) (wd_207 hw) (wd_5 hw) (by decide) (hb hby d0_5) 0 (by decide) (by decide) (by decide) (by decide) (by rw [hml]; rfl) ss sgE [(.ref sq)] [] rfl (lenOf pd_1 rfl) rfl (Nat.le_of_eq rfl) (Ls := #[rv xx, rv sq, uu, uu])
    obtain ⟨rfl, M37, e37⟩ := Q37
    have N37 := Fr.app N0 M37
    refine Rch.go st37 ?_
    show Aw p e below _ T37 m 8 #[rv xx, rv sq, uu, uu] [(.int 0)]
    refine Rch.go (fun t k => XS.ifYes X37.here hx rfl (pc0 := 8) (pc' := 18) rfl (hb hby d0_8) rfl (by decide) (by decide) (by decide) k) ?_
    show Aw p e below _ T37 m 18 #[rv xx, rv sq, uu, uu] []
    obtain ⟨v38, T38, L38, X38, Q38, st38⟩ := callSt X37 hx hZ (m9_empty l Z a0 hw oe h0 n0 Z0 O0 go5) e37 hown (wd_246 hw) (wd_247 hw) (wd_248 hw) (wd_213 hw) (by decide) (hb hby d0_18) 0 (by decide) (by decide) (by decide) (by decide) (by rw [hml]; rfl) [] [] rfl (lenOf pd_6 rfl) rfl (Nat.le_of_eq rfl) (Ls := #[rv xx, rv sq, uu, uu])
    obtain ⟨rfl, M38, e38⟩ := Q38
    have N38 := Fr.app N37 M38
    refine Rch.go st38 ?_
    show Aw p e below _ T38 m 21 #[rv xx, rv sq, uu, uu] [(.ref oe)]
    refine Rch.go (fun t k => XS.astoreN X38.here hx rfl (hb hby d0_21) rfl rfl (l' := #[rv xx, rv sq, rv oe, uu]) rfl (XS.iconst X38.here hx rfl (hb hby d0_22) (XS.istoreN X38.here hx rfl (hb hby d0_23) rfl  (l' := #[rv xx, rv sq, rv oe, iv 0]) rfl (XS.aloadN X38.here hx rfl (hb hby d0_24) rfl rfl k)))) ?_
    show Aw p e below _ T38 m 25 #[rv xx, rv sq, rv oe, iv 0] [(.ref oe)]
    obtain ⟨v39, T39, L39, X39, Q39, st39⟩ := callVi X38 hx hZ (m10_isEmpty l Z a0 hw oe h0 n0 Z0 O0 go7) e38 hown (wd_225 hw) (wd_226 hw) (wd_228 hw) (notFace_of_selects (args := #[]) (mvT hZ (wd_228 hw))) (wd_227 hw) (wd_229 hw) (wd_213 hw) (by decide) (hb hby d0_25) 0 (by decide) (by decide) (by decide) (by decide) (by rw [hml]; rfl) oe (go6.ext O0.2) [] [] rfl (lenOf pd_5 rfl) rfl (Nat.le_of_eq rfl) (Ls := #[rv xx, rv sq, rv oe, iv 0])
    obtain ⟨rfl, M39, e39⟩ := Q39
    have N39 := Fr.app N38 M39
    refine Rch.go st39 ?_
    show Aw p e below _ T39 m 28 #[rv xx, rv sq, rv oe, iv 0] [(.int 1)]
    refine Rch.go (fun t k => XS.ifNo X39.here hx rfl (hb hby d0_28) rfl (by decide) (XS.iloadN X39.here hx rfl (hb hby d0_31) rfl  (XS.aloadN X39.here hx rfl (hb hby d0_32) rfl rfl k))) ?_
    show Aw p e below _ T39 m 33 #[rv xx, rv sq, rv oe, iv 0] [(.ref xx), (.int 0)]
    obtain ⟨T40, X40, e40, st40⟩ := getF X39 hx hZ hown (host := "") (Or.inl (wd_105 hw)) Via.refl e39 P7 (g := (mkF m 33 #[rv xx, rv sq, rv oe, iv 0] [(.ref xx), (.int 0)])) rfl rfl (hb hby d0_33)
    refine Rch.go st40 ?_
    show Aw p e below _ T40 m 36 #[rv xx, rv sq, rv oe, iv 0] [(.ref ll), (.int 0)]
    obtain ⟨v41, T41, L41, X41, Q41, st41⟩ := callIf X40 hx hZ (m15_size l Z a0 hw ll zz em h0 n0 Z0 O0 P10 go4 PN) e40 hown (wd_250 hw) (wd_251 hw) (wd_252 hw) (wd_253 hw) (wd_254 hw) (wd_255 hw) (wd_256 hw) (wd_257 hw) (wd_258 hw) (wd_171 hw) (by decide) (hb hby d0_36) 1 (by decide) (by decide) (by decide) (by decide) (by rw [hml]; rfl) ll P8 [] [(.int 0)] rfl (lenOf pd_7 rfl) rfl (Nat.le_of_eq rfl) (Ls := #[rv xx, rv sq, rv oe, iv 0])
    obtain ⟨rfl, M41, e41⟩ := Q41
    have N41 := Fr.app N39 M41
    refine Rch.go st41 ?_
    show Aw p e below _ T41 m 41 #[rv xx, rv sq, rv oe, iv 0] [(.int 2), (.int 0)]
    refine Rch.go (fun t k => XS.icmpNo X41.here hx rfl (hb hby d0_41) rfl (by decide) (XS.aloadN X41.here hx rfl (hb hby d0_44) rfl rfl k)) ?_
    show Aw p e below _ T41 m 45 #[rv xx, rv sq, rv oe, iv 0] [(.ref xx)]
    obtain ⟨T42, X42, e42, st42⟩ := getF X41 hx hZ hown (host := "") (Or.inl (wd_105 hw)) Via.refl e41 P7 (g := (mkF m 45 #[rv xx, rv sq, rv oe, iv 0] [(.ref xx)])) rfl rfl (hb hby d0_45)
    refine Rch.go st42 ?_
    show Aw p e below _ T42 m 48 #[rv xx, rv sq, rv oe, iv 0] [(.ref ll)]
    refine Rch.go (fun t k => XS.iloadN X42.here hx rfl (hb hby d0_48) rfl  k) ?_
    show Aw p e below _ T42 m 49 #[rv xx, rv sq, rv oe, iv 0] [(.int 0), (.ref ll)]
    obtain ⟨v43, T43, L43, X43, Q43, st43⟩ := callIf X42 hx hZ (m13_get l Z a0 hw ll yy h0 n0 Z0 O0 P9) e42 hown (wd_259 hw) (wd_260 hw) (wd_261 hw) (wd_262 hw) (wd_263 hw) (wd_264 hw) (wd_265 hw) (wd_257 hw) (wd_266 hw) (wd_171 hw) (by decide) (hb hby d0_49) 0 (by decide) (by decide) (by decide) (by decide) (by rw [hml]; rfl) ll P8 [(.int 0)] [] rfl (lenOf pd_8 rfl) rfl (Nat.le_of_eq rfl) (Ls := #[rv xx, rv sq, rv oe, iv 0])
    obtain ⟨rfl, M43, e43⟩ := Q43
    have N43 := Fr.app N41 M43
    refine Rch.go st43 ?_
    show Aw p e below _ T43 m 54 #[rv xx, rv sq, rv oe, iv 0] [(.ref yy)]
    obtain ⟨T44, X44, e44, st44⟩ := castY X43 hx hZ hown (wd_267 hw) e43 (Ins.self (PF1.1.keep PK)) (g := (mkF m 54 #[rv xx, rv sq, rv oe, iv 0] [(.ref yy)])) rfl rfl (hb hby d0_54)
    refine Rch.go st44 ?_
    show Aw p e below _ T44 m 57 #[rv xx, rv sq, rv oe, iv 0] [(.ref yy)]
    refine Rch.go (fun t k => XS.aloadN X44.here hx rfl (hb hby d0_57) rfl rfl k) ?_
    show Aw p e below _ T44 m 58 #[rv xx, rv sq, rv oe, iv 0] [(.ref sq), (.ref yy)]
    obtain ⟨v45, T45, L45, X45, Q45, st45⟩ := callVi X44 hx hZ (PF1.2.2 _ sq (PK.trans (Keep.refl _ _) all0) ⟨bq, kq, sqE, sqV, sqC, sqA, sqL⟩ PQ) e44 hown (wd_268 hw) (wd_199 hw) (wd_201 hw) (notFace_of_selects (args := #[]) (mvT hZ (wd_201 hw))) (wd_200 hw) (wd_202 hw) (wd_2 hw) (by decide) (hb hby d0_58) 0 (by decide) (by decide) (by decide) (by decide) (by rw [hml]; rfl) yy (PF1.1.keep PK) [(.ref sq)] [] rfl (lenOf pd_9 rfl) rfl (Nat.le_of_eq rfl) (Ls := #[rv xx, rv sq, rv oe, iv 0])
    obtain ⟨o45, rfl, M45, K45, E45, F45⟩ := Q45
    have N45 := Fr.app N43 M45
    refine Rch.go st45 ?_
    show Aw p e below _ T45 m 61 #[rv xx, rv sq, rv oe, iv 0] [(.ref o45)]
    refine Rch.go (fun t k => XS.astoreN X45.here hx rfl (hb hby d0_61) rfl rfl (l' := #[rv xx, rv sq, rv o45, iv 0]) rfl (XS.iinc X45.here hx rfl (hb hby d0_62) rfl (l' := #[rv xx, rv sq, rv o45, iv 1]) rfl (XS.goto X45.here hx rfl (pc0 := 65) (pc' := 24) rfl (hb hby d0_65) (by decide) (by decide) (XS.aloadN X45.here hx rfl (hb hby d0_24) rfl rfl k)))) ?_
    show Aw p e below _ T45 m 25 #[rv xx, rv sq, rv o45, iv 1] [(.ref o45)]
    have z46 := (Nat.le_trans Z0 K45.1)
    have o47 := (O0.keep K45 all0)
    obtain ⟨v48, T48, L48, X48, Q48, st48⟩ := callVi X45 hx hZ (m14_isEmpty l Z a0 hw o45 T45.heap n0 z46 o47 F45) rfl hown (wd_225 hw) (wd_226 hw) (wd_228 hw) (notFace_of_selects (args := #[]) (mvT hZ (wd_228 hw))) (wd_227 hw) (wd_229 hw) (wd_213 hw) (by decide) (hb hby d0_25) 0 (by decide) (by decide) (by decide) (by decide) (by rw [hml]; rfl) o45 E45 [] [] rfl (lenOf pd_5 rfl) rfl (Nat.le_of_eq rfl) (Ls := #[rv xx, rv sq, rv o45, iv 1])
    obtain ⟨rfl, M48, e48⟩ := Q48
    have N48 := Fr.app N45 M48
    refine Rch.go st48 ?_
    show Aw p e below _ T48 m 28 #[rv xx, rv sq, rv o45, iv 1] [(.int 1)]
    refine Rch.go (fun t k => XS.ifNo X48.here hx rfl (hb hby d0_28) rfl (by decide) (XS.iloadN X48.here hx rfl (hb hby d0_31) rfl  (XS.aloadN X48.here hx rfl (hb hby d0_32) rfl rfl k))) ?_
    show Aw p e below _ T48 m 33 #[rv xx, rv sq, rv o45, iv 1] [(.ref xx), (.int 1)]
    have f50 := (P7.keep K45 nin0)
    obtain ⟨T49, X49, e49, st49⟩ := getF X48 hx hZ hown (host := "") (Or.inl (wd_105 hw)) Via.refl e48 f50 (g := (mkF m 33 #[rv xx, rv sq, rv o45, iv 1] [(.ref xx), (.int 1)])) rfl rfl (hb hby d0_33)
    refine Rch.go st49 ?_
    show Aw p e below _ T49 m 36 #[rv xx, rv sq, rv o45, iv 1] [(.ref ll), (.int 1)]
    have f51 := (P10.keep K45 nin0)
    have f53 := (P8.keep K45)
    obtain ⟨v52, T52, L52, X52, Q52, st52⟩ := callIf X49 hx hZ (m15_size l Z a0 hw ll zz em T45.heap n0 z46 o47 f51 go4 PN) e49 hown (wd_250 hw) (wd_251 hw) (wd_252 hw) (wd_253 hw) (wd_254 hw) (wd_255 hw) (wd_256 hw) (wd_257 hw) (wd_258 hw) (wd_171 hw) (by decide) (hb hby d0_36) 1 (by decide) (by decide) (by decide) (by decide) (by rw [hml]; rfl) ll f53 [] [(.int 1)] rfl (lenOf pd_7 rfl) rfl (Nat.le_of_eq rfl) (Ls := #[rv xx, rv sq, rv o45, iv 1])
    obtain ⟨rfl, M52, e52⟩ := Q52
    have N52 := Fr.app N48 M52
    refine Rch.go st52 ?_
    show Aw p e below _ T52 m 41 #[rv xx, rv sq, rv o45, iv 1] [(.int 2), (.int 1)]
    refine Rch.go (fun t k => XS.icmpNo X52.here hx rfl (hb hby d0_41) rfl (by decide) (XS.aloadN X52.here hx rfl (hb hby d0_44) rfl rfl k)) ?_
    show Aw p e below _ T52 m 45 #[rv xx, rv sq, rv o45, iv 1] [(.ref xx)]
    obtain ⟨T54, X54, e54, st54⟩ := getF X52 hx hZ hown (host := "") (Or.inl (wd_105 hw)) Via.refl e52 f50 (g := (mkF m 45 #[rv xx, rv sq, rv o45, iv 1] [(.ref xx)])) rfl rfl (hb hby d0_45)
    refine Rch.go st54 ?_
    show Aw p e below _ T54 m 48 #[rv xx, rv sq, rv o45, iv 1] [(.ref ll)]
    refine Rch.go (fun t k => XS.iloadN X54.here hx rfl (hb hby d0_48) rfl  k) ?_
    show Aw p e below _ T54 m 49 #[rv xx, rv sq, rv o45, iv 1] [(.int 1), (.ref ll)]
    obtain ⟨v55, T55, L55, X55, Q55, st55⟩ := callIf X54 hx hZ (m16_get l Z a0 hw ll zz em T45.heap n0 z46 o47 f51 go4 PN) e54 hown (wd_259 hw) (wd_260 hw) (wd_261 hw) (wd_262 hw) (wd_263 hw) (wd_264 hw) (wd_265 hw) (wd_257 hw) (wd_266 hw) (wd_171 hw) (by decide) (hb hby d0_49) 0 (by decide) (by decide) (by decide) (by decide) (by rw [hml]; rfl) ll f53 [(.int 1)] [] rfl (lenOf pd_8 rfl) rfl (Nat.le_of_eq rfl) (Ls := #[rv xx, rv sq, rv o45, iv 1])
    obtain ⟨rfl, M55, e55⟩ := Q55
    have N55 := Fr.app N52 M55
    refine Rch.go st55 ?_
    show Aw p e below _ T55 m 54 #[rv xx, rv sq, rv o45, iv 1] [(.ref zz)]
    have f57 := ((PF2.1.keep PK).keep K45)
    obtain ⟨T56, X56, e56, st56⟩ := castY X55 hx hZ hown (wd_267 hw) e55 (Ins.self f57) (g := (mkF m 54 #[rv xx, rv sq, rv o45, iv 1] [(.ref zz)])) rfl rfl (hb hby d0_54)
    refine Rch.go st56 ?_
    show Aw p e below _ T56 m 57 #[rv xx, rv sq, rv o45, iv 1] [(.ref zz)]
    refine Rch.go (fun t k => XS.aloadN X56.here hx rfl (hb hby d0_57) rfl rfl k) ?_
    show Aw p e below _ T56 m 58 #[rv xx, rv sq, rv o45, iv 1] [(.ref sq), (.ref zz)]
    have f58 := (sqE.keep K45)
    have f59 := (sqV.keep K45 nin0)
    have f60 := (sqC.keep K45 nin0)
    have f61 := (sqA.keep K45 nin0)
    obtain ⟨v62, T62, L62, X62, Q62, st62⟩ := callVi X56 hx hZ (PF2.2.2 _ sq (PK.trans ((Keep.refl _ _).trans K45 all0) all0) ⟨bq, kq, f58, f59, f60, f61, sqL⟩ PQ) e56 hown (wd_268 hw) (wd_199 hw) (wd_201 hw) (notFace_of_selects (args := #[]) (mvT hZ (wd_201 hw))) (wd_200 hw) (wd_202 hw) (wd_2 hw) (by decide) (hb hby d0_58) 0 (by decide) (by decide) (by decide) (by decide) (by rw [hml]; rfl) zz f57 [(.ref sq)] [] rfl (lenOf pd_9 rfl) rfl (Nat.le_of_eq rfl) (Ls := #[rv xx, rv sq, rv o45, iv 1])
    obtain ⟨o62, rfl, M62, K62, E62, F62⟩ := Q62
    have N62 := Fr.app N55 M62
    refine Rch.go st62 ?_
    show Aw p e below _ T62 m 61 #[rv xx, rv sq, rv o45, iv 1] [(.ref o62)]
    refine Rch.go (fun t k => XS.astoreN X62.here hx rfl (hb hby d0_61) rfl rfl (l' := #[rv xx, rv sq, rv o62, iv 1]) rfl (XS.iinc X62.here hx rfl (hb hby d0_62) rfl (l' := #[rv xx, rv sq, rv o62, iv 2]) rfl (XS.goto X62.here hx rfl (pc0 := 65) (pc' := 24) rfl (hb hby d0_65) (by decide) (by decide) (XS.aloadN X62.here hx rfl (hb hby d0_24) rfl rfl k)))) ?_
    show Aw p e below _ T62 m 25 #[rv xx, rv sq, rv o62, iv 2] [(.ref o62)]
    have z63 := (Nat.le_trans z46 K62.1)
    have o64 := (o47.keep K62 all0)
    obtain ⟨v65, T65, L65, X65, Q65, st65⟩ := callVi X62 hx hZ (m6_isEmpty l Z a0 hw o62 rv' T62.heap n0 z63 o64 F62) rfl hown (wd_225 hw) (wd_226 hw) (wd_228 hw) (notFace_of_selects (args := #[]) (mvT hZ (wd_228 hw))) (wd_227 hw) (wd_229 hw) (wd_213 hw) (by decide) (hb hby d0_25) 0 (by decide) (by decide) (by decide) (by decide) (by rw [hml]; rfl) o62 E62 [] [] rfl (lenOf pd_5 rfl) rfl (Nat.le_of_eq rfl) (Ls := #[rv xx, rv sq, rv o62, iv 2])
    obtain ⟨rfl, M65, e65⟩ := Q65
    have N65 := Fr.app N62 M65
    refine Rch.go st65 ?_
    show Aw p e below _ T65 m 28 #[rv xx, rv sq, rv o62, iv 2] [(.int 0)]
    refine Rch.go (fun t k => XS.ifYes X65.here hx rfl (pc0 := 28) (pc' := 68) rfl (hb hby d0_28) rfl (by decide) (by decide) (by decide) (XS.aloadN X65.here hx rfl (hb hby d0_68) rfl rfl k)) ?_
    show Aw p e below _ T65 m 69 #[rv xx, rv sq, rv o62, iv 2] [(.ref o62)]
    refine Rch.val X65 hx (t := (.object "java/util/Optional")) hret hlk rfl (Or.inr (Or.inr (Or.inr (Or.inr ⟨rfl, rfl, rfl⟩)))) (hb hby d0_69) (by decide) (by decide) ?_
    try rw [e65]
    exact ⟨o62, rfl, N65, (((Keep.refl _ _).trans K45 all0).trans K62 all0), E62, F62⟩
abbrev RC : Room := ({ frames := 5, cells := 2, slots := 2, locals := 68 } : Room)
theorem fc_hit (l : Launch) (Z : State) (a0 : Array Value) (hw : HW Z a0) {el em oe x : Addr} {c q : Int32} {h0 : Heap} {n0 : Nat} (Z0 : n0 ≤ h0.size) (O0 : Old Z n0 h0) (PO : Oz Z el em oe) (N : Nv Z h0 x c) (hq : c = q) : FC l Z RA n0 h0 x q (.ref x) := by
  obtain ⟨s, e1, e2, e3⟩ := N
  refine ⟨e1, (fun r hr => by cases hr; exact e1), fun h sq K S hs => ?_⟩
  exact (find_hit l Z a0 hw x sq s el em oe c q h n0 (Nat.le_trans Z0 K.1) (O0.keep K all0) PO (e1.keep K) (e2.keep K nin0) (e3.keep K) S (fun w => by subst w; exact absurd e3.lt (Nat.not_lt.mpr hs)) (by rw [hq])).room (by decide) (by decide) (by decide) (by decide)
theorem fc_0 (l : Launch) (Z : State) (a0 : Array Value) (hw : HW Z a0) {el em oe x : Addr} {c q : Int32} {h0 : Heap} {n0 : Nat} (Z0 : n0 ≤ h0.size) (O0 : Old Z n0 h0) (PO : Oz Z el em oe) (N : Tn0 Z h0 x el c) (hq : ¬ c = q) : FC l Z RA n0 h0 x q .null := by
  obtain ⟨⟨s, e1, e2, e3⟩, e4⟩ := N
  refine ⟨e1, (fun r hr => by cases hr), fun h sq K S hs => ?_⟩
  exact (find_0 l Z a0 hw x sq s el em oe c q h n0 (Nat.le_trans Z0 K.1) (O0.keep K all0) PO (e1.keep K) (e2.keep K nin0) (e3.keep K) S (fun w => by subst w; exact absurd e3.lt (Nat.not_lt.mpr hs)) (own_ltrne e3.ltr S.ltr hq) (e4.keep K nin0)).room (by decide) (by decide) (by decide) (by decide)
theorem fc_1A (l : Launch) (Z : State) (a0 : Array Value) (hw : HW Z a0) {el em oe x y : Addr} {c q : Int32} {res : Value} {h0 : Heap} {n0 : Nat} (Z0 : n0 ≤ h0.size) (O0 : Old Z n0 h0) (PO : Oz Z el em oe) (N : Tn1 Z h0 x y em c) (F : FC l Z RA n0 h0 y q res) (hv : res.isRef = true) (hq : ¬ c = q) : FC l Z RB n0 h0 x q res := by
  obtain ⟨⟨s, e1, e2, e3⟩, L, e4, e5, e6, e7⟩ := N
  refine ⟨e1, (F.2.1), fun h sq K S hs => ?_⟩
  exact (find_1A l Z a0 hw x sq s el em oe L y c q h0 res h n0 (Nat.le_trans Z0 K.1) (O0.keep K all0) PO (e1.keep K) (e2.keep K nin0) (e3.keep K) S (fun w => by subst w; exact absurd e3.lt (Nat.not_lt.mpr hs)) (own_ltrne e3.ltr S.ltr hq) (e4.keep K nin0) (e5.keep K) (e6.keep K nin0) (e7.keep K nin0) K hs F hv).room (by decide) (by decide) (by decide) (by decide)
theorem fc_1B (l : Launch) (Z : State) (a0 : Array Value) (hw : HW Z a0) {el em oe x y : Addr} {c q : Int32} {res : Value} {h0 : Heap} {n0 : Nat} (Z0 : n0 ≤ h0.size) (O0 : Old Z n0 h0) (PO : Oz Z el em oe) (N : Tn1 Z h0 x y em c) (F : FC l Z RB n0 h0 y q res) (hv : res.isRef = true) (hq : ¬ c = q) : FC l Z RC n0 h0 x q res := by
  obtain ⟨⟨s, e1, e2, e3⟩, L, e4, e5, e6, e7⟩ := N
  refine ⟨e1, (F.2.1), fun h sq K S hs => ?_⟩
  exact (find_1B l Z a0 hw x sq s el em oe L y c q h0 res h n0 (Nat.le_trans Z0 K.1) (O0.keep K all0) PO (e1.keep K) (e2.keep K nin0) (e3.keep K) S (fun w => by subst w; exact absurd e3.lt (Nat.not_lt.mpr hs)) (own_ltrne e3.ltr S.ltr hq) (e4.keep K nin0) (e5.keep K) (e6.keep K nin0) (e7.keep K nin0) K hs F hv).room (by decide) (by decide) (by decide) (by decide)
theorem fc_2a (l : Launch) (Z : State) (a0 : Array Value) (hw : HW Z a0) {el em oe x y z : Addr} {c q : Int32} {rr : Addr} {h0 : Heap} {n0 : Nat} (Z0 : n0 ≤ h0.size) (O0 : Old Z n0 h0) (PO : Oz Z el em oe) (N : Tn2 Z h0 x y z em c) (F : FC l Z RB n0 h0 y q (.ref rr)) (Ez : Exa Z h0 z s2') (hq : ¬ c = q) : FC l Z RC n0 h0 x q (.ref rr) := by
  obtain ⟨⟨s, e1, e2, e3⟩, en, L, e4, e5, e6, e7⟩ := N
  refine ⟨e1, (F.2.1), fun h sq K S hs => ?_⟩
  exact (find_2a l Z a0 hw x sq s el em oe L y z c q h0 rr h n0 (Nat.le_trans Z0 K.1) (O0.keep K all0) PO (e1.keep K) (e2.keep K nin0) (e3.keep K) S (fun w => by subst w; exact absurd e3.lt (Nat.not_lt.mpr hs)) (own_ltrne e3.ltr S.ltr hq) (e4.keep K nin0) (e5.keep K) (e6.keep K nin0) (e7.keep K nin0) K hs F en Ez).room (by decide) (by decide) (by decide) (by decide)
theorem fc_2b (l : Launch) (Z : State) (a0 : Array Value) (hw : HW Z a0) {el em oe x y z : Addr} {c q : Int32} {res : Value} {h0 : Heap} {n0 : Nat} (Z0 : n0 ≤ h0.size) (O0 : Old Z n0 h0) (PO : Oz Z el em oe) (N : Tn2 Z h0 x y z em c) (F : FC l Z RB n0 h0 y q .null) (F2 : FC l Z RB n0 h0 z q res) (hv : res.isRef = true) (hq : ¬ c = q) : FC l Z RC n0 h0 x q res := by
  obtain ⟨⟨s, e1, e2, e3⟩, en, L, e4, e5, e6, e7⟩ := N
  refine ⟨e1, (F2.2.1), fun h sq K S hs => ?_⟩
  exact (find_2b l Z a0 hw x sq s el em oe L y z c q h0 res h n0 (Nat.le_trans Z0 K.1) (O0.keep K all0) PO (e1.keep K) (e2.keep K nin0) (e3.keep K) S (fun w => by subst w; exact absurd e3.lt (Nat.not_lt.mpr hs)) (own_ltrne e3.ltr S.ltr hq) (e4.keep K nin0) (e5.keep K) (e6.keep K nin0) (e7.keep K nin0) K hs F en F2 hv).room (by decide) (by decide) (by decide) (by decide)
section OwnSearch
variable {l : Launch} {Z : State} {a0 : Array Value} {el em oe x y z g r : Addr} {c q hg ca cb cc cd md : Int32} {h0 : Heap} {n0 : Nat} {e : Value}
theorem own_c1 (hw : HW Z a0) (Z0 : n0 ≤ h0.size) (O0 : Old Z n0 h0) (PO : Oz Z el em oe) (C : Ch1 Z h0 x g el em hg cb cc) (E : Exp1 x g hg cb cc q e) : FC l Z RB n0 h0 x q e := by
  rcases C with ⟨k, N⟩ | ⟨k, N, M⟩
  · rcases E with ⟨h, rfl⟩ | ⟨h, h2, h3, rfl⟩ | ⟨h, -, rfl⟩
    · exact (fc_hit l Z a0 hw Z0 O0 PO N.1 h).room (by decide) (by decide) (by decide) (by decide)
    · exact absurd k h2
    · exact (fc_0 l Z a0 hw Z0 O0 PO N h).room (by decide) (by decide) (by decide) (by decide)
  · rcases E with ⟨h, rfl⟩ | ⟨h, h2, h3, rfl⟩ | ⟨h, h2, rfl⟩
    · exact (fc_hit l Z a0 hw Z0 O0 PO N.1 h).room (by decide) (by decide) (by decide) (by decide)
    · exact fc_1A l Z a0 hw Z0 O0 PO N (fc_hit l Z a0 hw Z0 O0 PO M.1 h3) rfl h
    · exact fc_1A l Z a0 hw Z0 O0 PO N (fc_0 l Z a0 hw Z0 O0 PO M (h2.resolve_left k)) rfl h
theorem own_c2 (hw : HW Z a0) (Z0 : n0 ≤ h0.size) (O0 : Old Z n0 h0) (PO : Oz Z el em oe) (N : Tn0 Z h0 y el cd) (E : Exp2 y cd q e) : FC l Z RB n0 h0 y q e := by
  rcases E with ⟨h, rfl⟩ | ⟨h, rfl⟩
  · exact (fc_hit l Z a0 hw Z0 O0 PO N.1 h).room (by decide) (by decide) (by decide) (by decide)
  · exact (fc_0 l Z a0 hw Z0 O0 PO N h).room (by decide) (by decide) (by decide) (by decide)
theorem Exp1.ref (E : Exp1 x g hg cb cc q e) : e.isRef = true := by rcases E with ⟨-, rfl⟩ | ⟨-, -, -, rfl⟩ | ⟨-, -, rfl⟩ <;> rfl
theorem Exp2.ref (E : Exp2 y cd q e) : e.isRef = true := by rcases E with ⟨-, rfl⟩ | ⟨-, rfl⟩ <;> rfl
theorem own_rh (hw : HW Z a0) (Z0 : n0 ≤ h0.size) (O0 : Old Z n0 h0) (PO : Oz Z el em oe) (R : Rt Z h0 r x y el em md ca) (h : ca = q) : FC l Z RC n0 h0 r q (.ref r) := (fc_hit l Z a0 hw Z0 O0 PO R.nv h).room (by decide) (by decide) (by decide) (by decide)
theorem own_r0 (R : Rt Z h0 r x y el em md ca) (k : md = 0) : Tn0 Z h0 r el ca := by
  rcases R with q | q | q | q | q
  · exact q.2
  · exact absurd (q.1.symm.trans k) (by decide)
  · exact absurd (q.1.symm.trans k) (by decide)
  · exact absurd (q.1.symm.trans k) (by decide)
  · exact absurd (q.1.symm.trans k) (by decide)
theorem own_r1 (R : Rt Z h0 r x y el em md ca) (k : md = 1) : Tn1 Z h0 r x em ca := by
  rcases R with q | q | q | q | q
  · exact absurd (q.1.symm.trans k) (by decide)
  · exact q.2
  · exact absurd (q.1.symm.trans k) (by decide)
  · exact absurd (q.1.symm.trans k) (by decide)
  · exact absurd (q.1.symm.trans k) (by decide)
theorem own_r2 (R : Rt Z h0 r x y el em md ca) (k : md = 2) : Tn1 Z h0 r y em ca := by
  rcases R with q | q | q | q | q
  · exact absurd (q.1.symm.trans k) (by decide)
  · exact absurd (q.1.symm.trans k) (by decide)
  · exact q.2
  · exact absurd (q.1.symm.trans k) (by decide)
  · exact absurd (q.1.symm.trans k) (by decide)
theorem own_r3 (R : Rt Z h0 r x y el em md ca) (k : md = 3) : Tn2 Z h0 r x y em ca := by
  rcases R with q | q | q | q | q
  · exact absurd (q.1.symm.trans k) (by decide)
  · exact absurd (q.1.symm.trans k) (by decide)
  · exact absurd (q.1.symm.trans k) (by decide)
  · exact q.2
  · exact absurd (q.1.symm.trans k) (by decide)
theorem own_r4 (R : Rt Z h0 r x y el em md ca) (k : md = 4) : Tn2 Z h0 r y x em ca := by
  rcases R with q | q | q | q | q
  · exact absurd (q.1.symm.trans k) (by decide)
  · exact absurd (q.1.symm.trans k) (by decide)
  · exact absurd (q.1.symm.trans k) (by decide)
  · exact absurd (q.1.symm.trans k) (by decide)
  · exact q.2
end OwnSearch
theorem d11_0 : decode method_2_code 0 = .ok (.iload_n 3, 1) := by decide +kernel
theorem d11_1 : decode method_2_code 1 = .ok (.iload 5, 2) := by decide +kernel
theorem d11_3 : decode method_2_code 3 = .ok (.if_icmp .ne 5, 3) := by decide +kernel
theorem d11_6 : decode method_2_code 6 = .ok (.aload_n 0, 1) := by decide +kernel
theorem d11_7 : decode method_2_code 7 = .ok (.areturn, 1) := by decide +kernel
theorem d11_8 : decode method_2_code 8 = .ok (.iload_n 2, 1) := by decide +kernel
theorem d11_9 : decode method_2_code 9 = .ok (.ifCond .eq 12, 3) := by decide +kernel
theorem d11_21 : decode method_2_code 21 = .ok (.aconst_null, 1) := by decide +kernel
theorem d11_22 : decode method_2_code 22 = .ok (.areturn, 1) := by decide +kernel
theorem d11_12 : decode method_2_code 12 = .ok (.iload 4, 2) := by decide +kernel
theorem d11_14 : decode method_2_code 14 = .ok (.iload 5, 2) := by decide +kernel
theorem d11_16 : decode method_2_code 16 = .ok (.if_icmp .ne 5, 3) := by decide +kernel
theorem d11_19 : decode method_2_code 19 = .ok (.aload_n 1, 1) := by decide +kernel
theorem d11_20 : decode method_2_code 20 = .ok (.areturn, 1) := by decide +kernel
theorem pn_com_example_harpocrates_harpocrates_data_TaxonomyFindPinLaw : plainName s7' = true := by first | (simp [plainName, overriddenIn]; done) | decide +kernel
theorem ef_in_1 (m : MethodId) (xx gg : Addr) (hg cb cc cq : Int32) : entryFrame m #[(.ref xx), (.ref gg), (.int hg), (.int cb), (.int cc), (.int cq)] 6 = mkF m 0 #[rv xx, rv gg, iv hg, iv cb, iv cc, iv cq] [] := by first | rfl | (simp [entryFrame, mkF, argsToLocals, Value.category]; done)
theorem in_1 (l : Launch) (Z : State) (a0 : Array Value) (hw : HW Z a0) (xx gg : Addr) (hg cb cc cq : Int32) (h0 : Heap) (n0 : Nat) (Z0 : n0 ≤ h0.size) (O0 : Old Z n0 h0) :
    Ctr l Z [] (⟨s7', "inC1", s13'⟩ : MethodName) method_2_code 6 (some (.object s2')) #[(.ref xx), (.ref gg), (.int hg), (.int cb), (.int cc), (.int cq)] h0 ({ frames := 0, cells := 0, slots := 0, locals := 0 } : Room) (fun v h L => ∃ e : Value, v = some e ∧ Exp1 xx gg hg cb cc cq e ∧ Fr n0 L ∧ h = h0) := by
  refine Ctr.of (plainFor_of_name pn_com_example_harpocrates_harpocrates_data_TaxonomyFindPinLaw) (fun m => ef_in_1 m xx gg hg cb cc cq) ?_
  intro p e s m below meth c T0 hx hZ hby hml hown hnm hret hlk X0 e0
  have N0 := Fr.nil n0
  show Aw p e below _ T0 m 0 #[rv xx, rv gg, iv hg, iv cb, iv cc, iv cq] []
  refine Rch.go (fun t k => XS.iloadN X0.here hx rfl (hb hby d11_0) rfl  (XS.iload X0.here hx rfl (hb hby d11_1) rfl  k)) ?_
  show Aw p e below _ T0 m 3 #[rv xx, rv gg, iv hg, iv cb, iv cc, iv cq] [(.int cq), (.int cb)]
  by_cases hf3 : cb = cq
  · show Aw p e below _ T0 m 3 #[rv xx, rv gg, iv hg, iv cb, iv cc, iv cq] [(.int cq), (.int cb)]
    refine Rch.go (fun t k => XS.icmpNo X0.here hx rfl (hb hby d11_3) rfl (XT.ii_ne_f hf3) (XS.aloadN X0.here hx rfl (hb hby d11_6) rfl rfl k)) ?_
    show Aw p e below _ T0 m 7 #[rv xx, rv gg, iv hg, iv cb, iv cc, iv cq] [(.ref xx)]
    refine Rch.val X0 hx (t := (.object s2')) hret hlk rfl (Or.inr (Or.inr (Or.inr (Or.inr ⟨rfl, rfl, rfl⟩)))) (hb hby d11_7) (by decide) (by decide) ?_
    try rw [e0]
    exact ⟨_, rfl, (Or.inl ⟨hf3, rfl⟩), N0, rfl⟩
  · show Aw p e below _ T0 m 3 #[rv xx, rv gg, iv hg, iv cb, iv cc, iv cq] [(.int cq), (.int cb)]
    refine Rch.go (fun t k => XS.icmpYes X0.here hx rfl (pc0 := 3) (pc' := 8) rfl (hb hby d11_3) rfl (XT.ii_ne_t hf3) (by decide) (by decide) (XS.iloadN X0.here hx rfl (hb hby d11_8) rfl  k)) ?_
    show Aw p e below _ T0 m 9 #[rv xx, rv gg, iv hg, iv cb, iv cc, iv cq] [(.int hg)]
    by_cases hf9 : hg = (0 : Int32)
    · show Aw p e below _ T0 m 9 #[rv xx, rv gg, iv hg, iv cb, iv cc, iv cq] [(.int hg)]
      refine Rch.go (fun t k => XS.ifYes X0.here hx rfl (pc0 := 9) (pc' := 21) rfl (hb hby d11_9) rfl (XT.i0_eq_t hf9) (by decide) (by decide) (XS.aconstNull X0.here hx rfl (hb hby d11_21) k)) ?_
      show Aw p e below _ T0 m 22 #[rv xx, rv gg, iv hg, iv cb, iv cc, iv cq] [.null]
      refine Rch.val X0 hx (t := (.object s2')) hret hlk rfl (Or.inr (Or.inr (Or.inr (Or.inr ⟨rfl, rfl, rfl⟩)))) (hb hby d11_22) (by decide) (by decide) ?_
      try rw [e0]
      exact ⟨_, rfl, (Or.inr (Or.inr ⟨hf3, Or.inl hf9, rfl⟩)), N0, rfl⟩
    · show Aw p e below _ T0 m 9 #[rv xx, rv gg, iv hg, iv cb, iv cc, iv cq] [(.int hg)]
      refine Rch.go (fun t k => XS.ifNo X0.here hx rfl (hb hby d11_9) rfl (XT.i0_eq_f hf9) (XS.iload X0.here hx rfl (hb hby d11_12) rfl  (XS.iload X0.here hx rfl (hb hby d11_14) rfl  k))) ?_
      show Aw p e below _ T0 m 16 #[rv xx, rv gg, iv hg, iv cb, iv cc, iv cq] [(.int cq), (.int cc)]
      by_cases hf16 : cc = cq
      · show Aw p e below _ T0 m 16 #[rv xx, rv gg, iv hg, iv cb, iv cc, iv cq] [(.int cq), (.int cc)]
        refine Rch.go (fun t k => XS.icmpNo X0.here hx rfl (hb hby d11_16) rfl (XT.ii_ne_f hf16) (XS.aloadN X0.here hx rfl (hb hby d11_19) rfl rfl k)) ?_
        show Aw p e below _ T0 m 20 #[rv xx, rv gg, iv hg, iv cb, iv cc, iv cq] [(.ref gg)]
        refine Rch.val X0 hx (t := (.object s2')) hret hlk rfl (Or.inr (Or.inr (Or.inr (Or.inr ⟨rfl, rfl, rfl⟩)))) (hb hby d11_20) (by decide) (by decide) ?_
        try rw [e0]
        exact ⟨_, rfl, (Or.inr (Or.inl ⟨hf3, hf9, hf16, rfl⟩)), N0, rfl⟩
      · show Aw p e below _ T0 m 16 #[rv xx, rv gg, iv hg, iv cb, iv cc, iv cq] [(.int cq), (.int cc)]
        refine Rch.go (fun t k => XS.icmpYes X0.here hx rfl (pc0 := 16) (pc' := 21) rfl (hb hby d11_16) rfl (XT.ii_ne_t hf16) (by decide) (by decide) (XS.aconstNull X0.here hx rfl (hb hby d11_21) k)) ?_
        show Aw p e below _ T0 m 22 #[rv xx, rv gg, iv hg, iv cb, iv cc, iv cq] [.null]
        refine Rch.val X0 hx (t := (.object s2')) hret hlk rfl (Or.inr (Or.inr (Or.inr (Or.inr ⟨rfl, rfl, rfl⟩)))) (hb hby d11_22) (by decide) (by decide) ?_
        try rw [e0]
        exact ⟨_, rfl, (Or.inr (Or.inr ⟨hf3, Or.inr hf16, rfl⟩)), N0, rfl⟩
theorem d12_0 : decode method_3_code 0 = .ok (.iload_n 1, 1) := by decide +kernel
theorem d12_1 : decode method_3_code 1 = .ok (.iload_n 2, 1) := by decide +kernel
theorem d12_2 : decode method_3_code 2 = .ok (.if_icmp .ne 5, 3) := by decide +kernel
theorem d12_5 : decode method_3_code 5 = .ok (.aload_n 0, 1) := by decide +kernel
theorem d12_6 : decode method_3_code 6 = .ok (.areturn, 1) := by decide +kernel
theorem d12_7 : decode method_3_code 7 = .ok (.aconst_null, 1) := by decide +kernel
theorem d12_8 : decode method_3_code 8 = .ok (.areturn, 1) := by decide +kernel
theorem ef_in_2 (m : MethodId) (yy : Addr) (cd cq : Int32) : entryFrame m #[(.ref yy), (.int cd), (.int cq)] 3 = mkF m 0 #[rv yy, iv cd, iv cq] [] := by first | rfl | (simp [entryFrame, mkF, argsToLocals, Value.category]; done)
theorem in_2 (l : Launch) (Z : State) (a0 : Array Value) (hw : HW Z a0) (yy : Addr) (cd cq : Int32) (h0 : Heap) (n0 : Nat) (Z0 : n0 ≤ h0.size) (O0 : Old Z n0 h0) :
    Ctr l Z [] (⟨s7', "inC2", s14'⟩ : MethodName) method_3_code 3 (some (.object s2')) #[(.ref yy), (.int cd), (.int cq)] h0 ({ frames := 0, cells := 0, slots := 0, locals := 0 } : Room) (fun v h L => ∃ e : Value, v = some e ∧ Exp2 yy cd cq e ∧ Fr n0 L ∧ h = h0) := by
  refine Ctr.of (plainFor_of_name pn_com_example_harpocrates_harpocrates_data_TaxonomyFindPinLaw) (fun m => ef_in_2 m yy cd cq) ?_
  intro p e s m below meth c T0 hx hZ hby hml hown hnm hret hlk X0 e0
  have N0 := Fr.nil n0
  show Aw p e below _ T0 m 0 #[rv yy, iv cd, iv cq] []
  refine Rch.go (fun t k => XS.iloadN X0.here hx rfl (hb hby d12_0) rfl  (XS.iloadN X0.here hx rfl (hb hby d12_1) rfl  k)) ?_
  show Aw p e below _ T0 m 2 #[rv yy, iv cd, iv cq] [(.int cq), (.int cd)]
  by_cases hf2 : cd = cq
  · show Aw p e below _ T0 m 2 #[rv yy, iv cd, iv cq] [(.int cq), (.int cd)]
    refine Rch.go (fun t k => XS.icmpNo X0.here hx rfl (hb hby d12_2) rfl (XT.ii_ne_f hf2) (XS.aloadN X0.here hx rfl (hb hby d12_5) rfl rfl k)) ?_
    show Aw p e below _ T0 m 6 #[rv yy, iv cd, iv cq] [(.ref yy)]
    refine Rch.val X0 hx (t := (.object s2')) hret hlk rfl (Or.inr (Or.inr (Or.inr (Or.inr ⟨rfl, rfl, rfl⟩)))) (hb hby d12_6) (by decide) (by decide) ?_
    try rw [e0]
    exact ⟨_, rfl, (Or.inl ⟨hf2, rfl⟩), N0, rfl⟩
  · show Aw p e below _ T0 m 2 #[rv yy, iv cd, iv cq] [(.int cq), (.int cd)]
    refine Rch.go (fun t k => XS.icmpYes X0.here hx rfl (pc0 := 2) (pc' := 7) rfl (hb hby d12_2) rfl (XT.ii_ne_t hf2) (by decide) (by decide) (XS.aconstNull X0.here hx rfl (hb hby d12_7) k)) ?_
    show Aw p e below _ T0 m 8 #[rv yy, iv cd, iv cq] [.null]
    refine Rch.val X0 hx (t := (.object s2')) hret hlk rfl (Or.inr (Or.inr (Or.inr (Or.inr ⟨rfl, rfl, rfl⟩)))) (hb hby d12_8) (by decide) (by decide) ?_
    try rw [e0]
    exact ⟨_, rfl, (Or.inr ⟨hf2, rfl⟩), N0, rfl⟩
theorem own_c1x {Z : State} {h : Heap} {x g el em : Addr} {hg cb cc : Int32} (C : Ch1 Z h x g el em hg cb cc) : Exa Z h x s2' := by
  rcases C with q | q
  · exact q.2.1.exa
  · exact q.2.1.1.exa
theorem wd_0 {Z a0} (hw : HW Z a0) : (Cond.classLink s7' (7 : Nat) s2').before a0 Z = true := hw.at 0 rfl
theorem wd_1 {Z a0} (hw : HW Z a0) : (Cond.instantiable s2' (2 : Nat)).before a0 Z = true := hw.at 1 rfl
theorem wd_104 {Z a0} (hw : HW Z a0) : (Cond.laysFinal s2' s2' "value" "Ljava/lang/String;").before a0 Z = true := hw.at 104 rfl
theorem wd_106 {Z a0} (hw : HW Z a0) : (Cond.laysFinal s2' s2' "children" "Ljava/util/List;").before a0 Z = true := hw.at 106 rfl
theorem wd_3 {Z a0} (hw : HW Z a0) : (Cond.methodLink s7' (9 : Nat) ⟨"java/lang/String", "valueOf", "(C)Ljava/lang/String;"⟩).before a0 Z = true := hw.at 3 rfl
theorem d13_0 : decode jdk_42_method_139_code 0 = .ok (.getstatic 38, 3) := by decide +kernel
theorem d13_3 : decode jdk_42_method_139_code 3 = .ok (.ifCond .eq 23, 3) := by decide +kernel
theorem d13_6 : decode jdk_42_method_139_code 6 = .ok (.iload_n 0, 1) := by decide +kernel
theorem d13_7 : decode jdk_42_method_139_code 7 = .ok (.invokestatic 1015, 3) := by decide +kernel
theorem wd_8 {Z a0} (hw : HW Z a0) : (Cond.methodLink "java/lang/String" (1015 : Nat) ⟨"java/lang/StringLatin1", "canEncode", "(C)Z"⟩).before a0 Z = true := hw.at 8 rfl
theorem d14_0 : decode jdk_43_method_3_code 0 = .ok (.iload_n 0, 1) := by decide +kernel
theorem d14_1 : decode jdk_43_method_3_code 1 = .ok (.sipush 255, 3) := by decide +kernel
theorem d14_4 : decode jdk_43_method_3_code 4 = .ok (.if_icmp .gt 7, 3) := by decide +kernel
theorem d14_7 : decode jdk_43_method_3_code 7 = .ok (.iconst 1, 1) := by decide +kernel
theorem d14_8 : decode jdk_43_method_3_code 8 = .ok (.goto 4, 3) := by decide +kernel
theorem d14_12 : decode jdk_43_method_3_code 12 = .ok (.ireturn, 1) := by decide +kernel
theorem ef_m19_canEncode (m : MethodId) (y1 : Int32) : entryFrame m #[(.int y1)] 1 = mkF m 0 #[iv y1] [] := by first | rfl | (simp [entryFrame, mkF, argsToLocals, Value.category]; done)
theorem m19_canEncode (l : Launch) (Z : State) (a0 : Array Value) (hw : HW Z a0) (y1 : Int32) (h0 : Heap) (n0 : Nat) (Z0 : n0 ≤ h0.size) (O0 : Old Z n0 h0) (P1 : ¬ ((255 : Int32) < y1)) :
    Ctr l Z [] (⟨"java/lang/StringLatin1", "canEncode", "(C)Z"⟩ : MethodName) jdk_43_method_3_code 1 (some .boolean) #[(.int y1)] h0 ({ frames := 0, cells := 0, slots := 0, locals := 0 } : Room) (fun v h L => v = some (.int 1) ∧ Fr n0 L ∧ h = h0) := by
  refine Ctr.of (plainFor_of_name pn_java_lang_StringLatin1) (fun m => ef_m19_canEncode m y1) ?_
  intro p e s m below meth c T0 hx hZ hby hml hown hnm hret hlk X0 e0
  have N0 := Fr.nil n0
  show Aw p e below _ T0 m 0 #[iv y1] []
  refine Rch.go (fun t k => XS.iloadN X0.here hx rfl (hb hby d14_0) rfl  (XS.sipush X0.here hx rfl (hb hby d14_1) (XS.icmpNo X0.here hx rfl (hb hby d14_4) rfl (XT.ii_gt_f P1) (XS.iconst X0.here hx rfl (hb hby d14_7) (XS.goto X0.here hx rfl (pc0 := 8) (pc' := 12) rfl (hb hby d14_8) (by decide) (by decide) k))))) ?_
  show Aw p e below _ T0 m 12 #[iv y1] [(.int 1)]
  refine Rch.val X0 hx (t := .boolean) hret hlk rfl (mayI (by simp)) (hb hby d14_12) (by decide) (by decide) ?_
  try rw [e0]
  exact ⟨rfl, N0, rfl⟩
theorem wd_11 {Z a0} (hw : HW Z a0) : (Cond.code ⟨"java/lang/StringLatin1", "canEncode", "(C)Z"⟩ jdk_43_method_3_code (1 : Nat) (Option.some FieldType.boolean)).before a0 Z = true := hw.at 11 rfl
theorem pd_10 : parseMethodDescriptor "(C)Z" = some ⟨[.char], some .boolean⟩ := by decide +kernel
theorem wd_9 {Z a0} (hw : HW Z a0) : (Cond.static ⟨"java/lang/StringLatin1", "canEncode", "(C)Z"⟩).before a0 Z = true := hw.at 9 rfl
theorem d13_10 : decode jdk_42_method_139_code 10 = .ok (.ifCond .eq 16, 3) := by decide +kernel
theorem d13_13 : decode jdk_42_method_139_code 13 = .ok (.new 10, 3) := by decide +kernel
theorem wd_13 {Z a0} (hw : HW Z a0) : (Cond.instantiable "java/lang/String" (4 : Nat)).before a0 Z = true := hw.at 13 rfl
theorem wd_26 {Z a0} (hw : HW Z a0) : (Cond.laysFinal "java/lang/String" "java/lang/String" "value" "[B").before a0 Z = true := hw.at 26 rfl
theorem wd_28 {Z a0} (hw : HW Z a0) : (Cond.laysFinal "java/lang/String" "java/lang/String" "coder" "B").before a0 Z = true := hw.at 28 rfl
theorem d13_16 : decode jdk_42_method_139_code 16 = .ok (.dup, 1) := by decide +kernel
theorem d13_17 : decode jdk_42_method_139_code 17 = .ok (.iload_n 0, 1) := by decide +kernel
theorem d13_18 : decode jdk_42_method_139_code 18 = .ok (.invokestatic 1018, 3) := by decide +kernel
theorem wd_14 {Z a0} (hw : HW Z a0) : (Cond.methodLink "java/lang/String" (1018 : Nat) ⟨"java/lang/StringLatin1", "toBytes", "(C)[B"⟩).before a0 Z = true := hw.at 14 rfl
theorem d15_0 : decode jdk_43_method_46_code 0 = .ok (.iconst 1, 1) := by decide +kernel
theorem d15_1 : decode jdk_43_method_46_code 1 = .ok (.newarray .byte, 2) := by decide +kernel
theorem wd_17 {Z a0} (hw : HW Z a0) : (Cond.arrayClass FieldType.byte).before a0 Z = true := hw.at 17 rfl
theorem d15_3 : decode jdk_43_method_46_code 3 = .ok (.dup, 1) := by decide +kernel
theorem d15_4 : decode jdk_43_method_46_code 4 = .ok (.iconst 0, 1) := by decide +kernel
theorem d15_5 : decode jdk_43_method_46_code 5 = .ok (.iload_n 0, 1) := by decide +kernel
theorem d15_6 : decode jdk_43_method_46_code 6 = .ok (.i2b, 1) := by decide +kernel
theorem d15_7 : decode jdk_43_method_46_code 7 = .ok (.bastore, 1) := by decide +kernel
theorem d15_8 : decode jdk_43_method_46_code 8 = .ok (.areturn, 1) := by decide +kernel
theorem ef_m20_toBytes (m : MethodId) (y1 : Int32) : entryFrame m #[(.int y1)] 1 = mkF m 0 #[iv y1] [] := by first | rfl | (simp [entryFrame, mkF, argsToLocals, Value.category]; done)
theorem m20_toBytes (l : Launch) (Z : State) (a0 : Array Value) (hw : HW Z a0) (y1 : Int32) (h0 : Heap) (n0 : Nat) (Z0 : n0 ≤ h0.size) (O0 : Old Z n0 h0) :
    Ctr l Z [] (⟨"java/lang/StringLatin1", "toBytes", "(C)[B"⟩ : MethodName) jdk_43_method_46_code 1 (some (.array .byte)) #[(.int y1)] h0 ({ frames := 0, cells := 1, slots := 1, locals := 0 } : Room) (fun v h L => ∃ (b1 : Addr) (k1 : ClassId), v = some (.ref b1) ∧ Fr n0 L ∧ Keep h0 h [] ∧ h0.size ≤ b1 ∧ Exa Z h b1 "[B" ∧ Arv Z h b1 k1 .byte (1 : Int32) [(.int (nar .byte (y1.toInt8.toInt32)))] (.int 0)) := by
  refine Ctr.of (plainFor_of_name pn_java_lang_StringLatin1) (fun m => ef_m20_toBytes m y1) ?_
  intro p e s m below meth c T0 hx hZ hby hml hown hnm hret hlk X0 e0
  have N0 := Fr.nil n0
  show Aw p e below _ T0 m 0 #[iv y1] []
  refine Rch.go (fun t k => XS.iconst X0.here hx rfl (hb hby d15_0) k) ?_
  show Aw p e below _ T0 m 1 #[iv y1] [(.int 1)]
  obtain ⟨T1, h1, k1, X1, e1, E1, A1, B1, st1⟩ := newPE (aty := .byte) X0 hx hZ (wd_17 hw) e0 (g := (mkF m 1 #[iv y1] [(.int 1)])) rfl (hb hby d15_1) rfl (by decide) (cap := 1) (by decide) (by decide) (by decide) (by decide) (ad := "[B") (by decide +kernel)
  obtain ⟨b1, g1⟩ : ∃ z, z = h0.size := ⟨_, rfl⟩
  rw [← g1] at A1 B1 st1
  refine Rch.go st1 ?_
  have g_b1 : n0 ≤ b1 := Nat.le_trans Z0 (Nat.le_of_eq g1.symm)
  have V1 : Arv Z h1 b1 k1 .byte (1 : Int32) [(.int 0)] (.int 0) := (Arv.new A1 (by decide)).pad (pad_rep [] (.int 0) 1)
  show Aw p e below _ T1 m 3 #[iv y1] [(.ref b1)]
  refine Rch.go (fun t k => XS.dup X1.here hx rfl (hb hby d15_3) rfl rfl (XS.iconst X1.here hx rfl (hb hby d15_4) (XS.iloadN X1.here hx rfl (hb hby d15_5) rfl  (XS.i2b X1.here hx rfl (hb hby d15_6) rfl k)))) ?_
  show Aw p e below _ T1 m 7 #[iv y1] [(.int (y1.toInt8.toInt32)), (.int 0), (.ref b1), (.ref b1)]
  obtain ⟨c2, r2, q2, s2, u2, H2, G2⟩ := id V1
  obtain ⟨T3, h3, X3, e3, W3, st3⟩ := stB X1 hx hZ e1 r2 (j := (0 : Int32)) (inb_of s2 (by decide)) (g := (mkF m 7 #[iv y1] [(.int (y1.toInt8.toInt32)), (.int 0), (.ref b1), (.ref b1)])) rfl rfl (hb hby d15_7)
  refine Rch.go st3 ?_
  have V3 : Arv Z h3 b1 k1 .byte (1 : Int32) [(.int (nar .byte (y1.toInt8.toInt32)))] (.int 0) := Arv.set r2 q2 s2 u2 H2 G2 (fits_nar_byte _) W3 0 rfl (Nat.le_of_ble_eq_true rfl)
  have N3 := Fr.snoc X3 N0 g_b1
  show Aw p e below _ T3 m 8 #[iv y1] [(.ref b1)]
  have f4 := (B1.wr W3)
  refine Rch.val X3 hx (t := (.array .byte)) hret hlk rfl (Or.inr (Or.inr (Or.inr (Or.inr ⟨rfl, rfl, rfl⟩)))) (hb hby d15_8) (by decide) (by decide) ?_
  try rw [e3]
  exact ⟨b1, k1, rfl, N3, (((Keep.refl _ _).ext E1).wr W3 (Or.inr (Nat.le_trans (Nat.le_refl _) (Nat.le_of_eq g1.symm)))), (Nat.le_trans (Nat.le_refl _) (Nat.le_of_eq g1.symm)), f4, V3⟩
theorem wd_16 {Z a0} (hw : HW Z a0) : (Cond.code ⟨"java/lang/StringLatin1", "toBytes", "(C)[B"⟩ jdk_43_method_46_code (1 : Nat) (Option.some (FieldType.array FieldType.byte))).before a0 Z = true := hw.at 16 rfl
theorem pd_11 : parseMethodDescriptor "(C)[B" = some ⟨[.char], some (.array .byte)⟩ := by decide +kernel
theorem wd_15 {Z a0} (hw : HW Z a0) : (Cond.static ⟨"java/lang/StringLatin1", "toBytes", "(C)[B"⟩).before a0 Z = true := hw.at 15 rfl
theorem d13_21 : decode jdk_42_method_139_code 21 = .ok (.iconst 0, 1) := by decide +kernel
theorem d13_22 : decode jdk_42_method_139_code 22 = .ok (.invokespecial 209, 3) := by decide +kernel
theorem wd_18 {Z a0} (hw : HW Z a0) : (Cond.methodLink "java/lang/String" (209 : Nat) ⟨"java/lang/String", "<init>", "([BB)V"⟩).before a0 Z = true := hw.at 18 rfl
theorem d16_0 : decode jdk_42_method_151_code 0 = .ok (.aload_n 0, 1) := by decide +kernel
theorem d16_1 : decode jdk_42_method_151_code 1 = .ok (.invokespecial 1, 3) := by decide +kernel
theorem wd_22 {Z a0} (hw : HW Z a0) : (Cond.methodLink "java/lang/String" (1 : Nat) ⟨"java/lang/Object", "<init>", "()V"⟩).before a0 Z = true := hw.at 22 rfl
theorem d16_4 : decode jdk_42_method_151_code 4 = .ok (.aload_n 0, 1) := by decide +kernel
theorem d16_5 : decode jdk_42_method_151_code 5 = .ok (.aload_n 1, 1) := by decide +kernel
theorem d16_6 : decode jdk_42_method_151_code 6 = .ok (.putfield 9, 3) := by decide +kernel
theorem d16_9 : decode jdk_42_method_151_code 9 = .ok (.aload_n 0, 1) := by decide +kernel
theorem d16_10 : decode jdk_42_method_151_code 10 = .ok (.iload_n 2, 1) := by decide +kernel
theorem d16_11 : decode jdk_42_method_151_code 11 = .ok (.putfield 15, 3) := by decide +kernel
theorem d16_14 : decode jdk_42_method_151_code 14 = .ok (.return_, 1) := by decide +kernel
theorem ef_m21_init (m : MethodId) (x1 x2 : Addr) : entryFrame m #[(.ref x1), (.ref x2), (.int 0)] 3 = mkF m 0 #[rv x1, rv x2, iv 0] [] := by first | rfl | (simp [entryFrame, mkF, argsToLocals, Value.category]; done)
theorem m21_init (l : Launch) (Z : State) (a0 : Array Value) (hw : HW Z a0) (x1 x2 : Addr) (h0 : Heap) (n0 : Nat) (Z0 : n0 ≤ h0.size) (O0 : Old Z n0 h0) (P1 : Exa Z h0 x1 "java/lang/String") (P2 : Fld Z h0 x1 "java/lang/String" "value" "[B" .null) (P3 : n0 ≤ x1) (P4 : Fld Z h0 x1 "java/lang/String" "coder" "B" (.int 0)) :
    Ctr l Z [] (⟨"java/lang/String", "<init>", "([BB)V"⟩ : MethodName) jdk_42_method_151_code 3 none #[(.ref x1), (.ref x2), (.int 0)] h0 ({ frames := 1, cells := 0, slots := 0, locals := 12 } : Room) (fun v h L => v = none ∧ Fr n0 L ∧ Keep h0 h [x1] ∧ Fld Z h x1 "java/lang/String" "value" "[B" (.ref x2) ∧ Fld Z h x1 "java/lang/String" "coder" "B" (.int 0)) := by
  refine Ctr.of (plainFor_of_name pn_java_lang_String) (fun m => ef_m21_init m x1 x2) ?_
  intro p e s m below meth c T0 hx hZ hby hml hown hnm hret hlk X0 e0
  have N0 := Fr.nil n0
  show Aw p e below _ T0 m 0 #[rv x1, rv x2, iv 0] []
  refine Rch.go (fun t k => XS.aloadN X0.here hx rfl (hb hby d16_0) rfl rfl k) ?_
  show Aw p e below _ T0 m 1 #[rv x1, rv x2, iv 0] [(.ref x1)]
  obtain ⟨T1, X1, e1, st1⟩ := initO X0 hx hZ hown (wd_22 hw) (wd_23 hw) (wd_24 hw) e0 (g := (mkF m 1 #[rv x1, rv x2, iv 0] [(.ref x1)])) rfl (by rw [hml]; rfl) rfl (hb hby d16_1) (by decide) (W := 0) (by show 2 * 0 + _ ≤ _; exact Nat.le_of_eq rfl) (by decide)
  refine Rch.go st1 ?_
  show Aw p e below _ T1 m 4 #[rv x1, rv x2, iv 0] []
  refine Rch.go (fun t k => XS.aloadN X1.here hx rfl (hb hby d16_4) rfl rfl (XS.aloadN X1.here hx rfl (hb hby d16_5) rfl rfl k)) ?_
  show Aw p e below _ T1 m 6 #[rv x1, rv x2, iv 0] [(.ref x2), (.ref x1)]
  obtain ⟨T2, h2, X2, e2, W2, st2⟩ := putF X1 hx hZ hown (host := "") (Or.inl (wd_25 hw)) Via.refl e1 P2 P1 (Or.inr ⟨(wd_26 hw), rfl, hnm⟩) (wd_13 hw) (ty := (.array .byte)) (by decide) rfl rfl (g := (mkF m 6 #[rv x1, rv x2, iv 0] [(.ref x2), (.ref x1)])) rfl rfl (hb hby d16_6)
  refine Rch.go st2 ?_
  have F2 := P2.same W2
  have N2 := Fr.snoc X2 N0 P3
  show Aw p e below _ T2 m 9 #[rv x1, rv x2, iv 0] []
  refine Rch.go (fun t k => XS.aloadN X2.here hx rfl (hb hby d16_9) rfl rfl (XS.iloadN X2.here hx rfl (hb hby d16_10) rfl  k)) ?_
  show Aw p e below _ T2 m 11 #[rv x1, rv x2, iv 0] [(.int 0), (.ref x1)]
  have f4 := (P4.other W2 (Or.inr (slot_ne (Or.inr (wd_28 hw)) (Or.inr (wd_26 hw)) (by decide) (t := .byte) (t' := (.array .byte)) (by decide) (by decide))))
  have f5 := (P1.wr W2)
  obtain ⟨T3, h3, X3, e3, W3, st3⟩ := putFN X2 hx hZ hown (wd_27 hw) Via.refl e2 f4 f5 (Or.inr ⟨(wd_28 hw), rfl, hnm⟩) (wd_13 hw) (ty := .byte) (v' := (.int 0)) (by decide) rfl rfl (g := (mkF m 11 #[rv x1, rv x2, iv 0] [(.int 0), (.ref x1)])) rfl rfl (hb hby d16_11)
  refine Rch.go st3 ?_
  have F3 := f4.same W3
  have N3 := Fr.snoc X3 N2 P3
  show Aw p e below _ T3 m 14 #[rv x1, rv x2, iv 0] []
  have f6 := (F2.other W3 (Or.inr (slot_ne (Or.inr (wd_26 hw)) (Or.inr (wd_28 hw)) (by decide) (t := (.array .byte)) (t' := .byte) (by decide) (by decide))))
  refine Rch.void X3 hx hret hlk (hb hby d16_14) (by decide) (by decide) ?_
  try rw [e3]
  exact ⟨rfl, N3, (((Keep.refl _ _).wr W2 (Or.inl (List.mem_of_getElem? (i := 0) rfl))).wr W3 (Or.inl (List.mem_of_getElem? (i := 0) rfl))), f6, F3⟩
theorem wd_21 {Z a0} (hw : HW Z a0) : (Cond.code ⟨"java/lang/String", "<init>", "([BB)V"⟩ jdk_42_method_151_code (3 : Nat) (Option.none : Option FieldType)).before a0 Z = true := hw.at 21 rfl
theorem pd_12 : parseMethodDescriptor "([BB)V" = some ⟨[(.array .byte), .byte], none⟩ := by decide +kernel
theorem wd_19 {Z a0} (hw : HW Z a0) : (Cond.instanceMethod ⟨"java/lang/String", "<init>", "([BB)V"⟩).before a0 Z = true := hw.at 19 rfl
theorem d13_25 : decode jdk_42_method_139_code 25 = .ok (.areturn, 1) := by decide +kernel
theorem ef_m18_valueOf (m : MethodId) (y1 : Int32) : entryFrame m #[(.int y1)] 1 = mkF m 0 #[iv y1] [] := by first | rfl | (simp [entryFrame, mkF, argsToLocals, Value.category]; done)
theorem m18_valueOf (l : Launch) (Z : State) (a0 : Array Value) (hw : HW Z a0) (y1 y2 : Int32) (h0 : Heap) (n0 : Nat) (Z0 : n0 ≤ h0.size) (O0 : Old Z n0 h0) (P1 : Sta Z Z.heap "java/lang/String" "COMPACT_STRINGS" "Z" (.int y2)) (P2 : ¬ (y2 = (0 : Int32))) (P3 : ¬ ((255 : Int32) < y1)) :
    Ctr l Z [] (⟨"java/lang/String", "valueOf", "(C)Ljava/lang/String;"⟩ : MethodName) jdk_42_method_139_code 1 (some (.object "java/lang/String")) #[(.int y1)] h0 ({ frames := 2, cells := 2, slots := 5, locals := 27 } : Room) (fun v h L => ∃ (b3 : Addr) (b6_0 : Addr) (k6_0 : ClassId), v = some (.ref b3) ∧ Fr n0 L ∧ Keep h0 h [] ∧ h0.size ≤ b3 ∧ h0.size ≤ b6_0 ∧ Exa Z h b3 "java/lang/String" ∧ Exa Z h b6_0 "[B" ∧ Arv Z h b6_0 k6_0 .byte (1 : Int32) [(.int (nar .byte (y1.toInt8.toInt32)))] (.int 0) ∧ Fld Z h b3 "java/lang/String" "value" "[B" (.ref b6_0) ∧ Fld Z h b3 "java/lang/String" "coder" "B" (.int 0)) := by
  refine Ctr.of (plainFor_of_name pn_java_lang_String) (fun m => ef_m18_valueOf m y1) ?_
  intro p e s m below meth c T0 hx hZ hby hml hown hnm hret hlk X0 e0
  have N0 := Fr.nil n0
  show Aw p e below _ T0 m 0 #[iv y1] []
  obtain ⟨T1, X1, e1, st1⟩ := getS2 X0 hx hZ hown (host := "") (Or.inl (wd_7 hw)) Via.refl e0 (P1.ext O0.2) (g := (mkF m 0 #[iv y1] [])) rfl (hb hby d13_0)
  refine Rch.go st1 ?_
  show Aw p e below _ T1 m 3 #[iv y1] [(.int y2)]
  refine Rch.go (fun t k => XS.ifNo X1.here hx rfl (hb hby d13_3) rfl (XT.i0_eq_f P2) (XS.iloadN X1.here hx rfl (hb hby d13_6) rfl  k)) ?_
  show Aw p e below _ T1 m 7 #[iv y1] [(.int y1)]
  obtain ⟨v2, T2, L2, X2, Q2, st2⟩ := callSt X1 hx hZ (m19_canEncode l Z a0 hw y1 h0 n0 Z0 O0 P3) e1 hown (wd_8 hw) (wd_9 hw) (wd_11 hw) (wd_10 hw) (by decide) (hb hby d13_7) 0 (by decide) (by decide) (by decide) (by decide) (by rw [hml]; rfl) [(.int y1)] [] rfl (lenOf pd_10 rfl) rfl (Nat.le_of_eq rfl) (Ls := #[iv y1])
  obtain ⟨rfl, M2, e2⟩ := Q2
  have N2 := Fr.app N0 M2
  refine Rch.go st2 ?_
  show Aw p e below _ T2 m 10 #[iv y1] [(.int 1)]
  refine Rch.go (fun t k => XS.ifNo X2.here hx rfl (hb hby d13_10) rfl (by decide) k) ?_
  show Aw p e below _ T2 m 13 #[iv y1] []
  obtain ⟨T3, h3, X3, e3, E3, A3, D3, -, st3⟩ := newO X2 hx hZ hown (wd_12 hw) (wd_13 hw) (wd_5 hw) e2 (g := (mkF m 13 #[iv y1] [])) rfl (hb hby d13_13) (by decide) (by decide)
  obtain ⟨b3, g3⟩ : ∃ z, z = h0.size := ⟨_, rfl⟩
  rw [← g3] at A3 D3 st3
  refine Rch.go st3 ?_
  have g_b3 : n0 ≤ b3 := Nat.le_trans Z0 (Nat.le_of_eq g3.symm)
  have F3_value : Fld Z h3 b3 "java/lang/String" "value" "[B" .null := (D3 (Or.inr (wd_26 hw)) (ty := (.array .byte)) (by decide))
  have F3_coder : Fld Z h3 b3 "java/lang/String" "coder" "B" (.int 0) := (D3 (Or.inr (wd_28 hw)) (ty := .byte) (by decide))
  show Aw p e below _ T3 m 16 #[iv y1] [(.ref b3)]
  refine Rch.go (fun t k => XS.dup X3.here hx rfl (hb hby d13_16) rfl rfl (XS.iloadN X3.here hx rfl (hb hby d13_17) rfl  k)) ?_
  show Aw p e below _ T3 m 18 #[iv y1] [(.int y1), (.ref b3), (.ref b3)]
  have z4 := (Nat.le_trans Z0 E3.1)
  have o5 := (O0.ext E3)
  obtain ⟨v6, T6, L6, X6, Q6, st6⟩ := callSt X3 hx hZ (m20_toBytes l Z a0 hw y1 h3 n0 z4 o5 ) e3 hown (wd_14 hw) (wd_15 hw) (wd_16 hw) (wd_10 hw) (by decide) (hb hby d13_18) 2 (by decide) (by decide) (by decide) (by decide) (by rw [hml]; rfl) [(.int y1)] [(.ref b3), (.ref b3)] rfl (lenOf pd_11 rfl) rfl (Nat.le_of_eq rfl) (Ls := #[iv y1])
  obtain ⟨b6_0, k6_0, rfl, M6, K6, zz6_0, F6_0, F6_1⟩ := Q6
  have N6 := Fr.app N2 M6
  refine Rch.go st6 ?_
  have g_b6_0 : n0 ≤ b6_0 := Nat.le_trans z4 zz6_0
  show Aw p e below _ T6 m 21 #[iv y1] [(.ref b6_0), (.ref b3), (.ref b3)]
  refine Rch.go (fun t k => XS.iconst X6.here hx rfl (hb hby d13_21) k) ?_
  show Aw p e below _ T6 m 22 #[iv y1] [(.int 0), (.ref b6_0), (.ref b3), (.ref b3)]
  have f7 := (A3.keep K6)
  have f8 := (F3_value.keep K6 nin0)
  have f9 := (F3_coder.keep K6 nin0)
  have z10 := (Nat.le_trans z4 K6.1)
  have o11 := (o5.keep K6 all0)
  obtain ⟨v12, T12, L12, X12, Q12, st12⟩ := callSp X6 hx hZ (m21_init l Z a0 hw b3 b6_0 T6.heap n0 z10 o11 f7 f8 g_b3 f9) rfl hown rfl (wd_18 hw) (wd_19 hw) (wd_21 hw) (wd_5 hw) (by decide) (hb hby d13_22) 1 (by decide) (by decide) (by decide) (by decide) (by rw [hml]; rfl) b3 [(.ref b6_0), (.int 0)] [(.ref b3)] rfl (lenOf pd_12 rfl) rfl (Nat.le_of_eq rfl) (Ls := #[iv y1])
  obtain ⟨rfl, M12, K12, F12_0, F12_1⟩ := Q12
  have N12 := Fr.app N6 M12
  refine Rch.go st12 ?_
  show Aw p e below _ T12 m 25 #[iv y1] [(.ref b3)]
  have f13 := (f7.keep K12)
  have f14 := (F6_0.keep K12)
  have lt15 := A3.lt
  have ne16 : b3 ≠ b6_0 := Nat.ne_of_lt (Nat.lt_of_lt_of_le lt15 zz6_0)
  have f17 := (F6_1.keep K12 (ninS (Ne.symm ne16) nin0))
  refine Rch.val X12 hx (t := (.object "java/lang/String")) hret hlk rfl (Or.inr (Or.inr (Or.inr (Or.inr ⟨rfl, rfl, rfl⟩)))) (hb hby d13_25) (by decide) (by decide) ?_
  exact ⟨b3, b6_0, k6_0, rfl, N12, ((((Keep.refl _ _).ext E3).trans K6 all0).trans K12 (allS (Or.inr (Nat.le_trans (Nat.le_refl _) (Nat.le_of_eq g3.symm))) all0)), (Nat.le_trans (Nat.le_refl _) (Nat.le_of_eq g3.symm)), (Nat.le_trans (Nat.le_trans (Nat.le_refl _) E3.1) zz6_0), f13, f14, f17, F12_0, F12_1⟩
theorem wd_6 {Z a0} (hw : HW Z a0) : (Cond.code ⟨"java/lang/String", "valueOf", "(C)Ljava/lang/String;"⟩ jdk_42_method_139_code (1 : Nat) (Option.some (FieldType.object "java/lang/String"))).before a0 Z = true := hw.at 6 rfl
theorem pd_13 : parseMethodDescriptor "(C)Ljava/lang/String;" = some ⟨[.char], some (.object "java/lang/String")⟩ := by decide +kernel
theorem wd_4 {Z a0} (hw : HW Z a0) : (Cond.static ⟨"java/lang/String", "valueOf", "(C)Ljava/lang/String;"⟩).before a0 Z = true := hw.at 4 rfl
theorem wd_29 {Z a0} (hw : HW Z a0) : (Cond.classLink s7' (15 : Nat) s1').before a0 Z = true := hw.at 29 rfl
theorem wd_30 {Z a0} (hw : HW Z a0) : (Cond.instantiable s1' (3 : Nat)).before a0 Z = true := hw.at 30 rfl
theorem wd_49 {Z a0} (hw : HW Z a0) : (Cond.lays s1' s6' "modCount" "I").before a0 Z = true := hw.at 49 rfl
theorem wd_52 {Z a0} (hw : HW Z a0) : (Cond.lays s1' s1' "elementData" s4').before a0 Z = true := hw.at 52 rfl
theorem wd_98 {Z a0} (hw : HW Z a0) : (Cond.lays s1' s1' "size" "I").before a0 Z = true := hw.at 98 rfl
theorem wd_32 {Z a0} (hw : HW Z a0) : (Cond.methodLink s7' (17 : Nat) ⟨s1', "<init>", "()V"⟩).before a0 Z = true := hw.at 32 rfl
theorem d17_0 : decode jdk_38_method_2_code 0 = .ok (.aload_n 0, 1) := by decide +kernel
theorem d17_1 : decode jdk_38_method_2_code 1 = .ok (.invokespecial 1, 3) := by decide +kernel
theorem wd_35 {Z a0} (hw : HW Z a0) : (Cond.methodLink s1' (1 : Nat) ⟨s6', "<init>", "()V"⟩).before a0 Z = true := hw.at 35 rfl
theorem d18_0 : decode jdk_39_method_1_code 0 = .ok (.aload_n 0, 1) := by decide +kernel
theorem d18_1 : decode jdk_39_method_1_code 1 = .ok (.invokespecial 1, 3) := by decide +kernel
theorem wd_41 {Z a0} (hw : HW Z a0) : (Cond.methodLink s6' (1 : Nat) ⟨"java/util/AbstractCollection", "<init>", "()V"⟩).before a0 Z = true := hw.at 41 rfl
theorem d19_0 : decode jdk_22_method_1_code 0 = .ok (.aload_n 0, 1) := by decide +kernel
theorem d19_1 : decode jdk_22_method_1_code 1 = .ok (.invokespecial 1, 3) := by decide +kernel
theorem wd_47 {Z a0} (hw : HW Z a0) : (Cond.methodLink "java/util/AbstractCollection" (1 : Nat) ⟨"java/lang/Object", "<init>", "()V"⟩).before a0 Z = true := hw.at 47 rfl
theorem d19_4 : decode jdk_22_method_1_code 4 = .ok (.return_, 1) := by decide +kernel
theorem pn_java_util_AbstractCollection : plainName "java/util/AbstractCollection" = true := by first | (simp [plainName, overriddenIn]; done) | decide +kernel
theorem ef_m24_init (m : MethodId) (x1 : Addr) : entryFrame m #[(.ref x1)] 1 = mkF m 0 #[rv x1] [] := by first | rfl | (simp [entryFrame, mkF, argsToLocals, Value.category]; done)
theorem m24_init (l : Launch) (Z : State) (a0 : Array Value) (hw : HW Z a0) (x1 : Addr) (h0 : Heap) (n0 : Nat) (Z0 : n0 ≤ h0.size) (O0 : Old Z n0 h0) :
    Ctr l Z [] (⟨"java/util/AbstractCollection", "<init>", "()V"⟩ : MethodName) jdk_22_method_1_code 1 none #[(.ref x1)] h0 ({ frames := 1, cells := 0, slots := 0, locals := 12 } : Room) (fun v h L => v = none ∧ Fr n0 L ∧ h = h0) := by
  refine Ctr.of (plainFor_of_name pn_java_util_AbstractCollection) (fun m => ef_m24_init m x1) ?_
  intro p e s m below meth c T0 hx hZ hby hml hown hnm hret hlk X0 e0
  have N0 := Fr.nil n0
  show Aw p e below _ T0 m 0 #[rv x1] []
  refine Rch.go (fun t k => XS.aloadN X0.here hx rfl (hb hby d19_0) rfl rfl k) ?_
  show Aw p e below _ T0 m 1 #[rv x1] [(.ref x1)]
  obtain ⟨T1, X1, e1, st1⟩ := initO X0 hx hZ hown (wd_47 hw) (wd_23 hw) (wd_24 hw) e0 (g := (mkF m 1 #[rv x1] [(.ref x1)])) rfl (by rw [hml]; rfl) rfl (hb hby d19_1) (by decide) (W := 0) (by show 2 * 0 + _ ≤ _; exact Nat.le_of_eq rfl) (by decide)
  refine Rch.go st1 ?_
  show Aw p e below _ T1 m 4 #[rv x1] []
  refine Rch.void X1 hx hret hlk (hb hby d19_4) (by decide) (by decide) ?_
  try rw [e1]
  exact ⟨rfl, N0, rfl⟩
theorem wd_46 {Z a0} (hw : HW Z a0) : (Cond.code ⟨"java/util/AbstractCollection", "<init>", "()V"⟩ jdk_22_method_1_code (1 : Nat) (Option.none : Option FieldType)).before a0 Z = true := hw.at 46 rfl
theorem wd_45 {Z a0} (hw : HW Z a0) : (Cond.initialized "java/util/AbstractCollection").before a0 Z = true := hw.at 45 rfl
theorem pd_14 : parseMethodDescriptor "()V" = some ⟨[], none⟩ := by decide +kernel
theorem wd_42 {Z a0} (hw : HW Z a0) : (Cond.instanceMethod ⟨"java/util/AbstractCollection", "<init>", "()V"⟩).before a0 Z = true := hw.at 42 rfl
theorem d18_4 : decode jdk_39_method_1_code 4 = .ok (.aload_n 0, 1) := by decide +kernel
theorem d18_5 : decode jdk_39_method_1_code 5 = .ok (.iconst 0, 1) := by decide +kernel
theorem d18_6 : decode jdk_39_method_1_code 6 = .ok (.putfield 7, 3) := by decide +kernel
theorem wd_48 {Z a0} (hw : HW Z a0) : (Cond.fieldLink s6' (7 : Nat) s6' "modCount" "I").before a0 Z = true := hw.at 48 rfl
theorem d18_9 : decode jdk_39_method_1_code 9 = .ok (.return_, 1) := by decide +kernel
theorem pn_java_util_AbstractList : plainName s6' = true := by first | (simp [plainName, overriddenIn]; done) | decide +kernel
theorem ef_m23_init (m : MethodId) (x1 : Addr) : entryFrame m #[(.ref x1)] 1 = mkF m 0 #[rv x1] [] := by first | rfl | (simp [entryFrame, mkF, argsToLocals, Value.category]; done)
theorem m23_init (l : Launch) (Z : State) (a0 : Array Value) (hw : HW Z a0) (x1 : Addr) (h0 : Heap) (n0 : Nat) (Z0 : n0 ≤ h0.size) (O0 : Old Z n0 h0) (P1 : Exa Z h0 x1 s1') (P2 : Fld Z h0 x1 s6' "modCount" "I" (.int 0)) (P3 : n0 ≤ x1) (P4 : Fld Z h0 x1 s1' "elementData" s4' .null) (P5 : Fld Z h0 x1 s1' "size" "I" (.int 0)) :
    Ctr l Z [] (⟨s6', "<init>", "()V"⟩ : MethodName) jdk_39_method_1_code 1 none #[(.ref x1)] h0 ({ frames := 2, cells := 0, slots := 0, locals := 24 } : Room) (fun v h L => v = none ∧ Fr n0 L ∧ Keep h0 h [x1] ∧ Fld Z h x1 s6' "modCount" "I" (.int 0) ∧ Fld Z h x1 s1' "elementData" s4' .null ∧ Fld Z h x1 s1' "size" "I" (.int 0)) := by
  refine Ctr.of (plainFor_of_name pn_java_util_AbstractList) (fun m => ef_m23_init m x1) ?_
  intro p e s m below meth c T0 hx hZ hby hml hown hnm hret hlk X0 e0
  have N0 := Fr.nil n0
  show Aw p e below _ T0 m 0 #[rv x1] []
  refine Rch.go (fun t k => XS.aloadN X0.here hx rfl (hb hby d18_0) rfl rfl k) ?_
  show Aw p e below _ T0 m 1 #[rv x1] [(.ref x1)]
  obtain ⟨v1, T1, L1, X1, Q1, st1⟩ := callSp X0 hx hZ (m24_init l Z a0 hw x1 h0 n0 Z0 O0 ) e0 hown rfl (wd_41 hw) (wd_42 hw) (wd_46 hw) (wd_45 hw) (by decide) (hb hby d18_1) 0 (by decide) (by decide) (by decide) (by decide) (by rw [hml]; rfl) x1 [] [] rfl (lenOf pd_14 rfl) rfl (Nat.le_of_eq rfl) (Ls := #[rv x1])
  obtain ⟨rfl, M1, e1⟩ := Q1
  have N1 := Fr.app N0 M1
  refine Rch.go st1 ?_
  show Aw p e below _ T1 m 4 #[rv x1] []
  refine Rch.go (fun t k => XS.aloadN X1.here hx rfl (hb hby d18_4) rfl rfl (XS.iconst X1.here hx rfl (hb hby d18_5) k)) ?_
  show Aw p e below _ T1 m 6 #[rv x1] [(.int 0), (.ref x1)]
  obtain ⟨T2, h2, X2, e2, W2, st2⟩ := putF X1 hx hZ hown (host := "") (Or.inl (wd_48 hw)) Via.refl e1 P2 P1 (Or.inl (wd_49 hw)) (wd_30 hw) (ty := .int) (by decide) rfl rfl (g := (mkF m 6 #[rv x1] [(.int 0), (.ref x1)])) rfl rfl (hb hby d18_6)
  refine Rch.go st2 ?_
  have F2 := P2.same W2
  have N2 := Fr.snoc X2 N1 P3
  show Aw p e below _ T2 m 9 #[rv x1] []
  have f3 := (P4.other W2 (Or.inr (slot_ne (Or.inl (wd_52 hw)) (Or.inl (wd_49 hw)) (by decide) (t := (.array (.object "java/lang/Object"))) (t' := .int) (by decide) (by decide))))
  have f4 := (P5.other W2 (Or.inr (slot_ne (Or.inl (wd_98 hw)) (Or.inl (wd_49 hw)) (by decide) (t := .int) (t' := .int) (by decide) (by decide))))
  refine Rch.void X2 hx hret hlk (hb hby d18_9) (by decide) (by decide) ?_
  try rw [e2]
  exact ⟨rfl, N2, ((Keep.refl _ _).wr W2 (Or.inl (List.mem_of_getElem? (i := 0) rfl))), F2, f3, f4⟩
theorem wd_40 {Z a0} (hw : HW Z a0) : (Cond.code ⟨s6', "<init>", "()V"⟩ jdk_39_method_1_code (1 : Nat) (Option.none : Option FieldType)).before a0 Z = true := hw.at 40 rfl
theorem wd_39 {Z a0} (hw : HW Z a0) : (Cond.initialized s6').before a0 Z = true := hw.at 39 rfl
theorem wd_36 {Z a0} (hw : HW Z a0) : (Cond.instanceMethod ⟨s6', "<init>", "()V"⟩).before a0 Z = true := hw.at 36 rfl
theorem d17_4 : decode jdk_38_method_2_code 4 = .ok (.aload_n 0, 1) := by decide +kernel
theorem d17_5 : decode jdk_38_method_2_code 5 = .ok (.getstatic 39, 3) := by decide +kernel
theorem wd_50 {Z a0} (hw : HW Z a0) : (Cond.fieldLink s1' (39 : Nat) s1' "DEFAULTCAPACITY_EMPTY_ELEMENTDATA" s4').before a0 Z = true := hw.at 50 rfl
theorem d17_8 : decode jdk_38_method_2_code 8 = .ok (.putfield 9, 3) := by decide +kernel
theorem wd_51 {Z a0} (hw : HW Z a0) : (Cond.fieldLink s1' (9 : Nat) s1' "elementData" s4').before a0 Z = true := hw.at 51 rfl
theorem d17_11 : decode jdk_38_method_2_code 11 = .ok (.return_, 1) := by decide +kernel
theorem pn_java_util_ArrayList : plainName s1' = true := by first | (simp [plainName, overriddenIn]; done) | decide +kernel
theorem ef_m22_init (m : MethodId) (x1 : Addr) : entryFrame m #[(.ref x1)] 1 = mkF m 0 #[rv x1] [] := by first | rfl | (simp [entryFrame, mkF, argsToLocals, Value.category]; done)
theorem m22_init (l : Launch) (Z : State) (a0 : Array Value) (hw : HW Z a0) (x1 x2 : Addr) (h0 : Heap) (n0 : Nat) (Z0 : n0 ≤ h0.size) (O0 : Old Z n0 h0) (P1 : Exa Z h0 x1 s1') (P2 : Fld Z h0 x1 s6' "modCount" "I" (.int 0)) (P3 : n0 ≤ x1) (P4 : Fld Z h0 x1 s1' "elementData" s4' .null) (P5 : Fld Z h0 x1 s1' "size" "I" (.int 0)) (P6 : Sta Z Z.heap s1' "DEFAULTCAPACITY_EMPTY_ELEMENTDATA" s4' (.ref x2)) :
    Ctr l Z [] (⟨s1', "<init>", "()V"⟩ : MethodName) jdk_38_method_2_code 1 none #[(.ref x1)] h0 ({ frames := 3, cells := 0, slots := 0, locals := 36 } : Room) (fun v h L => v = none ∧ Fr n0 L ∧ Keep h0 h [x1] ∧ Fld Z h x1 s6' "modCount" "I" (.int 0) ∧ Fld Z h x1 s1' "elementData" s4' (.ref x2) ∧ Fld Z h x1 s1' "size" "I" (.int 0)) := by
  refine Ctr.of (plainFor_of_name pn_java_util_ArrayList) (fun m => ef_m22_init m x1) ?_
  intro p e s m below meth c T0 hx hZ hby hml hown hnm hret hlk X0 e0
  have N0 := Fr.nil n0
  show Aw p e below _ T0 m 0 #[rv x1] []
  refine Rch.go (fun t k => XS.aloadN X0.here hx rfl (hb hby d17_0) rfl rfl k) ?_
  show Aw p e below _ T0 m 1 #[rv x1] [(.ref x1)]
  obtain ⟨v1, T1, L1, X1, Q1, st1⟩ := callSp X0 hx hZ (m23_init l Z a0 hw x1 h0 n0 Z0 O0 P1 P2 P3 P4 P5) e0 hown rfl (wd_35 hw) (wd_36 hw) (wd_40 hw) (wd_39 hw) (by decide) (hb hby d17_1) 0 (by decide) (by decide) (by decide) (by decide) (by rw [hml]; rfl) x1 [] [] rfl (lenOf pd_14 rfl) rfl (Nat.le_of_eq rfl) (Ls := #[rv x1])
  obtain ⟨rfl, M1, K1, F1_0, F1_1, F1_2⟩ := Q1
  have N1 := Fr.app N0 M1
  refine Rch.go st1 ?_
  show Aw p e below _ T1 m 4 #[rv x1] []
  refine Rch.go (fun t k => XS.aloadN X1.here hx rfl (hb hby d17_4) rfl rfl k) ?_
  show Aw p e below _ T1 m 5 #[rv x1] [(.ref x1)]
  have o3 := (O0.keep K1 (allS P3 all0))
  obtain ⟨T2, X2, e2, st2⟩ := getS2 X1 hx hZ hown (host := "") (Or.inl (wd_50 hw)) Via.refl rfl (P6.ext o3.2) (g := (mkF m 5 #[rv x1] [(.ref x1)])) rfl (hb hby d17_5)
  refine Rch.go st2 ?_
  show Aw p e below _ T2 m 8 #[rv x1] [(.ref x2), (.ref x1)]
  have f5 := (P1.keep K1)
  obtain ⟨T4, h4, X4, e4, W4, st4⟩ := putF X2 hx hZ hown (host := "") (Or.inl (wd_51 hw)) Via.refl e2 F1_1 f5 (Or.inl (wd_52 hw)) (wd_30 hw) (ty := (.array (.object "java/lang/Object"))) (by decide) rfl rfl (g := (mkF m 8 #[rv x1] [(.ref x2), (.ref x1)])) rfl rfl (hb hby d17_8)
  refine Rch.go st4 ?_
  have F4 := F1_1.same W4
  have N4 := Fr.snoc X4 N1 P3
  show Aw p e below _ T4 m 11 #[rv x1] []
  have f6 := (F1_0.other W4 (Or.inr (slot_ne (Or.inl (wd_49 hw)) (Or.inl (wd_52 hw)) (by decide) (t := .int) (t' := (.array (.object "java/lang/Object"))) (by decide) (by decide))))
  have f7 := (F1_2.other W4 (Or.inr (slot_ne (Or.inl (wd_98 hw)) (Or.inl (wd_52 hw)) (by decide) (t := .int) (t' := (.array (.object "java/lang/Object"))) (by decide) (by decide))))
  refine Rch.void X4 hx hret hlk (hb hby d17_11) (by decide) (by decide) ?_
  try rw [e4]
  exact ⟨rfl, N4, (((Keep.refl _ _).trans K1 (allS (Or.inl (List.mem_of_getElem? (i := 0) rfl)) all0)).wr W4 (Or.inl (List.mem_of_getElem? (i := 0) rfl))), f6, F4, f7⟩
theorem wd_34 {Z a0} (hw : HW Z a0) : (Cond.code ⟨s1', "<init>", "()V"⟩ jdk_38_method_2_code (1 : Nat) (Option.none : Option FieldType)).before a0 Z = true := hw.at 34 rfl
theorem wd_33 {Z a0} (hw : HW Z a0) : (Cond.instanceMethod ⟨s1', "<init>", "()V"⟩).before a0 Z = true := hw.at 33 rfl
theorem wd_53 {Z a0} (hw : HW Z a0) : (Cond.methodLink s7' (18 : Nat) ⟨s2', "<init>", "(Ljava/lang/String;Ljava/util/List;)V"⟩).before a0 Z = true := hw.at 53 rfl
theorem d20_0 : decode prog_9_method_1_code 0 = .ok (.aload_n 0, 1) := by decide +kernel
theorem d20_1 : decode prog_9_method_1_code 1 = .ok (.invokespecial 1, 3) := by decide +kernel
theorem wd_56 {Z a0} (hw : HW Z a0) : (Cond.methodLink s2' (1 : Nat) ⟨"java/lang/Record", "<init>", "()V"⟩).before a0 Z = true := hw.at 56 rfl
theorem d21_0 : decode jdk_30_method_1_code 0 = .ok (.aload_n 0, 1) := by decide +kernel
theorem d21_1 : decode jdk_30_method_1_code 1 = .ok (.invokespecial 1, 3) := by decide +kernel
theorem wd_61 {Z a0} (hw : HW Z a0) : (Cond.methodLink "java/lang/Record" (1 : Nat) ⟨"java/lang/Object", "<init>", "()V"⟩).before a0 Z = true := hw.at 61 rfl
theorem d21_4 : decode jdk_30_method_1_code 4 = .ok (.return_, 1) := by decide +kernel
theorem pn_java_lang_Record : plainName "java/lang/Record" = true := by first | (simp [plainName, overriddenIn]; done) | decide +kernel
theorem ef_m26_init (m : MethodId) (x1 : Addr) : entryFrame m #[(.ref x1)] 1 = mkF m 0 #[rv x1] [] := by first | rfl | (simp [entryFrame, mkF, argsToLocals, Value.category]; done)
theorem m26_init (l : Launch) (Z : State) (a0 : Array Value) (hw : HW Z a0) (x1 : Addr) (h0 : Heap) (n0 : Nat) (Z0 : n0 ≤ h0.size) (O0 : Old Z n0 h0) :
    Ctr l Z [] (⟨"java/lang/Record", "<init>", "()V"⟩ : MethodName) jdk_30_method_1_code 1 none #[(.ref x1)] h0 ({ frames := 1, cells := 0, slots := 0, locals := 12 } : Room) (fun v h L => v = none ∧ Fr n0 L ∧ h = h0) := by
  refine Ctr.of (plainFor_of_name pn_java_lang_Record) (fun m => ef_m26_init m x1) ?_
  intro p e s m below meth c T0 hx hZ hby hml hown hnm hret hlk X0 e0
  have N0 := Fr.nil n0
  show Aw p e below _ T0 m 0 #[rv x1] []
  refine Rch.go (fun t k => XS.aloadN X0.here hx rfl (hb hby d21_0) rfl rfl k) ?_
  show Aw p e below _ T0 m 1 #[rv x1] [(.ref x1)]
  obtain ⟨T1, X1, e1, st1⟩ := initO X0 hx hZ hown (wd_61 hw) (wd_23 hw) (wd_24 hw) e0 (g := (mkF m 1 #[rv x1] [(.ref x1)])) rfl (by rw [hml]; rfl) rfl (hb hby d21_1) (by decide) (W := 0) (by show 2 * 0 + _ ≤ _; exact Nat.le_of_eq rfl) (by decide)
  refine Rch.go st1 ?_
  show Aw p e below _ T1 m 4 #[rv x1] []
  refine Rch.void X1 hx hret hlk (hb hby d21_4) (by decide) (by decide) ?_
  try rw [e1]
  exact ⟨rfl, N0, rfl⟩
theorem wd_60 {Z a0} (hw : HW Z a0) : (Cond.code ⟨"java/lang/Record", "<init>", "()V"⟩ jdk_30_method_1_code (1 : Nat) (Option.none : Option FieldType)).before a0 Z = true := hw.at 60 rfl
theorem wd_59 {Z a0} (hw : HW Z a0) : (Cond.initialized "java/lang/Record").before a0 Z = true := hw.at 59 rfl
theorem wd_57 {Z a0} (hw : HW Z a0) : (Cond.instanceMethod ⟨"java/lang/Record", "<init>", "()V"⟩).before a0 Z = true := hw.at 57 rfl
theorem d20_4 : decode prog_9_method_1_code 4 = .ok (.aload_n 1, 1) := by decide +kernel
theorem d20_5 : decode prog_9_method_1_code 5 = .ok (.ldc 7, 2) := by decide +kernel
theorem wd_62 {Z a0} (hw : HW Z a0) : (Cond.stringLink s2' (7 : Nat) "value").before a0 Z = true := hw.at 62 rfl
theorem d20_7 : decode prog_9_method_1_code 7 = .ok (.invokestatic 9, 3) := by decide +kernel
theorem wd_65 {Z a0} (hw : HW Z a0) : (Cond.methodLink s2' (9 : Nat) ⟨"java/util/Objects", "requireNonNull", "(Ljava/lang/Object;Ljava/lang/String;)Ljava/lang/Object;"⟩).before a0 Z = true := hw.at 65 rfl
theorem d22_0 : decode jdk_31_method_11_code 0 = .ok (.aload_n 0, 1) := by decide +kernel
theorem d22_1 : decode jdk_31_method_11_code 1 = .ok (.ifnonnull 12, 3) := by decide +kernel
theorem d22_13 : decode jdk_31_method_11_code 13 = .ok (.aload_n 0, 1) := by decide +kernel
theorem d22_14 : decode jdk_31_method_11_code 14 = .ok (.areturn, 1) := by decide +kernel
theorem ef_m27_requireNonNull (m : MethodId) (x1 x2 : Addr) : entryFrame m #[(.ref x1), (.ref x2)] 2 = mkF m 0 #[rv x1, rv x2] [] := by first | rfl | (simp [entryFrame, mkF, argsToLocals, Value.category]; done)
theorem m27_requireNonNull (l : Launch) (Z : State) (a0 : Array Value) (hw : HW Z a0) (x1 x2 : Addr) (h0 : Heap) (n0 : Nat) (Z0 : n0 ≤ h0.size) (O0 : Old Z n0 h0) :
    Ctr l Z [] (⟨"java/util/Objects", "requireNonNull", "(Ljava/lang/Object;Ljava/lang/String;)Ljava/lang/Object;"⟩ : MethodName) jdk_31_method_11_code 2 (some (.object "java/lang/Object")) #[(.ref x1), (.ref x2)] h0 ({ frames := 0, cells := 0, slots := 0, locals := 0 } : Room) (fun v h L => v = some (.ref x1) ∧ Fr n0 L ∧ h = h0) := by
  refine Ctr.of (plainFor_of_name pn_java_util_Objects) (fun m => ef_m27_requireNonNull m x1 x2) ?_
  intro p e s m below meth c T0 hx hZ hby hml hown hnm hret hlk X0 e0
  have N0 := Fr.nil n0
  show Aw p e below _ T0 m 0 #[rv x1, rv x2] []
  refine Rch.go (fun t k => XS.aloadN X0.here hx rfl (hb hby d22_0) rfl rfl (XS.ifnonnullYes X0.here hx rfl (pc0 := 1) (pc' := 13) rfl (hb hby d22_1) rfl (by decide) (by decide) (XS.aloadN X0.here hx rfl (hb hby d22_13) rfl rfl k))) ?_
  show Aw p e below _ T0 m 14 #[rv x1, rv x2] [(.ref x1)]
  refine Rch.val X0 hx (t := (.object "java/lang/Object")) hret hlk rfl (Or.inr (Or.inr (Or.inr (Or.inr ⟨rfl, rfl, rfl⟩)))) (hb hby d22_14) (by decide) (by decide) ?_
  try rw [e0]
  exact ⟨rfl, N0, rfl⟩
theorem wd_68 {Z a0} (hw : HW Z a0) : (Cond.code ⟨"java/util/Objects", "requireNonNull", "(Ljava/lang/Object;Ljava/lang/String;)Ljava/lang/Object;"⟩ jdk_31_method_11_code (2 : Nat) (Option.some (FieldType.object "java/lang/Object"))).before a0 Z = true := hw.at 68 rfl
theorem pd_15 : parseMethodDescriptor "(Ljava/lang/Object;Ljava/lang/String;)Ljava/lang/Object;" = some ⟨[(.object "java/lang/Object"), (.object "java/lang/String")], some (.object "java/lang/Object")⟩ := by decide +kernel
theorem wd_66 {Z a0} (hw : HW Z a0) : (Cond.static ⟨"java/util/Objects", "requireNonNull", "(Ljava/lang/Object;Ljava/lang/String;)Ljava/lang/Object;"⟩).before a0 Z = true := hw.at 66 rfl
theorem d20_10 : decode prog_9_method_1_code 10 = .ok (.pop, 1) := by decide +kernel
theorem d20_11 : decode prog_9_method_1_code 11 = .ok (.aload_n 1, 1) := by decide +kernel
theorem d20_12 : decode prog_9_method_1_code 12 = .ok (.invokevirtual 15, 3) := by decide +kernel
theorem wd_69 {Z a0} (hw : HW Z a0) : (Cond.methodLink s2' (15 : Nat) ⟨"java/lang/String", "isEmpty", "()Z"⟩).before a0 Z = true := hw.at 69 rfl
theorem d23_0 : decode jdk_42_method_55_code 0 = .ok (.aload_n 0, 1) := by decide +kernel
theorem d23_1 : decode jdk_42_method_55_code 1 = .ok (.getfield 9, 3) := by decide +kernel
theorem d23_4 : decode jdk_42_method_55_code 4 = .ok (.arraylength, 1) := by decide +kernel
theorem d23_5 : decode jdk_42_method_55_code 5 = .ok (.ifCond .ne 7, 3) := by decide +kernel
theorem d23_12 : decode jdk_42_method_55_code 12 = .ok (.iconst 0, 1) := by decide +kernel
theorem d23_13 : decode jdk_42_method_55_code 13 = .ok (.ireturn, 1) := by decide +kernel
theorem ef_m28_isEmpty (m : MethodId) (x1 : Addr) : entryFrame m #[(.ref x1)] 1 = mkF m 0 #[rv x1] [] := by first | rfl | (simp [entryFrame, mkF, argsToLocals, Value.category]; done)
theorem m28_isEmpty (l : Launch) (Z : State) (a0 : Array Value) (hw : HW Z a0) (x1 x2 : Addr) (kk3 : ClassId) (y4 : Int32) (h0 : Heap) (n0 : Nat) (Z0 : n0 ≤ h0.size) (O0 : Old Z n0 h0) (P1 : Fld Z h0 x1 "java/lang/String" "value" "[B" (.ref x2)) (P2 : Arv Z h0 x2 kk3 .byte (1 : Int32) [(.int y4)] (.int 0)) :
    Ctr l Z [] (⟨"java/lang/String", "isEmpty", "()Z"⟩ : MethodName) jdk_42_method_55_code 1 (some .boolean) #[(.ref x1)] h0 ({ frames := 0, cells := 0, slots := 0, locals := 0 } : Room) (fun v h L => v = some (.int 0) ∧ Fr n0 L ∧ h = h0) := by
  refine Ctr.of (plainFor_of_name pn_java_lang_String) (fun m => ef_m28_isEmpty m x1) ?_
  intro p e s m below meth c T0 hx hZ hby hml hown hnm hret hlk X0 e0
  have N0 := Fr.nil n0
  show Aw p e below _ T0 m 0 #[rv x1] []
  refine Rch.go (fun t k => XS.aloadN X0.here hx rfl (hb hby d23_0) rfl rfl k) ?_
  show Aw p e below _ T0 m 1 #[rv x1] [(.ref x1)]
  obtain ⟨T1, X1, e1, st1⟩ := getF X0 hx hZ hown (host := "") (Or.inl (wd_25 hw)) Via.refl e0 P1 (g := (mkF m 1 #[rv x1] [(.ref x1)])) rfl rfl (hb hby d23_1)
  refine Rch.go st1 ?_
  show Aw p e below _ T1 m 4 #[rv x1] [(.ref x2)]
  obtain ⟨c2, r2, q2, s2, u2, H2, G2⟩ := id P2
  refine Rch.go (fun t k => X1.arraylength hx (by rw [e1]; exact r2.1) (State.isArrayOf_alike hZ.alike r2.2.1) (g := (mkF m 4 #[rv x1] [(.ref x2)])) rfl rfl (hb hby d23_4) t (by rw [len_of s2 u2]; exact k)) ?_
  show Aw p e below _ T1 m 5 #[rv x1] [(.int 1)]
  refine Rch.go (fun t k => XS.ifYes X1.here hx rfl (pc0 := 5) (pc' := 12) rfl (hb hby d23_5) rfl (by decide) (by decide) (by decide) (XS.iconst X1.here hx rfl (hb hby d23_12) k)) ?_
  show Aw p e below _ T1 m 13 #[rv x1] [(.int 0)]
  refine Rch.val X1 hx (t := .boolean) hret hlk rfl (mayI (by simp)) (hb hby d23_13) (by decide) (by decide) ?_
  try rw [e1]
  exact ⟨rfl, N0, rfl⟩
theorem wd_73 {Z a0} (hw : HW Z a0) : (Cond.code ⟨"java/lang/String", "isEmpty", "()Z"⟩ jdk_42_method_55_code (1 : Nat) (Option.some FieldType.boolean)).before a0 Z = true := hw.at 73 rfl
theorem wd_72 {Z a0} (hw : HW Z a0) : (Cond.selects "java/lang/String" ⟨"java/lang/String", "isEmpty", "()Z"⟩ ⟨"java/lang/String", "isEmpty", "()Z"⟩).before a0 Z = true := hw.at 72 rfl
theorem wd_70 {Z a0} (hw : HW Z a0) : (Cond.declares ⟨"java/lang/String", "isEmpty", "()Z"⟩).before a0 Z = true := hw.at 70 rfl
theorem wd_71 {Z a0} (hw : HW Z a0) : (Cond.instanceMethod ⟨"java/lang/String", "isEmpty", "()Z"⟩).before a0 Z = true := hw.at 71 rfl
theorem d20_15 : decode prog_9_method_1_code 15 = .ok (.ifCond .eq 13, 3) := by decide +kernel
theorem d20_28 : decode prog_9_method_1_code 28 = .ok (.aload_n 2, 1) := by decide +kernel
theorem d20_29 : decode prog_9_method_1_code 29 = .ok (.invokestatic 28, 3) := by decide +kernel
theorem wd_74 {Z a0} (hw : HW Z a0) : (Cond.methodLink s2' (28 : Nat) ⟨"java/util/List", "copyOf", s12'⟩).before a0 Z = true := hw.at 74 rfl
theorem d24_0 : decode jdk_40_method_48_code 0 = .ok (.aload_n 0, 1) := by decide +kernel
theorem d24_1 : decode jdk_40_method_48_code 1 = .ok (.invokestatic 112, 3) := by decide +kernel
theorem wd_78 {Z a0} (hw : HW Z a0) : (Cond.methodLink "java/util/List" (112 : Nat) ⟨s5', "listCopy", s12'⟩).before a0 Z = true := hw.at 78 rfl
theorem d25_0 : decode jdk_56_method_3_code 0 = .ok (.aload_n 0, 1) := by decide +kernel
theorem d25_1 : decode jdk_56_method_3_code 1 = .ok (.instanceof 10, 3) := by decide +kernel
theorem wd_82 {Z a0} (hw : HW Z a0) : (Cond.classLink s5' (10 : Nat) s3').before a0 Z = true := hw.at 82 rfl
theorem wd_170 {Z a0} (hw : HW Z a0) : (Cond.instantiable s3' (2 : Nat)).before a0 Z = true := hw.at 170 rfl
theorem wd_83 {Z a0} (hw : HW Z a0) : (Cond.superclass s1' s6').before a0 Z = true := hw.at 83 rfl
theorem wd_84 {Z a0} (hw : HW Z a0) : (Cond.superclass s6' "java/util/AbstractCollection").before a0 Z = true := hw.at 84 rfl
theorem wd_85 {Z a0} (hw : HW Z a0) : (Cond.superclass "java/util/AbstractCollection" "java/lang/Object").before a0 Z = true := hw.at 85 rfl
theorem wd_86 {Z a0} (hw : HW Z a0) : (Cond.noSuperclass "java/lang/Object").before a0 Z = true := hw.at 86 rfl
theorem d25_4 : decode jdk_56_method_3_code 4 = .ok (.ifCond .ne 22, 3) := by decide +kernel
theorem d25_7 : decode jdk_56_method_3_code 7 = .ok (.aload_n 0, 1) := by decide +kernel
theorem d25_8 : decode jdk_56_method_3_code 8 = .ok (.instanceof 12, 3) := by decide +kernel
theorem wd_87 {Z a0} (hw : HW Z a0) : (Cond.classLink s5' (12 : Nat) s8').before a0 Z = true := hw.at 87 rfl
theorem d25_11 : decode jdk_56_method_3_code 11 = .ok (.ifCond .eq 20, 3) := by decide +kernel
theorem d25_31 : decode jdk_56_method_3_code 31 = .ok (.aload_n 0, 1) := by decide +kernel
theorem d25_32 : decode jdk_56_method_3_code 32 = .ok (.invokeinterface 20 1, 5) := by decide +kernel
theorem wd_88 {Z a0} (hw : HW Z a0) : (Cond.methodLink s5' (20 : Nat) ⟨"java/util/Collection", "isEmpty", "()Z"⟩).before a0 Z = true := hw.at 88 rfl
theorem d26_0 : decode jdk_38_method_9_code 0 = .ok (.aload_n 0, 1) := by decide +kernel
theorem d26_1 : decode jdk_38_method_9_code 1 = .ok (.getfield 48, 3) := by decide +kernel
theorem wd_97 {Z a0} (hw : HW Z a0) : (Cond.fieldLink s1' (48 : Nat) s1' "size" "I").before a0 Z = true := hw.at 97 rfl
theorem d26_4 : decode jdk_38_method_9_code 4 = .ok (.ifCond .ne 7, 3) := by decide +kernel
theorem d26_7 : decode jdk_38_method_9_code 7 = .ok (.iconst 1, 1) := by decide +kernel
theorem d26_8 : decode jdk_38_method_9_code 8 = .ok (.goto 4, 3) := by decide +kernel
theorem d26_12 : decode jdk_38_method_9_code 12 = .ok (.ireturn, 1) := by decide +kernel
theorem ef_m31_isEmpty (m : MethodId) (x1 : Addr) : entryFrame m #[(.ref x1)] 1 = mkF m 0 #[rv x1] [] := by first | rfl | (simp [entryFrame, mkF, argsToLocals, Value.category]; done)
theorem m31_isEmpty (l : Launch) (Z : State) (a0 : Array Value) (hw : HW Z a0) (x1 : Addr) (h0 : Heap) (n0 : Nat) (Z0 : n0 ≤ h0.size) (O0 : Old Z n0 h0) (P1 : Fld Z h0 x1 s1' "size" "I" (.int 0)) :
    Ctr l Z [] (⟨s1', "isEmpty", "()Z"⟩ : MethodName) jdk_38_method_9_code 1 (some .boolean) #[(.ref x1)] h0 ({ frames := 0, cells := 0, slots := 0, locals := 0 } : Room) (fun v h L => v = some (.int 1) ∧ Fr n0 L ∧ h = h0) := by
  refine Ctr.of (plainFor_of_name pn_java_util_ArrayList) (fun m => ef_m31_isEmpty m x1) ?_
  intro p e s m below meth c T0 hx hZ hby hml hown hnm hret hlk X0 e0
  have N0 := Fr.nil n0
  show Aw p e below _ T0 m 0 #[rv x1] []
  refine Rch.go (fun t k => XS.aloadN X0.here hx rfl (hb hby d26_0) rfl rfl k) ?_
  show Aw p e below _ T0 m 1 #[rv x1] [(.ref x1)]
  obtain ⟨T1, X1, e1, st1⟩ := getF X0 hx hZ hown (host := "") (Or.inl (wd_97 hw)) Via.refl e0 P1 (g := (mkF m 1 #[rv x1] [(.ref x1)])) rfl rfl (hb hby d26_1)
  refine Rch.go st1 ?_
  show Aw p e below _ T1 m 4 #[rv x1] [(.int 0)]
  refine Rch.go (fun t k => XS.ifNo X1.here hx rfl (hb hby d26_4) rfl (by decide) (XS.iconst X1.here hx rfl (hb hby d26_7) (XS.goto X1.here hx rfl (pc0 := 8) (pc' := 12) rfl (hb hby d26_8) (by decide) (by decide) k))) ?_
  show Aw p e below _ T1 m 12 #[rv x1] [(.int 1)]
  refine Rch.val X1 hx (t := .boolean) hret hlk rfl (mayI (by simp)) (hb hby d26_12) (by decide) (by decide) ?_
  try rw [e1]
  exact ⟨rfl, N0, rfl⟩
theorem wd_96 {Z a0} (hw : HW Z a0) : (Cond.code ⟨s1', "isEmpty", "()Z"⟩ jdk_38_method_9_code (1 : Nat) (Option.some FieldType.boolean)).before a0 Z = true := hw.at 96 rfl
theorem wd_89 {Z a0} (hw : HW Z a0) : (Cond.declares ⟨"java/util/Collection", "isEmpty", "()Z"⟩).before a0 Z = true := hw.at 89 rfl
theorem wd_90 {Z a0} (hw : HW Z a0) : (Cond.interfaceMethod "java/util/Collection" "java/util/Collection" "isEmpty" "()Z").before a0 Z = true := hw.at 90 rfl
theorem wd_91 {Z a0} (hw : HW Z a0) : (Cond.selects s1' ⟨"java/util/Collection", "isEmpty", "()Z"⟩ ⟨s1', "isEmpty", "()Z"⟩).before a0 Z = true := hw.at 91 rfl
theorem wd_92 {Z a0} (hw : HW Z a0) : (Cond.instanceMethod ⟨s1', "isEmpty", "()Z"⟩).before a0 Z = true := hw.at 92 rfl
theorem wd_93 {Z a0} (hw : HW Z a0) : (Cond.publicMethod ⟨s1', "isEmpty", "()Z"⟩).before a0 Z = true := hw.at 93 rfl
theorem wd_94 {Z a0} (hw : HW Z a0) : (Cond.unhidden s1' "isEmpty" "()Z").before a0 Z = true := hw.at 94 rfl
theorem wd_95 {Z a0} (hw : HW Z a0) : (Cond.castable s1' "java/util/Collection").before a0 Z = true := hw.at 95 rfl
theorem d25_37 : decode jdk_56_method_3_code 37 = .ok (.ifCond .eq 7, 3) := by decide +kernel
theorem d25_40 : decode jdk_56_method_3_code 40 = .ok (.invokestatic 26, 3) := by decide +kernel
theorem wd_99 {Z a0} (hw : HW Z a0) : (Cond.methodLink s5' (26 : Nat) ⟨"java/util/List", "of", "()Ljava/util/List;"⟩).before a0 Z = true := hw.at 99 rfl
theorem d27_0 : decode jdk_40_method_36_code 0 = .ok (.getstatic 90, 3) := by decide +kernel
theorem wd_102 {Z a0} (hw : HW Z a0) : (Cond.fieldLink "java/util/List" (90 : Nat) s5' "EMPTY_LIST" s10').before a0 Z = true := hw.at 102 rfl
theorem d27_3 : decode jdk_40_method_36_code 3 = .ok (.areturn, 1) := by decide +kernel
theorem pn_java_util_List : plainName "java/util/List" = true := by first | (simp [plainName, overriddenIn]; done) | decide +kernel
theorem ef_m32_of (m : MethodId) : entryFrame m #[] 0 = mkF m 0 #[] [] := by first | rfl | (simp [entryFrame, mkF, argsToLocals, Value.category]; done)
theorem m32_of (l : Launch) (Z : State) (a0 : Array Value) (hw : HW Z a0) (x1 : Addr) (h0 : Heap) (n0 : Nat) (Z0 : n0 ≤ h0.size) (O0 : Old Z n0 h0) (P1 : Sta Z Z.heap s5' "EMPTY_LIST" s10' (.ref x1)) :
    Ctr l Z [] (⟨"java/util/List", "of", "()Ljava/util/List;"⟩ : MethodName) jdk_40_method_36_code 0 (some (.object "java/util/List")) #[] h0 ({ frames := 0, cells := 0, slots := 0, locals := 0 } : Room) (fun v h L => v = some (.ref x1) ∧ Fr n0 L ∧ h = h0) := by
  refine Ctr.of (plainFor_of_name pn_java_util_List) (fun m => ef_m32_of m ) ?_
  intro p e s m below meth c T0 hx hZ hby hml hown hnm hret hlk X0 e0
  have N0 := Fr.nil n0
  show Aw p e below _ T0 m 0 #[] []
  obtain ⟨T1, X1, e1, st1⟩ := getS2 X0 hx hZ hown (host := "") (Or.inl (wd_102 hw)) Via.refl e0 (P1.ext O0.2) (g := (mkF m 0 #[] [])) rfl (hb hby d27_0)
  refine Rch.go st1 ?_
  show Aw p e below _ T1 m 3 #[] [(.ref x1)]
  refine Rch.val X1 hx (t := (.object "java/util/List")) hret hlk rfl (Or.inr (Or.inr (Or.inr (Or.inr ⟨rfl, rfl, rfl⟩)))) (hb hby d27_3) (by decide) (by decide) ?_
  try rw [e1]
  exact ⟨rfl, N0, rfl⟩
theorem wd_101 {Z a0} (hw : HW Z a0) : (Cond.code ⟨"java/util/List", "of", "()Ljava/util/List;"⟩ jdk_40_method_36_code (0 : Nat) (Option.some (FieldType.object "java/util/List"))).before a0 Z = true := hw.at 101 rfl
theorem wd_76 {Z a0} (hw : HW Z a0) : (Cond.initialized "java/util/List").before a0 Z = true := hw.at 76 rfl
theorem pd_16 : parseMethodDescriptor "()Ljava/util/List;" = some ⟨[], some (.object "java/util/List")⟩ := by decide +kernel
theorem wd_100 {Z a0} (hw : HW Z a0) : (Cond.static ⟨"java/util/List", "of", "()Ljava/util/List;"⟩).before a0 Z = true := hw.at 100 rfl
theorem d25_43 : decode jdk_56_method_3_code 43 = .ok (.areturn, 1) := by decide +kernel
theorem pn_java_util_ImmutableCollections : plainName s5' = true := by first | (simp [plainName, overriddenIn]; done) | decide +kernel
theorem ef_m30_listCopy (m : MethodId) (x1 : Addr) : entryFrame m #[(.ref x1)] 2 = mkF m 0 #[rv x1, uu] [] := by first | rfl | (simp [entryFrame, mkF, argsToLocals, Value.category]; done)
theorem m30_listCopy (l : Launch) (Z : State) (a0 : Array Value) (hw : HW Z a0) (x1 x2 : Addr) (h0 : Heap) (n0 : Nat) (Z0 : n0 ≤ h0.size) (O0 : Old Z n0 h0) (P1 : Exa Z h0 x1 s1') (P2 : Fld Z h0 x1 s1' "size" "I" (.int 0)) (P3 : Sta Z Z.heap s5' "EMPTY_LIST" s10' (.ref x2)) :
    Ctr l Z [] (⟨s5', "listCopy", s12'⟩ : MethodName) jdk_56_method_3_code 2 (some (.object "java/util/List")) #[(.ref x1)] h0 ({ frames := 1, cells := 0, slots := 0, locals := 12 } : Room) (fun v h L => v = some (.ref x2) ∧ Fr n0 L ∧ h = h0) := by
  refine Ctr.of (plainFor_of_name pn_java_util_ImmutableCollections) (fun m => ef_m30_listCopy m x1) ?_
  intro p e s m below meth c T0 hx hZ hby hml hown hnm hret hlk X0 e0
  have N0 := Fr.nil n0
  show Aw p e below _ T0 m 0 #[rv x1, uu] []
  refine Rch.go (fun t k => XS.aloadN X0.here hx rfl (hb hby d25_0) rfl rfl k) ?_
  show Aw p e below _ T0 m 1 #[rv x1, uu] [(.ref x1)]
  obtain ⟨T1, X1, e1, st1⟩ := instNo X0 hx hZ hown (wd_82 hw) e0 P1 (own_nsNo (wd_83 hw) (NI.ofInst (wd_170 hw)) (NS.step (wd_83 hw) (NS.step (wd_84 hw) (NS.step (wd_85 hw) (own_nsRoot (wd_86 hw) (NI.ofInst (wd_170 hw)) (by decide)) (by decide)) (by decide)) (by decide)) (by decide)) (g := (mkF m 1 #[rv x1, uu] [(.ref x1)])) rfl rfl (hb hby d25_1)
  refine Rch.go st1 ?_
  show Aw p e below _ T1 m 4 #[rv x1, uu] [(.int 0)]
  refine Rch.go (fun t k => XS.ifNo X1.here hx rfl (hb hby d25_4) rfl (by decide) (XS.aloadN X1.here hx rfl (hb hby d25_7) rfl rfl k)) ?_
  show Aw p e below _ T1 m 8 #[rv x1, uu] [(.ref x1)]
  obtain ⟨T2, X2, e2, st2⟩ := instNo X1 hx hZ hown (wd_87 hw) e1 P1 (own_nsNo (wd_83 hw) (NI.ofSel (wd_269 hw) rfl) (NS.step (wd_83 hw) (NS.step (wd_84 hw) (NS.step (wd_85 hw) (own_nsRoot (wd_86 hw) (NI.ofSel (wd_269 hw) rfl) (by decide)) (by decide)) (by decide)) (by decide)) (by decide)) (g := (mkF m 8 #[rv x1, uu] [(.ref x1)])) rfl rfl (hb hby d25_8)
  refine Rch.go st2 ?_
  show Aw p e below _ T2 m 11 #[rv x1, uu] [(.int 0)]
  refine Rch.go (fun t k => XS.ifYes X2.here hx rfl (pc0 := 11) (pc' := 31) rfl (hb hby d25_11) rfl (by decide) (by decide) (by decide) (XS.aloadN X2.here hx rfl (hb hby d25_31) rfl rfl k)) ?_
  show Aw p e below _ T2 m 32 #[rv x1, uu] [(.ref x1)]
  obtain ⟨v3, T3, L3, X3, Q3, st3⟩ := callIf X2 hx hZ (m31_isEmpty l Z a0 hw x1 h0 n0 Z0 O0 P2) e2 hown (wd_88 hw) (wd_89 hw) (wd_90 hw) (wd_91 hw) (wd_92 hw) (wd_93 hw) (wd_94 hw) (wd_95 hw) (wd_96 hw) (wd_31 hw) (by decide) (hb hby d25_32) 0 (by decide) (by decide) (by decide) (by decide) (by rw [hml]; rfl) x1 P1 [] [] rfl (lenOf pd_5 rfl) rfl (Nat.le_of_eq rfl) (Ls := #[rv x1, uu])
  obtain ⟨rfl, M3, e3⟩ := Q3
  have N3 := Fr.app N0 M3
  refine Rch.go st3 ?_
  show Aw p e below _ T3 m 37 #[rv x1, uu] [(.int 1)]
  refine Rch.go (fun t k => XS.ifNo X3.here hx rfl (hb hby d25_37) rfl (by decide) k) ?_
  show Aw p e below _ T3 m 40 #[rv x1, uu] []
  obtain ⟨v4, T4, L4, X4, Q4, st4⟩ := callSt X3 hx hZ (m32_of l Z a0 hw x2 h0 n0 Z0 O0 P3) e3 hown (wd_99 hw) (wd_100 hw) (wd_101 hw) (wd_76 hw) (by decide) (hb hby d25_40) 0 (by decide) (by decide) (by decide) (by decide) (by rw [hml]; rfl) [] [] rfl (lenOf pd_16 rfl) rfl (Nat.le_of_eq rfl) (Ls := #[rv x1, uu])
  obtain ⟨rfl, M4, e4⟩ := Q4
  have N4 := Fr.app N3 M4
  refine Rch.go st4 ?_
  show Aw p e below _ T4 m 43 #[rv x1, uu] [(.ref x2)]
  refine Rch.val X4 hx (t := (.object "java/util/List")) hret hlk rfl (Or.inr (Or.inr (Or.inr (Or.inr ⟨rfl, rfl, rfl⟩)))) (hb hby d25_43) (by decide) (by decide) ?_
  try rw [e4]
  exact ⟨rfl, N4, rfl⟩
theorem wd_81 {Z a0} (hw : HW Z a0) : (Cond.code ⟨s5', "listCopy", s12'⟩ jdk_56_method_3_code (2 : Nat) (Option.some (FieldType.object "java/util/List"))).before a0 Z = true := hw.at 81 rfl
theorem wd_80 {Z a0} (hw : HW Z a0) : (Cond.initialized s5').before a0 Z = true := hw.at 80 rfl
theorem pd_17 : parseMethodDescriptor s12' = some ⟨[(.object "java/util/Collection")], some (.object "java/util/List")⟩ := by decide +kernel
theorem wd_79 {Z a0} (hw : HW Z a0) : (Cond.static ⟨s5', "listCopy", s12'⟩).before a0 Z = true := hw.at 79 rfl
theorem d24_4 : decode jdk_40_method_48_code 4 = .ok (.areturn, 1) := by decide +kernel
theorem ef_m29_copyOf (m : MethodId) (x1 : Addr) : entryFrame m #[(.ref x1)] 1 = mkF m 0 #[rv x1] [] := by first | rfl | (simp [entryFrame, mkF, argsToLocals, Value.category]; done)
theorem m29_copyOf (l : Launch) (Z : State) (a0 : Array Value) (hw : HW Z a0) (x1 x2 : Addr) (h0 : Heap) (n0 : Nat) (Z0 : n0 ≤ h0.size) (O0 : Old Z n0 h0) (P1 : Exa Z h0 x1 s1') (P2 : Fld Z h0 x1 s1' "size" "I" (.int 0)) (P3 : Sta Z Z.heap s5' "EMPTY_LIST" s10' (.ref x2)) :
    Ctr l Z [] (⟨"java/util/List", "copyOf", s12'⟩ : MethodName) jdk_40_method_48_code 1 (some (.object "java/util/List")) #[(.ref x1)] h0 ({ frames := 2, cells := 0, slots := 0, locals := 25 } : Room) (fun v h L => v = some (.ref x2) ∧ Fr n0 L ∧ h = h0) := by
  refine Ctr.of (plainFor_of_name pn_java_util_List) (fun m => ef_m29_copyOf m x1) ?_
  intro p e s m below meth c T0 hx hZ hby hml hown hnm hret hlk X0 e0
  have N0 := Fr.nil n0
  show Aw p e below _ T0 m 0 #[rv x1] []
  refine Rch.go (fun t k => XS.aloadN X0.here hx rfl (hb hby d24_0) rfl rfl k) ?_
  show Aw p e below _ T0 m 1 #[rv x1] [(.ref x1)]
  obtain ⟨v1, T1, L1, X1, Q1, st1⟩ := callSt X0 hx hZ (m30_listCopy l Z a0 hw x1 x2 h0 n0 Z0 O0 P1 P2 P3) e0 hown (wd_78 hw) (wd_79 hw) (wd_81 hw) (wd_80 hw) (by decide) (hb hby d24_1) 0 (by decide) (by decide) (by decide) (by decide) (by rw [hml]; rfl) [(.ref x1)] [] rfl (lenOf pd_17 rfl) rfl (Nat.le_of_eq rfl) (Ls := #[rv x1])
  obtain ⟨rfl, M1, e1⟩ := Q1
  have N1 := Fr.app N0 M1
  refine Rch.go st1 ?_
  show Aw p e below _ T1 m 4 #[rv x1] [(.ref x2)]
  refine Rch.val X1 hx (t := (.object "java/util/List")) hret hlk rfl (Or.inr (Or.inr (Or.inr (Or.inr ⟨rfl, rfl, rfl⟩)))) (hb hby d24_4) (by decide) (by decide) ?_
  try rw [e1]
  exact ⟨rfl, N1, rfl⟩
theorem wd_77 {Z a0} (hw : HW Z a0) : (Cond.code ⟨"java/util/List", "copyOf", s12'⟩ jdk_40_method_48_code (1 : Nat) (Option.some (FieldType.object "java/util/List"))).before a0 Z = true := hw.at 77 rfl
theorem wd_75 {Z a0} (hw : HW Z a0) : (Cond.static ⟨"java/util/List", "copyOf", s12'⟩).before a0 Z = true := hw.at 75 rfl
theorem d20_32 : decode prog_9_method_1_code 32 = .ok (.astore_n 2, 1) := by decide +kernel
theorem d20_33 : decode prog_9_method_1_code 33 = .ok (.aload_n 0, 1) := by decide +kernel
theorem d20_34 : decode prog_9_method_1_code 34 = .ok (.aload_n 1, 1) := by decide +kernel
theorem d20_35 : decode prog_9_method_1_code 35 = .ok (.putfield 34, 3) := by decide +kernel
theorem d20_38 : decode prog_9_method_1_code 38 = .ok (.aload_n 0, 1) := by decide +kernel
theorem d20_39 : decode prog_9_method_1_code 39 = .ok (.aload_n 2, 1) := by decide +kernel
theorem d20_40 : decode prog_9_method_1_code 40 = .ok (.putfield 39, 3) := by decide +kernel
theorem d20_43 : decode prog_9_method_1_code 43 = .ok (.return_, 1) := by decide +kernel
theorem ef_m25_init (m : MethodId) (x1 x2 x3 : Addr) : entryFrame m #[(.ref x1), (.ref x2), (.ref x3)] 3 = mkF m 0 #[rv x1, rv x2, rv x3] [] := by first | rfl | (simp [entryFrame, mkF, argsToLocals, Value.category]; done)
theorem m25_init (l : Launch) (Z : State) (a0 : Array Value) (hw : HW Z a0) (x1 x2 x3 x4 : Addr) (kk5 : ClassId) (y6 : Int32) (x7 : Addr) (h0 : Heap) (n0 : Nat) (Z0 : n0 ≤ h0.size) (O0 : Old Z n0 h0) (P1 : Exa Z h0 x2 "java/lang/String") (P2 : Fld Z h0 x2 "java/lang/String" "value" "[B" (.ref x4)) (P3 : Arv Z h0 x4 kk5 .byte (1 : Int32) [(.int y6)] (.int 0)) (P4 : Exa Z h0 x3 s1') (P5 : Fld Z h0 x3 s1' "size" "I" (.int 0)) (P6 : Sta Z Z.heap s5' "EMPTY_LIST" s10' (.ref x7)) (P7 : Exa Z h0 x1 s2') (P8 : Fld Z h0 x1 s2' "value" "Ljava/lang/String;" .null) (P9 : n0 ≤ x1) (P10 : Fld Z h0 x1 s2' "children" "Ljava/util/List;" .null) :
    CtrW l Z [] (⟨s2', "<init>", "(Ljava/lang/String;Ljava/util/List;)V"⟩ : MethodName) prog_9_method_1_code 3 none #[(.ref x1), (.ref x2), (.ref x3)] h0 ({ frames := 3, cells := 2, slots := 24, locals := 37 } : Room) (fun v h L => v = none ∧ Fr n0 L ∧ Keep h0 h [x1] ∧ Fld Z h x1 s2' "value" "Ljava/lang/String;" (.ref x2) ∧ Fld Z h x1 s2' "children" "Ljava/util/List;" (.ref x7)) := by
  refine CtrW.of (plainFor_of_name pn_com_example_harpocrates_harpocrates_data_Taxonomy) (fun m => ef_m25_init m x1 x2 x3) ?_
  intro p e s vm0 m below meth c T0 hx hZ hby hml hown hnm hret hlk Y0 X0 e0
  have N0 := Fr.nil n0
  show Aw p e below _ T0 m 0 #[rv x1, rv x2, rv x3] []
  refine Rch.go (fun t k => XS.aloadN X0.here hx rfl (hb hby d20_0) rfl rfl k) ?_
  show Aw p e below _ T0 m 1 #[rv x1, rv x2, rv x3] [(.ref x1)]
  obtain ⟨v1, T1, L1, X1, Q1, st1⟩ := callSp X0 hx hZ (m26_init l Z a0 hw x1 h0 n0 Z0 O0 ) e0 hown rfl (wd_56 hw) (wd_57 hw) (wd_60 hw) (wd_59 hw) (by decide) (hb hby d20_1) 0 (by decide) (by decide) (by decide) (by decide) (by rw [hml]; rfl) x1 [] [] rfl (lenOf pd_14 rfl) rfl (Nat.le_of_eq rfl) (Ls := #[rv x1, rv x2, rv x3])
  obtain ⟨rfl, M1, e1⟩ := Q1
  have N1 := Fr.app N0 M1
  refine Rch.go st1 ?_
  show Aw p e below _ T1 m 4 #[rv x1, rv x2, rv x3] []
  refine Rch.go (fun t k => XS.aloadN X1.here hx rfl (hb hby d20_4) rfl rfl k) ?_
  show Aw p e below _ T1 m 5 #[rv x1, rv x2, rv x3] [(.ref x2)]
  obtain ⟨b2, T2, h2, k2, X2, e2, E2, Y2, yk2, hZ2, hown2, st2⟩ := ldcS X1 hx hZ hown (wd_62 hw) (strW hw) e1 Y0 (Nat.le_refl _) (g := (mkF m 5 #[rv x1, rv x2, rv x3] [(.ref x2)])) rfl (hb hby d20_5) (n := 20) (by decide) (by decide) (by decide) (by decide)
  refine Rch.go st2 ?_
  show Aw p e below _ T2 m 7 #[rv x1, rv x2, rv x3] [(.ref b2), (.ref x2)]
  have z3 := (Nat.le_trans Z0 E2.1)
  have o4 := (O0.ext E2)
  obtain ⟨v5, T5, L5, X5, Q5, st5⟩ := callSt X2 hx hZ2 (m27_requireNonNull l Z a0 hw x2 b2 h2 n0 z3 o4 ) e2 hown2 (wd_65 hw) (wd_66 hw) (wd_68 hw) (wd_67 hw) (by decide) (hb hby d20_7) 0 (by decide) (by decide) (by decide) (by decide) (by rw [hml]; rfl) [(.ref x2), (.ref b2)] [] rfl (lenOf pd_15 rfl) rfl (Nat.le_of_eq rfl) (Ls := #[rv x1, rv x2, rv x3])
  obtain ⟨rfl, M5, e5⟩ := Q5
  have N5 := Fr.app N1 M5
  refine Rch.go st5 ?_
  show Aw p e below _ T5 m 10 #[rv x1, rv x2, rv x3] [(.ref x2)]
  refine Rch.go (fun t k => XS.pop X5.here hx rfl (hb hby d20_10) rfl rfl (XS.aloadN X5.here hx rfl (hb hby d20_11) rfl rfl k)) ?_
  show Aw p e below _ T5 m 12 #[rv x1, rv x2, rv x3] [(.ref x2)]
  have f6 := (P2.ext E2)
  have f7 := (P3.ext E2)
  have f9 := (P1.ext E2)
  obtain ⟨v8, T8, L8, X8, Q8, st8⟩ := callVi X5 hx hZ2 (m28_isEmpty l Z a0 hw x2 x4 kk5 y6 h2 n0 z3 o4 f6 f7) e5 hown2 (wd_69 hw) (wd_70 hw) (wd_72 hw) (notFace_of_selects (args := #[]) (mvT hZ2 (wd_72 hw))) (wd_71 hw) (wd_73 hw) (wd_5 hw) (by decide) (hb hby d20_12) 0 (by decide) (by decide) (by decide) (by decide) (by rw [hml]; rfl) x2 f9 [] [] rfl (lenOf pd_5 rfl) rfl (Nat.le_of_eq rfl) (Ls := #[rv x1, rv x2, rv x3])
  obtain ⟨rfl, M8, e8⟩ := Q8
  have N8 := Fr.app N5 M8
  refine Rch.go st8 ?_
  show Aw p e below _ T8 m 15 #[rv x1, rv x2, rv x3] [(.int 0)]
  refine Rch.go (fun t k => XS.ifYes X8.here hx rfl (pc0 := 15) (pc' := 28) rfl (hb hby d20_15) rfl (by decide) (by decide) (by decide) (XS.aloadN X8.here hx rfl (hb hby d20_28) rfl rfl k)) ?_
  show Aw p e below _ T8 m 29 #[rv x1, rv x2, rv x3] [(.ref x3)]
  have f10 := (P4.ext E2)
  have f11 := (P5.ext E2)
  obtain ⟨v12, T12, L12, X12, Q12, st12⟩ := callSt X8 hx hZ2 (m29_copyOf l Z a0 hw x3 x7 h2 n0 z3 o4 f10 f11 P6) e8 hown2 (wd_74 hw) (wd_75 hw) (wd_77 hw) (wd_76 hw) (by decide) (hb hby d20_29) 0 (by decide) (by decide) (by decide) (by decide) (by rw [hml]; rfl) [(.ref x3)] [] rfl (lenOf pd_17 rfl) rfl (Nat.le_of_eq rfl) (Ls := #[rv x1, rv x2, rv x3])
  obtain ⟨rfl, M12, e12⟩ := Q12
  have N12 := Fr.app N8 M12
  refine Rch.go st12 ?_
  show Aw p e below _ T12 m 32 #[rv x1, rv x2, rv x3] [(.ref x7)]
  refine Rch.go (fun t k => XS.astoreN X12.here hx rfl (hb hby d20_32) rfl rfl (l' := #[rv x1, rv x2, rv x7]) rfl (XS.aloadN X12.here hx rfl (hb hby d20_33) rfl rfl (XS.aloadN X12.here hx rfl (hb hby d20_34) rfl rfl k))) ?_
  show Aw p e below _ T12 m 35 #[rv x1, rv x2, rv x7] [(.ref x2), (.ref x1)]
  have f14 := (P8.ext E2)
  have f15 := (P7.ext E2)
  obtain ⟨T13, h13, X13, e13, W13, st13⟩ := putF X12 hx hZ2 hown2 (host := "") (Or.inl (wd_103 hw)) Via.refl e12 f14 f15 (Or.inr ⟨(wd_104 hw), rfl, hnm⟩) (wd_1 hw) (ty := (.object "java/lang/String")) (by decide) rfl rfl (g := (mkF m 35 #[rv x1, rv x2, rv x7] [(.ref x2), (.ref x1)])) rfl rfl (hb hby d20_35)
  refine Rch.go st13 ?_
  have F13 := f14.same W13
  have N13 := Fr.snoc X13 N12 P9
  show Aw p e below _ T13 m 38 #[rv x1, rv x2, rv x7] []
  refine Rch.go (fun t k => XS.aloadN X13.here hx rfl (hb hby d20_38) rfl rfl (XS.aloadN X13.here hx rfl (hb hby d20_39) rfl rfl k)) ?_
  show Aw p e below _ T13 m 40 #[rv x1, rv x2, rv x7] [(.ref x7), (.ref x1)]
  have f17 := ((P10.ext E2).other W13 (Or.inr (slot_ne (Or.inr (wd_106 hw)) (Or.inr (wd_104 hw)) (by decide) (t := (.object "java/util/List")) (t' := (.object "java/lang/String")) (by decide) (by decide))))
  have f18 := (f15.wr W13)
  obtain ⟨T16, h16, X16, e16, W16, st16⟩ := putF X13 hx hZ2 hown2 (host := "") (Or.inl (wd_105 hw)) Via.refl e13 f17 f18 (Or.inr ⟨(wd_106 hw), rfl, hnm⟩) (wd_1 hw) (ty := (.object "java/util/List")) (by decide) rfl rfl (g := (mkF m 40 #[rv x1, rv x2, rv x7] [(.ref x7), (.ref x1)])) rfl rfl (hb hby d20_40)
  refine Rch.go st16 ?_
  have F16 := f17.same W16
  have N16 := Fr.snoc X16 N13 P9
  show Aw p e below _ T16 m 43 #[rv x1, rv x2, rv x7] []
  have f19 := (F13.other W16 (Or.inr (slot_ne (Or.inr (wd_104 hw)) (Or.inr (wd_106 hw)) (by decide) (t := (.object "java/lang/String")) (t' := (.object "java/util/List")) (by decide) (by decide))))
  refine Rch.voidW X16 hx Y2 e16 (Nat.le_trans (Nat.le_trans yk2 (Nat.le_of_eq W13.size.symm)) (Nat.le_of_eq W16.size.symm)) hret hlk (hb hby d20_43) (by decide) (by decide) ?_
  exact ⟨rfl, N16, ((((Keep.refl _ _).ext E2).wr W13 (Or.inl (List.mem_of_getElem? (i := 0) rfl))).wr W16 (Or.inl (List.mem_of_getElem? (i := 0) rfl))), f19, F16⟩
theorem wd_55 {Z a0} (hw : HW Z a0) : (Cond.code ⟨s2', "<init>", "(Ljava/lang/String;Ljava/util/List;)V"⟩ prog_9_method_1_code (3 : Nat) (Option.none : Option FieldType)).before a0 Z = true := hw.at 55 rfl
theorem pd_18 : parseMethodDescriptor "(Ljava/lang/String;Ljava/util/List;)V" = some ⟨[(.object "java/lang/String"), (.object "java/util/List")], none⟩ := by decide +kernel
theorem wd_54 {Z a0} (hw : HW Z a0) : (Cond.instanceMethod ⟨s2', "<init>", "(Ljava/lang/String;Ljava/util/List;)V"⟩).before a0 Z = true := hw.at 54 rfl
theorem wd_198 {Z a0} (hw : HW Z a0) : (Cond.methodLink s7' (35 : Nat) ⟨s2', "find", s9'⟩).before a0 Z = true := hw.at 198 rfl
theorem wd_230 {Z a0} (hw : HW Z a0) : (Cond.methodLink s7' (39 : Nat) ⟨"java/util/Optional", "orElse", s11'⟩).before a0 Z = true := hw.at 230 rfl
theorem d28_0 : decode jdk_32_method_15_code 0 = .ok (.aload_n 0, 1) := by decide +kernel
theorem d28_1 : decode jdk_32_method_15_code 1 = .ok (.getfield 13, 3) := by decide +kernel
theorem d28_4 : decode jdk_32_method_15_code 4 = .ok (.ifnull 10, 3) := by decide +kernel
theorem d28_14 : decode jdk_32_method_15_code 14 = .ok (.aload_n 1, 1) := by decide +kernel
theorem d28_15 : decode jdk_32_method_15_code 15 = .ok (.areturn, 1) := by decide +kernel
theorem ef_m38_orElse (m : MethodId) (x1 : Addr) : entryFrame m #[(.ref x1), .null] 2 = mkF m 0 #[rv x1, .val .null] [] := by first | rfl | (simp [entryFrame, mkF, argsToLocals, Value.category]; done)
theorem m38_orElse (l : Launch) (Z : State) (a0 : Array Value) (hw : HW Z a0) (x1 : Addr) (h0 : Heap) (n0 : Nat) (Z0 : n0 ≤ h0.size) (O0 : Old Z n0 h0) (P1 : Fld Z h0 x1 "java/util/Optional" "value" "Ljava/lang/Object;" .null) :
    Ctr l Z [] (⟨"java/util/Optional", "orElse", s11'⟩ : MethodName) jdk_32_method_15_code 2 (some (.object "java/lang/Object")) #[(.ref x1), .null] h0 ({ frames := 0, cells := 0, slots := 0, locals := 0 } : Room) (fun v h L => v = some .null ∧ Fr n0 L ∧ h = h0) := by
  refine Ctr.of (plainFor_of_name pn_java_util_Optional) (fun m => ef_m38_orElse m x1) ?_
  intro p e s m below meth c T0 hx hZ hby hml hown hnm hret hlk X0 e0
  have N0 := Fr.nil n0
  show Aw p e below _ T0 m 0 #[rv x1, .val .null] []
  refine Rch.go (fun t k => XS.aloadN X0.here hx rfl (hb hby d28_0) rfl rfl k) ?_
  show Aw p e below _ T0 m 1 #[rv x1, .val .null] [(.ref x1)]
  obtain ⟨T1, X1, e1, st1⟩ := getF X0 hx hZ hown (host := "") (Or.inl (wd_223 hw)) Via.refl e0 P1 (g := (mkF m 1 #[rv x1, .val .null] [(.ref x1)])) rfl rfl (hb hby d28_1)
  refine Rch.go st1 ?_
  show Aw p e below _ T1 m 4 #[rv x1, .val .null] [.null]
  refine Rch.go (fun t k => XS.ifnullYes X1.here hx rfl (pc0 := 4) (pc' := 14) rfl (hb hby d28_4) rfl (by decide) (by decide) (XS.aloadN X1.here hx rfl (hb hby d28_14) rfl rfl k)) ?_
  show Aw p e below _ T1 m 15 #[rv x1, .val .null] [.null]
  refine Rch.val X1 hx (t := (.object "java/lang/Object")) hret hlk rfl (Or.inr (Or.inr (Or.inr (Or.inr ⟨rfl, rfl, rfl⟩)))) (hb hby d28_15) (by decide) (by decide) ?_
  try rw [e1]
  exact ⟨rfl, N0, rfl⟩
theorem wd_234 {Z a0} (hw : HW Z a0) : (Cond.code ⟨"java/util/Optional", "orElse", s11'⟩ jdk_32_method_15_code (2 : Nat) (Option.some (FieldType.object "java/lang/Object"))).before a0 Z = true := hw.at 234 rfl
theorem wd_233 {Z a0} (hw : HW Z a0) : (Cond.selects "java/util/Optional" ⟨"java/util/Optional", "orElse", s11'⟩ ⟨"java/util/Optional", "orElse", s11'⟩).before a0 Z = true := hw.at 233 rfl
theorem wd_231 {Z a0} (hw : HW Z a0) : (Cond.declares ⟨"java/util/Optional", "orElse", s11'⟩).before a0 Z = true := hw.at 231 rfl
theorem wd_232 {Z a0} (hw : HW Z a0) : (Cond.instanceMethod ⟨"java/util/Optional", "orElse", s11'⟩).before a0 Z = true := hw.at 232 rfl
theorem d28_7 : decode jdk_32_method_15_code 7 = .ok (.aload_n 0, 1) := by decide +kernel
theorem d28_8 : decode jdk_32_method_15_code 8 = .ok (.getfield 13, 3) := by decide +kernel
theorem d28_11 : decode jdk_32_method_15_code 11 = .ok (.goto 4, 3) := by decide +kernel
theorem ef_m39_orElse (m : MethodId) (x1 : Addr) : entryFrame m #[(.ref x1), .null] 2 = mkF m 0 #[rv x1, .val .null] [] := by first | rfl | (simp [entryFrame, mkF, argsToLocals, Value.category]; done)
theorem m39_orElse (l : Launch) (Z : State) (a0 : Array Value) (hw : HW Z a0) (x1 x2 : Addr) (h0 : Heap) (n0 : Nat) (Z0 : n0 ≤ h0.size) (O0 : Old Z n0 h0) (P1 : Fld Z h0 x1 "java/util/Optional" "value" "Ljava/lang/Object;" (.ref x2)) :
    Ctr l Z [] (⟨"java/util/Optional", "orElse", s11'⟩ : MethodName) jdk_32_method_15_code 2 (some (.object "java/lang/Object")) #[(.ref x1), .null] h0 ({ frames := 0, cells := 0, slots := 0, locals := 0 } : Room) (fun v h L => v = some (.ref x2) ∧ Fr n0 L ∧ h = h0) := by
  refine Ctr.of (plainFor_of_name pn_java_util_Optional) (fun m => ef_m39_orElse m x1) ?_
  intro p e s m below meth c T0 hx hZ hby hml hown hnm hret hlk X0 e0
  have N0 := Fr.nil n0
  show Aw p e below _ T0 m 0 #[rv x1, .val .null] []
  refine Rch.go (fun t k => XS.aloadN X0.here hx rfl (hb hby d28_0) rfl rfl k) ?_
  show Aw p e below _ T0 m 1 #[rv x1, .val .null] [(.ref x1)]
  obtain ⟨T1, X1, e1, st1⟩ := getF X0 hx hZ hown (host := "") (Or.inl (wd_223 hw)) Via.refl e0 P1 (g := (mkF m 1 #[rv x1, .val .null] [(.ref x1)])) rfl rfl (hb hby d28_1)
  refine Rch.go st1 ?_
  show Aw p e below _ T1 m 4 #[rv x1, .val .null] [(.ref x2)]
  refine Rch.go (fun t k => XS.ifnullNo X1.here hx rfl (hb hby d28_4) rfl (XS.aloadN X1.here hx rfl (hb hby d28_7) rfl rfl k)) ?_
  show Aw p e below _ T1 m 8 #[rv x1, .val .null] [(.ref x1)]
  obtain ⟨T2, X2, e2, st2⟩ := getF X1 hx hZ hown (host := "") (Or.inl (wd_223 hw)) Via.refl e1 P1 (g := (mkF m 8 #[rv x1, .val .null] [(.ref x1)])) rfl rfl (hb hby d28_8)
  refine Rch.go st2 ?_
  show Aw p e below _ T2 m 11 #[rv x1, .val .null] [(.ref x2)]
  refine Rch.go (fun t k => XS.goto X2.here hx rfl (pc0 := 11) (pc' := 15) rfl (hb hby d28_11) (by decide) (by decide) k) ?_
  show Aw p e below _ T2 m 15 #[rv x1, .val .null] [(.ref x2)]
  refine Rch.val X2 hx (t := (.object "java/lang/Object")) hret hlk rfl (Or.inr (Or.inr (Or.inr (Or.inr ⟨rfl, rfl, rfl⟩)))) (hb hby d28_15) (by decide) (by decide) ?_
  try rw [e2]
  exact ⟨rfl, N0, rfl⟩
theorem pz_37 (l : Launch) (Z : State) (a0 : Array Value) (hw : HW Z a0) (sl1 sl2 sl3 sl4 sl5 sl6 sl7 sl8 sl9 sl10 : Slot) (y11 : Int32) (sl12 sl13 sl14 sl15 sl16 sl17 sl18 : Slot) (x19 : Addr) (vv20 : Value) (y21 : Int32) (h0 : Heap) (n0 : Nat) (Z0 : n0 ≤ h0.size) (O0 : Old Z n0 h0) (P1 : vv20.isRef = true) (P2 : Sta Z Z.heap "java/lang/String" "COMPACT_STRINGS" "Z" (.int y21)) (P3 : ¬ (y21 = (0 : Int32))) (P4 : ¬ ((255 : Int32) < y11)) (P5 : FC l Z RC n0 h0 x19 y11 vv20) (P6 : Ltr y11) (p : Program) (e : Env) (s : State) (vm0 : Vm) (m : MethodId) (below : List Frame) (meth : Method) (c : Code) (T0 : State) (args : Array Value) (locs : List Loc) (hx : p.tables.exec = Jvm.exec) (hZ : Z.Warmed39 vm0) (hby : c.code = code) (hml : c.maxLocals = 21) (hown : vm0.findClass s7' = some m.cls) (hnm : meth.name = "law") (hret : meth.sig.returnType = some .boolean) (hlk : meth.locks = false) (Y0 : s.Since vm0 h0.size) (X0 : Stand p l e room_1 (s.setVm vm0) m args below meth c T0 locs 50 300) (e0 : T0.heap = h0) (N0 : Fr n0 locs) :
    Rch p e below (LeavesW s room_1.cells room_1.slots (fun v h L => v = some (.int 1) ∧ Fr n0 L)) (T0.setTop (mkF m 401 #[sl1, sl2, sl3, sl4, sl5, sl6, sl7, sl8, sl9, sl10, iv y11, sl12, sl13, sl14, sl15, sl16, sl17, sl18, rv x19, .val vv20, uu] [])) := by
  show Aw p e below _ T0 m 401 #[sl1, sl2, sl3, sl4, sl5, sl6, sl7, sl8, sl9, sl10, iv y11, sl12, sl13, sl14, sl15, sl16, sl17, sl18, rv x19, .val vv20, uu] []
  refine Rch.go (fun t k => XS.aload X0.here hx rfl (hb hby at_401) rfl rfl (XS.iload X0.here hx rfl (hb hby at_403) rfl  k)) ?_
  show Aw p e below _ T0 m 405 #[sl1, sl2, sl3, sl4, sl5, sl6, sl7, sl8, sl9, sl10, iv y11, sl12, sl13, sl14, sl15, sl16, sl17, sl18, rv x19, .val vv20, uu] [(.int y11), (.ref x19)]
  obtain ⟨v1, T1, L1, X1, Q1, st1⟩ := callSt X0 hx hZ (m18_valueOf l Z a0 hw y11 y21 h0 n0 Z0 O0 P2 P3 P4) e0 hown (wd_3 hw) (wd_4 hw) (wd_6 hw) (wd_5 hw) (by decide) (hb hby at_405) 1 (by decide) (by decide) (by decide) (by decide) (by rw [hml]; rfl) [(.int y11)] [(.ref x19)] rfl (lenOf pd_13 rfl) rfl (Nat.le_of_eq rfl) (Ls := #[sl1, sl2, sl3, sl4, sl5, sl6, sl7, sl8, sl9, sl10, iv y11, sl12, sl13, sl14, sl15, sl16, sl17, sl18, rv x19, .val vv20, uu])
  obtain ⟨b1_0, b1_1, k1_0, rfl, M1, K1, zz1_0, zz1_1, F1_0, F1_1, F1_2, F1_3, F1_4⟩ := Q1
  have N1 := Fr.app N0 M1
  refine Rch.go st1 ?_
  have g_b1_0 : n0 ≤ b1_0 := Nat.le_trans Z0 zz1_0
  have g_b1_1 : n0 ≤ b1_1 := Nat.le_trans Z0 zz1_1
  show Aw p e below _ T1 m 408 #[sl1, sl2, sl3, sl4, sl5, sl6, sl7, sl8, sl9, sl10, iv y11, sl12, sl13, sl14, sl15, sl16, sl17, sl18, rv x19, .val vv20, uu] [(.ref b1_0), (.ref x19)]
  have f3 := (P5.1.keep K1)
  obtain ⟨v2, T2, L2, X2, Q2, st2⟩ := callVi X1 hx hZ (P5.2.2 _ b1_0 ((Keep.refl _ _).trans K1 all0) ⟨b1_1, k1_0, F1_0, F1_3, F1_4, F1_2, P6⟩ (Nat.le_trans (Nat.le_refl _) zz1_0)) rfl hown (wd_198 hw) (wd_199 hw) (wd_201 hw) (notFace_of_selects (args := #[]) (mvT hZ (wd_201 hw))) (wd_200 hw) (wd_202 hw) (wd_2 hw) (by decide) (hb hby at_408) 0 (by decide) (by decide) (by decide) (by decide) (by rw [hml]; rfl) x19 f3 [(.ref b1_0)] [] rfl (lenOf pd_9 rfl) rfl (Nat.le_of_eq rfl) (Ls := #[sl1, sl2, sl3, sl4, sl5, sl6, sl7, sl8, sl9, sl10, iv y11, sl12, sl13, sl14, sl15, sl16, sl17, sl18, rv x19, .val vv20, uu])
  obtain ⟨o2, rfl, M2, K2, E2, F2⟩ := Q2
  have N2 := Fr.app N1 M2
  refine Rch.go st2 ?_
  show Aw p e below _ T2 m 411 #[sl1, sl2, sl3, sl4, sl5, sl6, sl7, sl8, sl9, sl10, iv y11, sl12, sl13, sl14, sl15, sl16, sl17, sl18, rv x19, .val vv20, uu] [(.ref o2)]
  rcases ref_cases P1 with hz | ⟨rz, hz⟩
  · rw [hz] at F2; rw [hz]
    show Aw p e below _ T2 m 411 #[sl1, sl2, sl3, sl4, sl5, sl6, sl7, sl8, sl9, sl10, iv y11, sl12, sl13, sl14, sl15, sl16, sl17, sl18, rv x19, .val .null, uu] [(.ref o2)]
    refine Rch.go (fun t k => XS.aconstNull X2.here hx rfl (hb hby at_411) k) ?_
    show Aw p e below _ T2 m 412 #[sl1, sl2, sl3, sl4, sl5, sl6, sl7, sl8, sl9, sl10, iv y11, sl12, sl13, sl14, sl15, sl16, sl17, sl18, rv x19, .val .null, uu] [.null, (.ref o2)]
    have z4 := (Nat.le_trans (Nat.le_trans Z0 K1.1) K2.1)
    have o5 := ((O0.keep K1 all0).keep K2 all0)
    obtain ⟨v6, T6, L6, X6, Q6, st6⟩ := callVi X2 hx hZ (m38_orElse l Z a0 hw o2 T2.heap n0 z4 o5 F2) rfl hown (wd_230 hw) (wd_231 hw) (wd_233 hw) (notFace_of_selects (args := #[]) (mvT hZ (wd_233 hw))) (wd_232 hw) (wd_234 hw) (wd_213 hw) (by decide) (hb hby at_412) 0 (by decide) (by decide) (by decide) (by decide) (by rw [hml]; rfl) o2 E2 [.null] [] rfl (lenOf pd_2 rfl) rfl (Nat.le_of_eq rfl) (Ls := #[sl1, sl2, sl3, sl4, sl5, sl6, sl7, sl8, sl9, sl10, iv y11, sl12, sl13, sl14, sl15, sl16, sl17, sl18, rv x19, .val .null, uu])
    obtain ⟨rfl, M6, e6⟩ := Q6
    have N6 := Fr.app N2 M6
    refine Rch.go st6 ?_
    show Aw p e below _ T6 m 415 #[sl1, sl2, sl3, sl4, sl5, sl6, sl7, sl8, sl9, sl10, iv y11, sl12, sl13, sl14, sl15, sl16, sl17, sl18, rv x19, .val .null, uu] [.null]
    refine Rch.go (fun t k => X6.checkcastNull hx (g := (mkF m 415 #[sl1, sl2, sl3, sl4, sl5, sl6, sl7, sl8, sl9, sl10, iv y11, sl12, sl13, sl14, sl15, sl16, sl17, sl18, rv x19, .val .null, uu] [.null])) rfl rfl (hb hby at_415) t k) ?_
    show Aw p e below _ T6 m 418 #[sl1, sl2, sl3, sl4, sl5, sl6, sl7, sl8, sl9, sl10, iv y11, sl12, sl13, sl14, sl15, sl16, sl17, sl18, rv x19, .val .null, uu] [.null]
    refine Rch.go (fun t k => XS.astore X6.here hx rfl (hb hby at_418) rfl rfl (l' := #[sl1, sl2, sl3, sl4, sl5, sl6, sl7, sl8, sl9, sl10, iv y11, sl12, sl13, sl14, sl15, sl16, sl17, sl18, rv x19, .val .null, .val .null]) rfl (XS.aload X6.here hx rfl (hb hby at_420) rfl rfl (XS.aload X6.here hx rfl (hb hby at_422) rfl rfl (acmp X6 hx rfl (x := .null) (y := .null) rfl rfl (pc0 := 424) (pc' := 427) (same := true) rfl (hb hby at_424) rfl (decide_eq_true rfl) (by decide) (by decide) (XS.iconst X6.here hx rfl (hb hby at_427) (XS.goto X6.here hx rfl (pc0 := 428) (pc' := 432) rfl (hb hby at_428) (by decide) (by decide) k)))))) ?_
    show Aw p e below _ T6 m 432 #[sl1, sl2, sl3, sl4, sl5, sl6, sl7, sl8, sl9, sl10, iv y11, sl12, sl13, sl14, sl15, sl16, sl17, sl18, rv x19, .val .null, .val .null] [(.int 1)]
    refine Rch.valW X6 hx Y0 e6 (Nat.le_trans (Nat.le_trans (Nat.le_refl _) K1.1) K2.1) (t := .boolean) hret hlk rfl (mayI (by simp)) (hb hby at_432) (by decide) (by decide) ?_
    exact ⟨rfl, N6⟩
  · rw [hz] at F2; rw [hz]
    show Aw p e below _ T2 m 411 #[sl1, sl2, sl3, sl4, sl5, sl6, sl7, sl8, sl9, sl10, iv y11, sl12, sl13, sl14, sl15, sl16, sl17, sl18, rv x19, rv rz, uu] [(.ref o2)]
    refine Rch.go (fun t k => XS.aconstNull X2.here hx rfl (hb hby at_411) k) ?_
    show Aw p e below _ T2 m 412 #[sl1, sl2, sl3, sl4, sl5, sl6, sl7, sl8, sl9, sl10, iv y11, sl12, sl13, sl14, sl15, sl16, sl17, sl18, rv x19, rv rz, uu] [.null, (.ref o2)]
    have z7 := (Nat.le_trans (Nat.le_trans Z0 K1.1) K2.1)
    have o8 := ((O0.keep K1 all0).keep K2 all0)
    obtain ⟨v9, T9, L9, X9, Q9, st9⟩ := callVi X2 hx hZ (m39_orElse l Z a0 hw o2 rz T2.heap n0 z7 o8 F2) rfl hown (wd_230 hw) (wd_231 hw) (wd_233 hw) (notFace_of_selects (args := #[]) (mvT hZ (wd_233 hw))) (wd_232 hw) (wd_234 hw) (wd_213 hw) (by decide) (hb hby at_412) 0 (by decide) (by decide) (by decide) (by decide) (by rw [hml]; rfl) o2 E2 [.null] [] rfl (lenOf pd_2 rfl) rfl (Nat.le_of_eq rfl) (Ls := #[sl1, sl2, sl3, sl4, sl5, sl6, sl7, sl8, sl9, sl10, iv y11, sl12, sl13, sl14, sl15, sl16, sl17, sl18, rv x19, rv rz, uu])
    obtain ⟨rfl, M9, e9⟩ := Q9
    have N9 := Fr.app N2 M9
    refine Rch.go st9 ?_
    show Aw p e below _ T9 m 415 #[sl1, sl2, sl3, sl4, sl5, sl6, sl7, sl8, sl9, sl10, iv y11, sl12, sl13, sl14, sl15, sl16, sl17, sl18, rv x19, rv rz, uu] [(.ref rz)]
    have f11 := (((P5.2.1 rz hz).keep K1).keep K2)
    obtain ⟨T10, X10, e10, st10⟩ := castY X9 hx hZ hown (wd_0 hw) e9 (Ins.self f11) (g := (mkF m 415 #[sl1, sl2, sl3, sl4, sl5, sl6, sl7, sl8, sl9, sl10, iv y11, sl12, sl13, sl14, sl15, sl16, sl17, sl18, rv x19, rv rz, uu] [(.ref rz)])) rfl rfl (hb hby at_415)
    refine Rch.go st10 ?_
    show Aw p e below _ T10 m 418 #[sl1, sl2, sl3, sl4, sl5, sl6, sl7, sl8, sl9, sl10, iv y11, sl12, sl13, sl14, sl15, sl16, sl17, sl18, rv x19, rv rz, uu] [(.ref rz)]
    refine Rch.go (fun t k => XS.astore X10.here hx rfl (hb hby at_418) rfl rfl (l' := #[sl1, sl2, sl3, sl4, sl5, sl6, sl7, sl8, sl9, sl10, iv y11, sl12, sl13, sl14, sl15, sl16, sl17, sl18, rv x19, rv rz, rv rz]) rfl (XS.aload X10.here hx rfl (hb hby at_420) rfl rfl (XS.aload X10.here hx rfl (hb hby at_422) rfl rfl (acmp X10 hx rfl (x := (.ref rz)) (y := (.ref rz)) rfl rfl (pc0 := 424) (pc' := 427) (same := true) rfl (hb hby at_424) rfl (decide_eq_true rfl) (by decide) (by decide) (XS.iconst X10.here hx rfl (hb hby at_427) (XS.goto X10.here hx rfl (pc0 := 428) (pc' := 432) rfl (hb hby at_428) (by decide) (by decide) k)))))) ?_
    show Aw p e below _ T10 m 432 #[sl1, sl2, sl3, sl4, sl5, sl6, sl7, sl8, sl9, sl10, iv y11, sl12, sl13, sl14, sl15, sl16, sl17, sl18, rv x19, rv rz, rv rz] [(.int 1)]
    refine Rch.valW X10 hx Y0 e10 (Nat.le_trans (Nat.le_trans (Nat.le_refl _) K1.1) K2.1) (t := .boolean) hret hlk rfl (mayI (by simp)) (hb hby at_432) (by decide) (by decide) ?_
    exact ⟨rfl, N9⟩
theorem pz_40 (l : Launch) (Z : State) (a0 : Array Value) (hw : HW Z a0) (sl1 sl2 sl3 sl4 sl5 sl6 sl7 sl8 sl9 sl10 : Slot) (y11 : Int32) (sl12 sl13 sl14 sl15 sl16 sl17 sl18 : Slot) (x19 : Addr) (vv20 : Value) (y21 : Int32) (h0 : Heap) (n0 : Nat) (Z0 : n0 ≤ h0.size) (O0 : Old Z n0 h0) (P1 : vv20.isRef = true) (P2 : Sta Z Z.heap "java/lang/String" "COMPACT_STRINGS" "Z" (.int y21)) (P3 : ¬ (y21 = (0 : Int32))) (P4 : ¬ ((255 : Int32) < y11)) (P5 : FC l Z RC n0 h0 x19 y11 vv20) (P6 : Ltr y11) (p : Program) (e : Env) (s : State) (vm0 : Vm) (m : MethodId) (below : List Frame) (meth : Method) (c : Code) (T0 : State) (args : Array Value) (locs : List Loc) (hx : p.tables.exec = Jvm.exec) (hZ : Z.Warmed39 vm0) (hby : c.code = code) (hml : c.maxLocals = 21) (hown : vm0.findClass s7' = some m.cls) (hnm : meth.name = "law") (hret : meth.sig.returnType = some .boolean) (hlk : meth.locks = false) (Y0 : s.Since vm0 h0.size) (X0 : Stand p l e room_1 (s.setVm vm0) m args below meth c T0 locs 50 300) (e0 : T0.heap = h0) (N0 : Fr n0 locs) :
    Rch p e below (LeavesW s room_1.cells room_1.slots (fun v h L => v = some (.int 1) ∧ Fr n0 L)) (T0.setTop (mkF m 401 #[sl1, sl2, sl3, sl4, sl5, sl6, sl7, sl8, sl9, sl10, iv y11, sl12, sl13, sl14, sl15, sl16, sl17, sl18, rv x19, .val vv20, uu] [])) := by
  show Aw p e below _ T0 m 401 #[sl1, sl2, sl3, sl4, sl5, sl6, sl7, sl8, sl9, sl10, iv y11, sl12, sl13, sl14, sl15, sl16, sl17, sl18, rv x19, .val vv20, uu] []
  refine Rch.go (fun t k => XS.aload X0.here hx rfl (hb hby at_401) rfl rfl (XS.iload X0.here hx rfl (hb hby at_403) rfl  k)) ?_
  show Aw p e below _ T0 m 405 #[sl1, sl2, sl3, sl4, sl5, sl6, sl7, sl8, sl9, sl10, iv y11, sl12, sl13, sl14, sl15, sl16, sl17, sl18, rv x19, .val vv20, uu] [(.int y11), (.ref x19)]
  obtain ⟨v1, T1, L1, X1, Q1, st1⟩ := callSt X0 hx hZ (m18_valueOf l Z a0 hw y11 y21 h0 n0 Z0 O0 P2 P3 P4) e0 hown (wd_3 hw) (wd_4 hw) (wd_6 hw) (wd_5 hw) (by decide) (hb hby at_405) 1 (by decide) (by decide) (by decide) (by decide) (by rw [hml]; rfl) [(.int y11)] [(.ref x19)] rfl (lenOf pd_13 rfl) rfl (Nat.le_of_eq rfl) (Ls := #[sl1, sl2, sl3, sl4, sl5, sl6, sl7, sl8, sl9, sl10, iv y11, sl12, sl13, sl14, sl15, sl16, sl17, sl18, rv x19, .val vv20, uu])
  obtain ⟨b1_0, b1_1, k1_0, rfl, M1, K1, zz1_0, zz1_1, F1_0, F1_1, F1_2, F1_3, F1_4⟩ := Q1
  have N1 := Fr.app N0 M1
  refine Rch.go st1 ?_
  have g_b1_0 : n0 ≤ b1_0 := Nat.le_trans Z0 zz1_0
  have g_b1_1 : n0 ≤ b1_1 := Nat.le_trans Z0 zz1_1
  show Aw p e below _ T1 m 408 #[sl1, sl2, sl3, sl4, sl5, sl6, sl7, sl8, sl9, sl10, iv y11, sl12, sl13, sl14, sl15, sl16, sl17, sl18, rv x19, .val vv20, uu] [(.ref b1_0), (.ref x19)]
  have f3 := (P5.1.keep K1)
  obtain ⟨v2, T2, L2, X2, Q2, st2⟩ := callVi X1 hx hZ (P5.2.2 _ b1_0 ((Keep.refl _ _).trans K1 all0) ⟨b1_1, k1_0, F1_0, F1_3, F1_4, F1_2, P6⟩ (Nat.le_trans (Nat.le_refl _) zz1_0)) rfl hown (wd_198 hw) (wd_199 hw) (wd_201 hw) (notFace_of_selects (args := #[]) (mvT hZ (wd_201 hw))) (wd_200 hw) (wd_202 hw) (wd_2 hw) (by decide) (hb hby at_408) 0 (by decide) (by decide) (by decide) (by decide) (by rw [hml]; rfl) x19 f3 [(.ref b1_0)] [] rfl (lenOf pd_9 rfl) rfl (Nat.le_of_eq rfl) (Ls := #[sl1, sl2, sl3, sl4, sl5, sl6, sl7, sl8, sl9, sl10, iv y11, sl12, sl13, sl14, sl15, sl16, sl17, sl18, rv x19, .val vv20, uu])
  obtain ⟨o2, rfl, M2, K2, E2, F2⟩ := Q2
  have N2 := Fr.app N1 M2
  refine Rch.go st2 ?_
  show Aw p e below _ T2 m 411 #[sl1, sl2, sl3, sl4, sl5, sl6, sl7, sl8, sl9, sl10, iv y11, sl12, sl13, sl14, sl15, sl16, sl17, sl18, rv x19, .val vv20, uu] [(.ref o2)]
  rcases ref_cases P1 with hz | ⟨rz, hz⟩
  · rw [hz] at F2; rw [hz]
    show Aw p e below _ T2 m 411 #[sl1, sl2, sl3, sl4, sl5, sl6, sl7, sl8, sl9, sl10, iv y11, sl12, sl13, sl14, sl15, sl16, sl17, sl18, rv x19, .val .null, uu] [(.ref o2)]
    refine Rch.go (fun t k => XS.aconstNull X2.here hx rfl (hb hby at_411) k) ?_
    show Aw p e below _ T2 m 412 #[sl1, sl2, sl3, sl4, sl5, sl6, sl7, sl8, sl9, sl10, iv y11, sl12, sl13, sl14, sl15, sl16, sl17, sl18, rv x19, .val .null, uu] [.null, (.ref o2)]
    have z4 := (Nat.le_trans (Nat.le_trans Z0 K1.1) K2.1)
    have o5 := ((O0.keep K1 all0).keep K2 all0)
    obtain ⟨v6, T6, L6, X6, Q6, st6⟩ := callVi X2 hx hZ (m38_orElse l Z a0 hw o2 T2.heap n0 z4 o5 F2) rfl hown (wd_230 hw) (wd_231 hw) (wd_233 hw) (notFace_of_selects (args := #[]) (mvT hZ (wd_233 hw))) (wd_232 hw) (wd_234 hw) (wd_213 hw) (by decide) (hb hby at_412) 0 (by decide) (by decide) (by decide) (by decide) (by rw [hml]; rfl) o2 E2 [.null] [] rfl (lenOf pd_2 rfl) rfl (Nat.le_of_eq rfl) (Ls := #[sl1, sl2, sl3, sl4, sl5, sl6, sl7, sl8, sl9, sl10, iv y11, sl12, sl13, sl14, sl15, sl16, sl17, sl18, rv x19, .val .null, uu])
    obtain ⟨rfl, M6, e6⟩ := Q6
    have N6 := Fr.app N2 M6
    refine Rch.go st6 ?_
    show Aw p e below _ T6 m 415 #[sl1, sl2, sl3, sl4, sl5, sl6, sl7, sl8, sl9, sl10, iv y11, sl12, sl13, sl14, sl15, sl16, sl17, sl18, rv x19, .val .null, uu] [.null]
    refine Rch.go (fun t k => X6.checkcastNull hx (g := (mkF m 415 #[sl1, sl2, sl3, sl4, sl5, sl6, sl7, sl8, sl9, sl10, iv y11, sl12, sl13, sl14, sl15, sl16, sl17, sl18, rv x19, .val .null, uu] [.null])) rfl rfl (hb hby at_415) t k) ?_
    show Aw p e below _ T6 m 418 #[sl1, sl2, sl3, sl4, sl5, sl6, sl7, sl8, sl9, sl10, iv y11, sl12, sl13, sl14, sl15, sl16, sl17, sl18, rv x19, .val .null, uu] [.null]
    refine Rch.go (fun t k => XS.astore X6.here hx rfl (hb hby at_418) rfl rfl (l' := #[sl1, sl2, sl3, sl4, sl5, sl6, sl7, sl8, sl9, sl10, iv y11, sl12, sl13, sl14, sl15, sl16, sl17, sl18, rv x19, .val .null, .val .null]) rfl (XS.aload X6.here hx rfl (hb hby at_420) rfl rfl (XS.aload X6.here hx rfl (hb hby at_422) rfl rfl (acmp X6 hx rfl (x := .null) (y := .null) rfl rfl (pc0 := 424) (pc' := 427) (same := true) rfl (hb hby at_424) rfl (decide_eq_true rfl) (by decide) (by decide) (XS.iconst X6.here hx rfl (hb hby at_427) (XS.goto X6.here hx rfl (pc0 := 428) (pc' := 432) rfl (hb hby at_428) (by decide) (by decide) k)))))) ?_
    show Aw p e below _ T6 m 432 #[sl1, sl2, sl3, sl4, sl5, sl6, sl7, sl8, sl9, sl10, iv y11, sl12, sl13, sl14, sl15, sl16, sl17, sl18, rv x19, .val .null, .val .null] [(.int 1)]
    refine Rch.valW X6 hx Y0 e6 (Nat.le_trans (Nat.le_trans (Nat.le_refl _) K1.1) K2.1) (t := .boolean) hret hlk rfl (mayI (by simp)) (hb hby at_432) (by decide) (by decide) ?_
    exact ⟨rfl, N6⟩
  · rw [hz] at F2; rw [hz]
    show Aw p e below _ T2 m 411 #[sl1, sl2, sl3, sl4, sl5, sl6, sl7, sl8, sl9, sl10, iv y11, sl12, sl13, sl14, sl15, sl16, sl17, sl18, rv x19, rv rz, uu] [(.ref o2)]
    refine Rch.go (fun t k => XS.aconstNull X2.here hx rfl (hb hby at_411) k) ?_
    show Aw p e below _ T2 m 412 #[sl1, sl2, sl3, sl4, sl5, sl6, sl7, sl8, sl9, sl10, iv y11, sl12, sl13, sl14, sl15, sl16, sl17, sl18, rv x19, rv rz, uu] [.null, (.ref o2)]
    have z7 := (Nat.le_trans (Nat.le_trans Z0 K1.1) K2.1)
    have o8 := ((O0.keep K1 all0).keep K2 all0)
    obtain ⟨v9, T9, L9, X9, Q9, st9⟩ := callVi X2 hx hZ (m39_orElse l Z a0 hw o2 rz T2.heap n0 z7 o8 F2) rfl hown (wd_230 hw) (wd_231 hw) (wd_233 hw) (notFace_of_selects (args := #[]) (mvT hZ (wd_233 hw))) (wd_232 hw) (wd_234 hw) (wd_213 hw) (by decide) (hb hby at_412) 0 (by decide) (by decide) (by decide) (by decide) (by rw [hml]; rfl) o2 E2 [.null] [] rfl (lenOf pd_2 rfl) rfl (Nat.le_of_eq rfl) (Ls := #[sl1, sl2, sl3, sl4, sl5, sl6, sl7, sl8, sl9, sl10, iv y11, sl12, sl13, sl14, sl15, sl16, sl17, sl18, rv x19, rv rz, uu])
    obtain ⟨rfl, M9, e9⟩ := Q9
    have N9 := Fr.app N2 M9
    refine Rch.go st9 ?_
    show Aw p e below _ T9 m 415 #[sl1, sl2, sl3, sl4, sl5, sl6, sl7, sl8, sl9, sl10, iv y11, sl12, sl13, sl14, sl15, sl16, sl17, sl18, rv x19, rv rz, uu] [(.ref rz)]
    have f11 := (((P5.2.1 rz hz).keep K1).keep K2)
    obtain ⟨T10, X10, e10, st10⟩ := castY X9 hx hZ hown (wd_0 hw) e9 (Ins.self f11) (g := (mkF m 415 #[sl1, sl2, sl3, sl4, sl5, sl6, sl7, sl8, sl9, sl10, iv y11, sl12, sl13, sl14, sl15, sl16, sl17, sl18, rv x19, rv rz, uu] [(.ref rz)])) rfl rfl (hb hby at_415)
    refine Rch.go st10 ?_
    show Aw p e below _ T10 m 418 #[sl1, sl2, sl3, sl4, sl5, sl6, sl7, sl8, sl9, sl10, iv y11, sl12, sl13, sl14, sl15, sl16, sl17, sl18, rv x19, rv rz, uu] [(.ref rz)]
    refine Rch.go (fun t k => XS.astore X10.here hx rfl (hb hby at_418) rfl rfl (l' := #[sl1, sl2, sl3, sl4, sl5, sl6, sl7, sl8, sl9, sl10, iv y11, sl12, sl13, sl14, sl15, sl16, sl17, sl18, rv x19, rv rz, rv rz]) rfl (XS.aload X10.here hx rfl (hb hby at_420) rfl rfl (XS.aload X10.here hx rfl (hb hby at_422) rfl rfl (acmp X10 hx rfl (x := (.ref rz)) (y := (.ref rz)) rfl rfl (pc0 := 424) (pc' := 427) (same := true) rfl (hb hby at_424) rfl (decide_eq_true rfl) (by decide) (by decide) (XS.iconst X10.here hx rfl (hb hby at_427) (XS.goto X10.here hx rfl (pc0 := 428) (pc' := 432) rfl (hb hby at_428) (by decide) (by decide) k)))))) ?_
    show Aw p e below _ T10 m 432 #[sl1, sl2, sl3, sl4, sl5, sl6, sl7, sl8, sl9, sl10, iv y11, sl12, sl13, sl14, sl15, sl16, sl17, sl18, rv x19, rv rz, rv rz] [(.int 1)]
    refine Rch.valW X10 hx Y0 e10 (Nat.le_trans (Nat.le_trans (Nat.le_refl _) K1.1) K2.1) (t := .boolean) hret hlk rfl (mayI (by simp)) (hb hby at_432) (by decide) (by decide) ?_
    exact ⟨rfl, N9⟩
theorem wd_243 {Z a0} (hw : HW Z a0) : (Cond.methodLink s7' (25 : Nat) ⟨s7', "inC1", s13'⟩).before a0 Z = true := hw.at 243 rfl
theorem wd_245 {Z a0} (hw : HW Z a0) : (Cond.code ⟨s7', "inC1", s13'⟩ method_2_code (6 : Nat) (Option.some (FieldType.object s2'))).before a0 Z = true := hw.at 245 rfl
theorem wd_241 {Z a0} (hw : HW Z a0) : (Cond.initialized s7').before a0 Z = true := hw.at 241 rfl
theorem pd_19 : parseMethodDescriptor s13' = some ⟨[(.object s2'), (.object s2'), .boolean, .char, .char, .char], some (.object s2')⟩ := by decide +kernel
theorem wd_244 {Z a0} (hw : HW Z a0) : (Cond.static ⟨s7', "inC1", s13'⟩).before a0 Z = true := hw.at 244 rfl
theorem wd_239 {Z a0} (hw : HW Z a0) : (Cond.methodLink s7' (31 : Nat) ⟨s7', "inC2", s14'⟩).before a0 Z = true := hw.at 239 rfl
theorem wd_242 {Z a0} (hw : HW Z a0) : (Cond.code ⟨s7', "inC2", s14'⟩ method_3_code (3 : Nat) (Option.some (FieldType.object s2'))).before a0 Z = true := hw.at 242 rfl
theorem pd_20 : parseMethodDescriptor s14' = some ⟨[(.object s2'), .char, .char], some (.object s2')⟩ := by decide +kernel
theorem wd_240 {Z a0} (hw : HW Z a0) : (Cond.static ⟨s7', "inC2", s14'⟩).before a0 Z = true := hw.at 240 rfl
theorem pe_36 (l : Launch) (Z : State) (a0 : Array Value) (hw : HW Z a0) (sl1 sl2 sl3 sl4 sl5 sl6 : Slot) (y7 y8 y9 y10 y11 y12 y13 : Int32) (x14 : Addr) (sl15 : Slot) (x16 x17 : Addr) (sl18 : Slot) (x19 x20 x21 x22 : Addr) (y23 : Int32) (h0 : Heap) (n0 : Nat) (Z0 : n0 ≤ h0.size) (O0 : Old Z n0 h0) (P1 : Oz Z x20 x21 x22) (P2 : Rt Z h0 x19 x16 x17 x20 x21 y13 y7) (P3 : Sta Z Z.heap "java/lang/String" "COMPACT_STRINGS" "Z" (.int y23)) (P4 : ¬ (y23 = (0 : Int32))) (P5 : ¬ ((255 : Int32) < y11)) (P6 : Ltr y11) (P7 : Md y13) (P8 : Ch1 Z h0 x16 x14 x20 x21 y12 y8 y9) (P9 : Tn0 Z h0 x17 x20 y10) (p : Program) (e : Env) (s : State) (vm0 : Vm) (m : MethodId) (below : List Frame) (meth : Method) (c : Code) (T0 : State) (args : Array Value) (locs : List Loc) (hx : p.tables.exec = Jvm.exec) (hZ : Z.Warmed39 vm0) (hby : c.code = code) (hml : c.maxLocals = 21) (hown : vm0.findClass s7' = some m.cls) (hnm : meth.name = "law") (hret : meth.sig.returnType = some .boolean) (hlk : meth.locks = false) (Y0 : s.Since vm0 h0.size) (X0 : Stand p l e room_1 (s.setVm vm0) m args below meth c T0 locs 40 240) (e0 : T0.heap = h0) (N0 : Fr n0 locs) :
    Rch p e below (LeavesW s room_1.cells room_1.slots (fun v h L => v = some (.int 1) ∧ Fr n0 L)) (T0.setTop (mkF m 255 #[sl1, sl2, sl3, sl4, sl5, sl6, iv y7, iv y8, iv y9, iv y10, iv y11, iv y12, iv y13, rv x14, sl15, rv x16, rv x17, sl18, rv x19, uu, uu] [])) := by
  show Aw p e below _ T0 m 255 #[sl1, sl2, sl3, sl4, sl5, sl6, iv y7, iv y8, iv y9, iv y10, iv y11, iv y12, iv y13, rv x14, sl15, rv x16, rv x17, sl18, rv x19, uu, uu] []
  refine Rch.go (fun t k => XS.iload X0.here hx rfl (hb hby at_255) rfl  (XS.iload X0.here hx rfl (hb hby at_257) rfl  k)) ?_
  show Aw p e below _ T0 m 259 #[sl1, sl2, sl3, sl4, sl5, sl6, iv y7, iv y8, iv y9, iv y10, iv y11, iv y12, iv y13, rv x14, sl15, rv x16, rv x17, sl18, rv x19, uu, uu] [(.int y11), (.int y7)]
  by_cases hf259 : y7 = y11
  · show Aw p e below _ T0 m 259 #[sl1, sl2, sl3, sl4, sl5, sl6, iv y7, iv y8, iv y9, iv y10, iv y11, iv y12, iv y13, rv x14, sl15, rv x16, rv x17, sl18, rv x19, uu, uu] [(.int y11), (.int y7)]
    refine Rch.go (fun t k => XS.icmpNo X0.here hx rfl (hb hby at_259) rfl (XT.ii_ne_f hf259) (XS.aload X0.here hx rfl (hb hby at_262) rfl rfl (XS.astore X0.here hx rfl (hb hby at_264) rfl rfl (l' := #[sl1, sl2, sl3, sl4, sl5, sl6, iv y7, iv y8, iv y9, iv y10, iv y11, iv y12, iv y13, rv x14, sl15, rv x16, rv x17, sl18, rv x19, rv x19, uu]) rfl (XS.goto X0.here hx rfl (pc0 := 266) (pc' := 401) rfl (hb hby at_266) (by decide) (by decide) k)))) ?_
    show Aw p e below _ T0 m 401 #[sl1, sl2, sl3, sl4, sl5, sl6, iv y7, iv y8, iv y9, iv y10, iv y11, iv y12, iv y13, rv x14, sl15, rv x16, rv x17, sl18, rv x19, rv x19, uu] []
    exact pz_37 l Z a0 hw sl1 sl2 sl3 sl4 sl5 sl6 (iv y7) (iv y8) (iv y9) (iv y10) y11 (iv y12) (iv y13) (rv x14) sl15 (rv x16) (rv x17) sl18 x19 (.ref x19) y23 h0 n0 Z0 O0 rfl P3 P4 P5 (show FC l Z RC n0 h0 x19 y11 (.ref x19) from (own_rh hw Z0 O0 P1 P2 hf259)) P6 p e s _ m below meth c T0 _ _ hx hZ hby hml hown hnm hret hlk ⟨Y0.1, Y0.2.mono (Nat.le_refl _)⟩ (X0.mono (by decide) (by decide)) e0 N0
  · show Aw p e below _ T0 m 259 #[sl1, sl2, sl3, sl4, sl5, sl6, iv y7, iv y8, iv y9, iv y10, iv y11, iv y12, iv y13, rv x14, sl15, rv x16, rv x17, sl18, rv x19, uu, uu] [(.int y11), (.int y7)]
    refine Rch.go (fun t k => XS.icmpYes X0.here hx rfl (pc0 := 259) (pc' := 269) rfl (hb hby at_259) rfl (XT.ii_ne_t hf259) (by decide) (by decide) k) ?_
    show Aw p e below _ T0 m 269 #[sl1, sl2, sl3, sl4, sl5, sl6, iv y7, iv y8, iv y9, iv y10, iv y11, iv y12, iv y13, rv x14, sl15, rv x16, rv x17, sl18, rv x19, uu, uu] []
    rcases id P7 with hk | hk | hk | hk | hk
    · show Aw p e below _ T0 m 269 #[sl1, sl2, sl3, sl4, sl5, sl6, iv y7, iv y8, iv y9, iv y10, iv y11, iv y12, iv y13, rv x14, sl15, rv x16, rv x17, sl18, rv x19, uu, uu] []
      refine Rch.go (fun t k => XS.iload X0.here hx rfl (hb hby at_269) rfl  (XS.ifNo X0.here hx rfl (hb hby at_271) rfl (XT.i0_ne_f hk) (XS.aconstNull X0.here hx rfl (hb hby at_274) (XS.astore X0.here hx rfl (hb hby at_275) rfl rfl (l' := #[sl1, sl2, sl3, sl4, sl5, sl6, iv y7, iv y8, iv y9, iv y10, iv y11, iv y12, iv y13, rv x14, sl15, rv x16, rv x17, sl18, rv x19, .val .null, uu]) rfl (XS.goto X0.here hx rfl (pc0 := 277) (pc' := 401) rfl (hb hby at_277) (by decide) (by decide) k))))) ?_
      show Aw p e below _ T0 m 401 #[sl1, sl2, sl3, sl4, sl5, sl6, iv y7, iv y8, iv y9, iv y10, iv y11, iv y12, iv y13, rv x14, sl15, rv x16, rv x17, sl18, rv x19, .val .null, uu] []
      exact pz_40 l Z a0 hw sl1 sl2 sl3 sl4 sl5 sl6 (iv y7) (iv y8) (iv y9) (iv y10) y11 (iv y12) (iv y13) (rv x14) sl15 (rv x16) (rv x17) sl18 x19 .null y23 h0 n0 Z0 O0 rfl P3 P4 P5 (show FC l Z RC n0 h0 x19 y11 .null from ((fc_0 l Z a0 hw Z0 O0 P1 (own_r0 P2 hk) hf259).room (by decide) (by decide) (by decide) (by decide))) P6 p e s _ m below meth c T0 _ _ hx hZ hby hml hown hnm hret hlk ⟨Y0.1, Y0.2.mono (Nat.le_refl _)⟩ (X0.mono (by decide) (by decide)) e0 N0
    · show Aw p e below _ T0 m 269 #[sl1, sl2, sl3, sl4, sl5, sl6, iv y7, iv y8, iv y9, iv y10, iv y11, iv y12, iv y13, rv x14, sl15, rv x16, rv x17, sl18, rv x19, uu, uu] []
      refine Rch.go (fun t k => XS.iload X0.here hx rfl (hb hby at_269) rfl  (XS.ifYes X0.here hx rfl (pc0 := 271) (pc' := 280) rfl (hb hby at_271) rfl (XT.i0_ne_t (by rw [hk]; decide)) (by decide) (by decide) (XS.iload X0.here hx rfl (hb hby at_280) rfl  (XS.iconst X0.here hx rfl (hb hby at_282) (XS.icmpNo X0.here hx rfl (hb hby at_283) rfl (XT.ii_ne_f hk) (XS.aload X0.here hx rfl (hb hby at_286) rfl rfl (XS.aload X0.here hx rfl (hb hby at_288) rfl rfl (XS.iload X0.here hx rfl (hb hby at_290) rfl  (XS.iload X0.here hx rfl (hb hby at_292) rfl  (XS.iload X0.here hx rfl (hb hby at_294) rfl  (XS.iload X0.here hx rfl (hb hby at_296) rfl  k))))))))))) ?_
      show Aw p e below _ T0 m 298 #[sl1, sl2, sl3, sl4, sl5, sl6, iv y7, iv y8, iv y9, iv y10, iv y11, iv y12, iv y13, rv x14, sl15, rv x16, rv x17, sl18, rv x19, uu, uu] [(.int y11), (.int y9), (.int y8), (.int y12), (.ref x14), (.ref x16)]
      obtain ⟨v1, T1, L1, X1, Q1, st1⟩ := callSt X0 hx hZ (in_1 l Z a0 hw x16 x14 y12 y8 y9 y11 h0 n0 Z0 O0) e0 hown (wd_243 hw) (wd_244 hw) (wd_245 hw) (wd_241 hw) (by decide) (hb hby at_298) 0 (by decide) (by decide) (by decide) (by decide) (by rw [hml]; rfl) [(.ref x16), (.ref x14), (.int y12), (.int y8), (.int y9), (.int y11)] [] rfl (lenOf pd_19 rfl) rfl (Nat.le_of_eq rfl) (Ls := #[sl1, sl2, sl3, sl4, sl5, sl6, iv y7, iv y8, iv y9, iv y10, iv y11, iv y12, iv y13, rv x14, sl15, rv x16, rv x17, sl18, rv x19, uu, uu])
      obtain ⟨ex1, rfl, xe1, M1, e1⟩ := Q1
      have N1 := Fr.app N0 M1
      refine Rch.go st1 ?_
      show Aw p e below _ T1 m 301 #[sl1, sl2, sl3, sl4, sl5, sl6, iv y7, iv y8, iv y9, iv y10, iv y11, iv y12, iv y13, rv x14, sl15, rv x16, rv x17, sl18, rv x19, uu, uu] [ex1]
      refine Rch.go (fun t k => XS.astoreS X1.here hx rfl (hb hby at_301) rfl xe1.ref (XT.cat1 xe1.ref) rfl (Or.inl rfl) (XS.goto X1.here hx rfl (pc0 := 303) (pc' := 401) rfl (hb hby at_303) (by decide) (by decide) k)) ?_
      show Aw p e below _ T1 m 401 #[sl1, sl2, sl3, sl4, sl5, sl6, iv y7, iv y8, iv y9, iv y10, iv y11, iv y12, iv y13, rv x14, sl15, rv x16, rv x17, sl18, rv x19, .val ex1, uu] []
      exact pz_40 l Z a0 hw sl1 sl2 sl3 sl4 sl5 sl6 (iv y7) (iv y8) (iv y9) (iv y10) y11 (iv y12) (iv y13) (rv x14) sl15 (rv x16) (rv x17) sl18 x19 ex1 y23 h0 n0 Z0 O0 xe1.ref P3 P4 P5 (show FC l Z RC n0 h0 x19 y11 ex1 from (fc_1B l Z a0 hw Z0 O0 P1 (own_r1 P2 hk) (own_c1 hw Z0 O0 P1 P8 xe1) xe1.ref hf259)) P6 p e s _ m below meth c T1 _ _ hx hZ hby hml hown hnm hret hlk ⟨Y0.1, Y0.2.mono (Nat.le_refl _)⟩ (X1.mono (by decide) (by decide)) e1 N1
    · show Aw p e below _ T0 m 269 #[sl1, sl2, sl3, sl4, sl5, sl6, iv y7, iv y8, iv y9, iv y10, iv y11, iv y12, iv y13, rv x14, sl15, rv x16, rv x17, sl18, rv x19, uu, uu] []
      refine Rch.go (fun t k => XS.iload X0.here hx rfl (hb hby at_269) rfl  (XS.ifYes X0.here hx rfl (pc0 := 271) (pc' := 280) rfl (hb hby at_271) rfl (XT.i0_ne_t (by rw [hk]; decide)) (by decide) (by decide) (XS.iload X0.here hx rfl (hb hby at_280) rfl  (XS.iconst X0.here hx rfl (hb hby at_282) (XS.icmpYes X0.here hx rfl (pc0 := 283) (pc' := 306) rfl (hb hby at_283) rfl (XT.ii_ne_t (by rw [hk]; decide)) (by decide) (by decide) (XS.iload X0.here hx rfl (hb hby at_306) rfl  (XS.iconst X0.here hx rfl (hb hby at_308) (XS.icmpNo X0.here hx rfl (hb hby at_309) rfl (XT.ii_ne_f hk) (XS.aload X0.here hx rfl (hb hby at_312) rfl rfl (XS.iload X0.here hx rfl (hb hby at_314) rfl  (XS.iload X0.here hx rfl (hb hby at_316) rfl  k))))))))))) ?_
      show Aw p e below _ T0 m 318 #[sl1, sl2, sl3, sl4, sl5, sl6, iv y7, iv y8, iv y9, iv y10, iv y11, iv y12, iv y13, rv x14, sl15, rv x16, rv x17, sl18, rv x19, uu, uu] [(.int y11), (.int y10), (.ref x17)]
      obtain ⟨v2, T2, L2, X2, Q2, st2⟩ := callSt X0 hx hZ (in_2 l Z a0 hw x17 y10 y11 h0 n0 Z0 O0) e0 hown (wd_239 hw) (wd_240 hw) (wd_242 hw) (wd_241 hw) (by decide) (hb hby at_318) 0 (by decide) (by decide) (by decide) (by decide) (by rw [hml]; rfl) [(.ref x17), (.int y10), (.int y11)] [] rfl (lenOf pd_20 rfl) rfl (Nat.le_of_eq rfl) (Ls := #[sl1, sl2, sl3, sl4, sl5, sl6, iv y7, iv y8, iv y9, iv y10, iv y11, iv y12, iv y13, rv x14, sl15, rv x16, rv x17, sl18, rv x19, uu, uu])
      obtain ⟨ex2, rfl, xe2, M2, e2⟩ := Q2
      have N2 := Fr.app N0 M2
      refine Rch.go st2 ?_
      show Aw p e below _ T2 m 321 #[sl1, sl2, sl3, sl4, sl5, sl6, iv y7, iv y8, iv y9, iv y10, iv y11, iv y12, iv y13, rv x14, sl15, rv x16, rv x17, sl18, rv x19, uu, uu] [ex2]
      refine Rch.go (fun t k => XS.astoreS X2.here hx rfl (hb hby at_321) rfl xe2.ref (XT.cat1 xe2.ref) rfl (Or.inl rfl) (XS.goto X2.here hx rfl (pc0 := 323) (pc' := 401) rfl (hb hby at_323) (by decide) (by decide) k)) ?_
      show Aw p e below _ T2 m 401 #[sl1, sl2, sl3, sl4, sl5, sl6, iv y7, iv y8, iv y9, iv y10, iv y11, iv y12, iv y13, rv x14, sl15, rv x16, rv x17, sl18, rv x19, .val ex2, uu] []
      exact pz_40 l Z a0 hw sl1 sl2 sl3 sl4 sl5 sl6 (iv y7) (iv y8) (iv y9) (iv y10) y11 (iv y12) (iv y13) (rv x14) sl15 (rv x16) (rv x17) sl18 x19 ex2 y23 h0 n0 Z0 O0 xe2.ref P3 P4 P5 (show FC l Z RC n0 h0 x19 y11 ex2 from (fc_1B l Z a0 hw Z0 O0 P1 (own_r2 P2 hk) (own_c2 hw Z0 O0 P1 P9 xe2) xe2.ref hf259)) P6 p e s _ m below meth c T2 _ _ hx hZ hby hml hown hnm hret hlk ⟨Y0.1, Y0.2.mono (Nat.le_refl _)⟩ (X2.mono (by decide) (by decide)) e2 N2
    · show Aw p e below _ T0 m 269 #[sl1, sl2, sl3, sl4, sl5, sl6, iv y7, iv y8, iv y9, iv y10, iv y11, iv y12, iv y13, rv x14, sl15, rv x16, rv x17, sl18, rv x19, uu, uu] []
      refine Rch.go (fun t k => XS.iload X0.here hx rfl (hb hby at_269) rfl  (XS.ifYes X0.here hx rfl (pc0 := 271) (pc' := 280) rfl (hb hby at_271) rfl (XT.i0_ne_t (by rw [hk]; decide)) (by decide) (by decide) (XS.iload X0.here hx rfl (hb hby at_280) rfl  (XS.iconst X0.here hx rfl (hb hby at_282) (XS.icmpYes X0.here hx rfl (pc0 := 283) (pc' := 306) rfl (hb hby at_283) rfl (XT.ii_ne_t (by rw [hk]; decide)) (by decide) (by decide) (XS.iload X0.here hx rfl (hb hby at_306) rfl  (XS.iconst X0.here hx rfl (hb hby at_308) (XS.icmpYes X0.here hx rfl (pc0 := 309) (pc' := 326) rfl (hb hby at_309) rfl (XT.ii_ne_t (by rw [hk]; decide)) (by decide) (by decide) (XS.iload X0.here hx rfl (hb hby at_326) rfl  (XS.iconst X0.here hx rfl (hb hby at_328) (XS.icmpNo X0.here hx rfl (hb hby at_329) rfl (XT.ii_ne_f hk) (XS.aload X0.here hx rfl (hb hby at_332) rfl rfl k)))))))))))) ?_
      show Aw p e below _ T0 m 334 #[sl1, sl2, sl3, sl4, sl5, sl6, iv y7, iv y8, iv y9, iv y10, iv y11, iv y12, iv y13, rv x14, sl15, rv x16, rv x17, sl18, rv x19, uu, uu] [(.ref x16)]
      refine Rch.go (fun t k => XS.aload X0.here hx rfl (hb hby at_334) rfl rfl (XS.iload X0.here hx rfl (hb hby at_336) rfl  (XS.iload X0.here hx rfl (hb hby at_338) rfl  (XS.iload X0.here hx rfl (hb hby at_340) rfl  (XS.iload X0.here hx rfl (hb hby at_342) rfl  k))))) ?_
      show Aw p e below _ T0 m 344 #[sl1, sl2, sl3, sl4, sl5, sl6, iv y7, iv y8, iv y9, iv y10, iv y11, iv y12, iv y13, rv x14, sl15, rv x16, rv x17, sl18, rv x19, uu, uu] [(.int y11), (.int y9), (.int y8), (.int y12), (.ref x14), (.ref x16)]
      obtain ⟨v3, T3, L3, X3, Q3, st3⟩ := callSt X0 hx hZ (in_1 l Z a0 hw x16 x14 y12 y8 y9 y11 h0 n0 Z0 O0) e0 hown (wd_243 hw) (wd_244 hw) (wd_245 hw) (wd_241 hw) (by decide) (hb hby at_344) 0 (by decide) (by decide) (by decide) (by decide) (by rw [hml]; rfl) [(.ref x16), (.ref x14), (.int y12), (.int y8), (.int y9), (.int y11)] [] rfl (lenOf pd_19 rfl) rfl (Nat.le_of_eq rfl) (Ls := #[sl1, sl2, sl3, sl4, sl5, sl6, iv y7, iv y8, iv y9, iv y10, iv y11, iv y12, iv y13, rv x14, sl15, rv x16, rv x17, sl18, rv x19, uu, uu])
      obtain ⟨ex3, rfl, xe3, M3, e3⟩ := Q3
      have N3 := Fr.app N0 M3
      refine Rch.go st3 ?_
      show Aw p e below _ T3 m 347 #[sl1, sl2, sl3, sl4, sl5, sl6, iv y7, iv y8, iv y9, iv y10, iv y11, iv y12, iv y13, rv x14, sl15, rv x16, rv x17, sl18, rv x19, uu, uu] [ex3]
      refine Rch.go (fun t k => XS.astoreS X3.here hx rfl (hb hby at_347) rfl xe3.ref (XT.cat1 xe3.ref) rfl (Or.inl rfl) (XS.aload X3.here hx rfl (hb hby at_349) rfl xe3.ref k)) ?_
      show Aw p e below _ T3 m 351 #[sl1, sl2, sl3, sl4, sl5, sl6, iv y7, iv y8, iv y9, iv y10, iv y11, iv y12, iv y13, rv x14, sl15, rv x16, rv x17, sl18, rv x19, .val ex3, uu] [ex3]
      rcases ref_cases xe3.ref with hz4 | ⟨rz4, hz4⟩
      · rw [hz4]
        show Aw p e below _ T3 m 351 #[sl1, sl2, sl3, sl4, sl5, sl6, iv y7, iv y8, iv y9, iv y10, iv y11, iv y12, iv y13, rv x14, sl15, rv x16, rv x17, sl18, rv x19, .val .null, uu] [.null]
        refine Rch.go (fun t k => XS.ifnonnullNo X3.here hx rfl (hb hby at_351) rfl (XS.aload X3.here hx rfl (hb hby at_354) rfl rfl (XS.iload X3.here hx rfl (hb hby at_356) rfl  (XS.iload X3.here hx rfl (hb hby at_358) rfl  k)))) ?_
        show Aw p e below _ T3 m 360 #[sl1, sl2, sl3, sl4, sl5, sl6, iv y7, iv y8, iv y9, iv y10, iv y11, iv y12, iv y13, rv x14, sl15, rv x16, rv x17, sl18, rv x19, .val .null, uu] [(.int y11), (.int y10), (.ref x17)]
        obtain ⟨v5, T5, L5, X5, Q5, st5⟩ := callSt X3 hx hZ (in_2 l Z a0 hw x17 y10 y11 h0 n0 Z0 O0) e3 hown (wd_239 hw) (wd_240 hw) (wd_242 hw) (wd_241 hw) (by decide) (hb hby at_360) 0 (by decide) (by decide) (by decide) (by decide) (by rw [hml]; rfl) [(.ref x17), (.int y10), (.int y11)] [] rfl (lenOf pd_20 rfl) rfl (Nat.le_of_eq rfl) (Ls := #[sl1, sl2, sl3, sl4, sl5, sl6, iv y7, iv y8, iv y9, iv y10, iv y11, iv y12, iv y13, rv x14, sl15, rv x16, rv x17, sl18, rv x19, .val .null, uu])
        obtain ⟨ex5, rfl, xe5, M5, e5⟩ := Q5
        have N5 := Fr.app N3 M5
        refine Rch.go st5 ?_
        show Aw p e below _ T5 m 363 #[sl1, sl2, sl3, sl4, sl5, sl6, iv y7, iv y8, iv y9, iv y10, iv y11, iv y12, iv y13, rv x14, sl15, rv x16, rv x17, sl18, rv x19, .val .null, uu] [ex5]
        refine Rch.go (fun t k => XS.astoreS X5.here hx rfl (hb hby at_363) rfl xe5.ref (XT.cat1 xe5.ref) rfl (Or.inr ⟨_, rfl, rfl⟩) (XS.goto X5.here hx rfl (pc0 := 365) (pc' := 401) rfl (hb hby at_365) (by decide) (by decide) k)) ?_
        show Aw p e below _ T5 m 401 #[sl1, sl2, sl3, sl4, sl5, sl6, iv y7, iv y8, iv y9, iv y10, iv y11, iv y12, iv y13, rv x14, sl15, rv x16, rv x17, sl18, rv x19, .val ex5, uu] []
        exact pz_40 l Z a0 hw sl1 sl2 sl3 sl4 sl5 sl6 (iv y7) (iv y8) (iv y9) (iv y10) y11 (iv y12) (iv y13) (rv x14) sl15 (rv x16) (rv x17) sl18 x19 ex5 y23 h0 n0 Z0 O0 xe5.ref P3 P4 P5 (show FC l Z RC n0 h0 x19 y11 ex5 from (fc_2b l Z a0 hw Z0 O0 P1 (own_r3 P2 hk) (hz4 ▸ (own_c1 hw Z0 O0 P1 P8 xe3)) (own_c2 hw Z0 O0 P1 P9 xe5) xe5.ref hf259)) P6 p e s _ m below meth c T5 _ _ hx hZ hby hml hown hnm hret hlk ⟨Y0.1, Y0.2.mono (Nat.le_refl _)⟩ (X5.mono (by decide) (by decide)) e5 N5
      · rw [hz4]
        show Aw p e below _ T3 m 351 #[sl1, sl2, sl3, sl4, sl5, sl6, iv y7, iv y8, iv y9, iv y10, iv y11, iv y12, iv y13, rv x14, sl15, rv x16, rv x17, sl18, rv x19, rv rz4, uu] [(.ref rz4)]
        refine Rch.go (fun t k => XS.ifnonnullYes X3.here hx rfl (pc0 := 351) (pc' := 401) rfl (hb hby at_351) rfl (by decide) (by decide) k) ?_
        show Aw p e below _ T3 m 401 #[sl1, sl2, sl3, sl4, sl5, sl6, iv y7, iv y8, iv y9, iv y10, iv y11, iv y12, iv y13, rv x14, sl15, rv x16, rv x17, sl18, rv x19, rv rz4, uu] []
        exact pz_40 l Z a0 hw sl1 sl2 sl3 sl4 sl5 sl6 (iv y7) (iv y8) (iv y9) (iv y10) y11 (iv y12) (iv y13) (rv x14) sl15 (rv x16) (rv x17) sl18 x19 (.ref rz4) y23 h0 n0 Z0 O0 rfl P3 P4 P5 (show FC l Z RC n0 h0 x19 y11 (.ref rz4) from (fc_2a l Z a0 hw Z0 O0 P1 (own_r3 P2 hk) (hz4 ▸ (own_c1 hw Z0 O0 P1 P8 xe3)) P9.1.exa hf259)) P6 p e s _ m below meth c T3 _ _ hx hZ hby hml hown hnm hret hlk ⟨Y0.1, Y0.2.mono (Nat.le_refl _)⟩ (X3.mono (by decide) (by decide)) e3 N3
    · show Aw p e below _ T0 m 269 #[sl1, sl2, sl3, sl4, sl5, sl6, iv y7, iv y8, iv y9, iv y10, iv y11, iv y12, iv y13, rv x14, sl15, rv x16, rv x17, sl18, rv x19, uu, uu] []
      refine Rch.go (fun t k => XS.iload X0.here hx rfl (hb hby at_269) rfl  (XS.ifYes X0.here hx rfl (pc0 := 271) (pc' := 280) rfl (hb hby at_271) rfl (XT.i0_ne_t (by rw [hk]; decide)) (by decide) (by decide) (XS.iload X0.here hx rfl (hb hby at_280) rfl  (XS.iconst X0.here hx rfl (hb hby at_282) (XS.icmpYes X0.here hx rfl (pc0 := 283) (pc' := 306) rfl (hb hby at_283) rfl (XT.ii_ne_t (by rw [hk]; decide)) (by decide) (by decide) (XS.iload X0.here hx rfl (hb hby at_306) rfl  (XS.iconst X0.here hx rfl (hb hby at_308) (XS.icmpYes X0.here hx rfl (pc0 := 309) (pc' := 326) rfl (hb hby at_309) rfl (XT.ii_ne_t (by rw [hk]; decide)) (by decide) (by decide) (XS.iload X0.here hx rfl (hb hby at_326) rfl  (XS.iconst X0.here hx rfl (hb hby at_328) (XS.icmpYes X0.here hx rfl (pc0 := 329) (pc' := 368) rfl (hb hby at_329) rfl (XT.ii_ne_t (by rw [hk]; decide)) (by decide) (by decide) (XS.aload X0.here hx rfl (hb hby at_368) rfl rfl k)))))))))))) ?_
      show Aw p e below _ T0 m 370 #[sl1, sl2, sl3, sl4, sl5, sl6, iv y7, iv y8, iv y9, iv y10, iv y11, iv y12, iv y13, rv x14, sl15, rv x16, rv x17, sl18, rv x19, uu, uu] [(.ref x17)]
      refine Rch.go (fun t k => XS.iload X0.here hx rfl (hb hby at_370) rfl  (XS.iload X0.here hx rfl (hb hby at_372) rfl  k)) ?_
      show Aw p e below _ T0 m 374 #[sl1, sl2, sl3, sl4, sl5, sl6, iv y7, iv y8, iv y9, iv y10, iv y11, iv y12, iv y13, rv x14, sl15, rv x16, rv x17, sl18, rv x19, uu, uu] [(.int y11), (.int y10), (.ref x17)]
      obtain ⟨v6, T6, L6, X6, Q6, st6⟩ := callSt X0 hx hZ (in_2 l Z a0 hw x17 y10 y11 h0 n0 Z0 O0) e0 hown (wd_239 hw) (wd_240 hw) (wd_242 hw) (wd_241 hw) (by decide) (hb hby at_374) 0 (by decide) (by decide) (by decide) (by decide) (by rw [hml]; rfl) [(.ref x17), (.int y10), (.int y11)] [] rfl (lenOf pd_20 rfl) rfl (Nat.le_of_eq rfl) (Ls := #[sl1, sl2, sl3, sl4, sl5, sl6, iv y7, iv y8, iv y9, iv y10, iv y11, iv y12, iv y13, rv x14, sl15, rv x16, rv x17, sl18, rv x19, uu, uu])
      obtain ⟨ex6, rfl, xe6, M6, e6⟩ := Q6
      have N6 := Fr.app N0 M6
      refine Rch.go st6 ?_
      show Aw p e below _ T6 m 377 #[sl1, sl2, sl3, sl4, sl5, sl6, iv y7, iv y8, iv y9, iv y10, iv y11, iv y12, iv y13, rv x14, sl15, rv x16, rv x17, sl18, rv x19, uu, uu] [ex6]
      refine Rch.go (fun t k => XS.astoreS X6.here hx rfl (hb hby at_377) rfl xe6.ref (XT.cat1 xe6.ref) rfl (Or.inl rfl) (XS.aload X6.here hx rfl (hb hby at_379) rfl xe6.ref k)) ?_
      show Aw p e below _ T6 m 381 #[sl1, sl2, sl3, sl4, sl5, sl6, iv y7, iv y8, iv y9, iv y10, iv y11, iv y12, iv y13, rv x14, sl15, rv x16, rv x17, sl18, rv x19, .val ex6, uu] [ex6]
      rcases ref_cases xe6.ref with hz7 | ⟨rz7, hz7⟩
      · rw [hz7]
        show Aw p e below _ T6 m 381 #[sl1, sl2, sl3, sl4, sl5, sl6, iv y7, iv y8, iv y9, iv y10, iv y11, iv y12, iv y13, rv x14, sl15, rv x16, rv x17, sl18, rv x19, .val .null, uu] [.null]
        refine Rch.go (fun t k => XS.ifnonnullNo X6.here hx rfl (hb hby at_381) rfl (XS.aload X6.here hx rfl (hb hby at_384) rfl rfl (XS.aload X6.here hx rfl (hb hby at_386) rfl rfl (XS.iload X6.here hx rfl (hb hby at_388) rfl  (XS.iload X6.here hx rfl (hb hby at_390) rfl  (XS.iload X6.here hx rfl (hb hby at_392) rfl  (XS.iload X6.here hx rfl (hb hby at_394) rfl  k))))))) ?_
        show Aw p e below _ T6 m 396 #[sl1, sl2, sl3, sl4, sl5, sl6, iv y7, iv y8, iv y9, iv y10, iv y11, iv y12, iv y13, rv x14, sl15, rv x16, rv x17, sl18, rv x19, .val .null, uu] [(.int y11), (.int y9), (.int y8), (.int y12), (.ref x14), (.ref x16)]
        obtain ⟨v8, T8, L8, X8, Q8, st8⟩ := callSt X6 hx hZ (in_1 l Z a0 hw x16 x14 y12 y8 y9 y11 h0 n0 Z0 O0) e6 hown (wd_243 hw) (wd_244 hw) (wd_245 hw) (wd_241 hw) (by decide) (hb hby at_396) 0 (by decide) (by decide) (by decide) (by decide) (by rw [hml]; rfl) [(.ref x16), (.ref x14), (.int y12), (.int y8), (.int y9), (.int y11)] [] rfl (lenOf pd_19 rfl) rfl (Nat.le_of_eq rfl) (Ls := #[sl1, sl2, sl3, sl4, sl5, sl6, iv y7, iv y8, iv y9, iv y10, iv y11, iv y12, iv y13, rv x14, sl15, rv x16, rv x17, sl18, rv x19, .val .null, uu])
        obtain ⟨ex8, rfl, xe8, M8, e8⟩ := Q8
        have N8 := Fr.app N6 M8
        refine Rch.go st8 ?_
        show Aw p e below _ T8 m 399 #[sl1, sl2, sl3, sl4, sl5, sl6, iv y7, iv y8, iv y9, iv y10, iv y11, iv y12, iv y13, rv x14, sl15, rv x16, rv x17, sl18, rv x19, .val .null, uu] [ex8]
        refine Rch.go (fun t k => XS.astoreS X8.here hx rfl (hb hby at_399) rfl xe8.ref (XT.cat1 xe8.ref) rfl (Or.inr ⟨_, rfl, rfl⟩) k) ?_
        show Aw p e below _ T8 m 401 #[sl1, sl2, sl3, sl4, sl5, sl6, iv y7, iv y8, iv y9, iv y10, iv y11, iv y12, iv y13, rv x14, sl15, rv x16, rv x17, sl18, rv x19, .val ex8, uu] []
        exact pz_40 l Z a0 hw sl1 sl2 sl3 sl4 sl5 sl6 (iv y7) (iv y8) (iv y9) (iv y10) y11 (iv y12) (iv y13) (rv x14) sl15 (rv x16) (rv x17) sl18 x19 ex8 y23 h0 n0 Z0 O0 xe8.ref P3 P4 P5 (show FC l Z RC n0 h0 x19 y11 ex8 from (fc_2b l Z a0 hw Z0 O0 P1 (own_r4 P2 hk) (hz7 ▸ (own_c2 hw Z0 O0 P1 P9 xe6)) (own_c1 hw Z0 O0 P1 P8 xe8) xe8.ref hf259)) P6 p e s _ m below meth c T8 _ _ hx hZ hby hml hown hnm hret hlk ⟨Y0.1, Y0.2.mono (Nat.le_refl _)⟩ (X8.mono (by decide) (by decide)) e8 N8
      · rw [hz7]
        show Aw p e below _ T6 m 381 #[sl1, sl2, sl3, sl4, sl5, sl6, iv y7, iv y8, iv y9, iv y10, iv y11, iv y12, iv y13, rv x14, sl15, rv x16, rv x17, sl18, rv x19, rv rz7, uu] [(.ref rz7)]
        refine Rch.go (fun t k => XS.ifnonnullYes X6.here hx rfl (pc0 := 381) (pc' := 401) rfl (hb hby at_381) rfl (by decide) (by decide) k) ?_
        show Aw p e below _ T6 m 401 #[sl1, sl2, sl3, sl4, sl5, sl6, iv y7, iv y8, iv y9, iv y10, iv y11, iv y12, iv y13, rv x14, sl15, rv x16, rv x17, sl18, rv x19, rv rz7, uu] []
        exact pz_40 l Z a0 hw sl1 sl2 sl3 sl4 sl5 sl6 (iv y7) (iv y8) (iv y9) (iv y10) y11 (iv y12) (iv y13) (rv x14) sl15 (rv x16) (rv x17) sl18 x19 (.ref rz7) y23 h0 n0 Z0 O0 rfl P3 P4 P5 (show FC l Z RC n0 h0 x19 y11 (.ref rz7) from (fc_2a l Z a0 hw Z0 O0 P1 (own_r4 P2 hk) (hz7 ▸ (own_c2 hw Z0 O0 P1 P9 xe6)) (own_c1x P8) hf259)) P6 p e s _ m below meth c T6 _ _ hx hZ hby hml hown hnm hret hlk ⟨Y0.1, Y0.2.mono (Nat.le_refl _)⟩ (X6.mono (by decide) (by decide)) e6 N6
theorem wd_107 {Z a0} (hw : HW Z a0) : (Cond.methodLink s7' (21 : Nat) ⟨s1', "add", "(Ljava/lang/Object;)Z"⟩).before a0 Z = true := hw.at 107 rfl
theorem d29_0 : decode jdk_38_method_25_code 0 = .ok (.aload_n 0, 1) := by decide +kernel
theorem d29_1 : decode jdk_38_method_25_code 1 = .ok (.dup, 1) := by decide +kernel
theorem d29_2 : decode jdk_38_method_25_code 2 = .ok (.getfield 63, 3) := by decide +kernel
theorem wd_112 {Z a0} (hw : HW Z a0) : (Cond.fieldLink s1' (63 : Nat) s1' "modCount" "I").before a0 Z = true := hw.at 112 rfl
theorem wd_113 {Z a0} (hw : HW Z a0) : (Cond.sameField s1' s6' "modCount" "I").before a0 Z = true := hw.at 113 rfl
theorem d29_5 : decode jdk_38_method_25_code 5 = .ok (.iconst 1, 1) := by decide +kernel
theorem d29_6 : decode jdk_38_method_25_code 6 = .ok (.iadd, 1) := by decide +kernel
theorem d29_7 : decode jdk_38_method_25_code 7 = .ok (.putfield 63, 3) := by decide +kernel
theorem d29_10 : decode jdk_38_method_25_code 10 = .ok (.aload_n 0, 1) := by decide +kernel
theorem d29_11 : decode jdk_38_method_25_code 11 = .ok (.aload_n 1, 1) := by decide +kernel
theorem d29_12 : decode jdk_38_method_25_code 12 = .ok (.aload_n 0, 1) := by decide +kernel
theorem d29_13 : decode jdk_38_method_25_code 13 = .ok (.getfield 9, 3) := by decide +kernel
theorem d29_16 : decode jdk_38_method_25_code 16 = .ok (.aload_n 0, 1) := by decide +kernel
theorem d29_17 : decode jdk_38_method_25_code 17 = .ok (.getfield 48, 3) := by decide +kernel
theorem d29_20 : decode jdk_38_method_25_code 20 = .ok (.invokevirtual 131, 3) := by decide +kernel
theorem wd_114 {Z a0} (hw : HW Z a0) : (Cond.methodLink s1' (131 : Nat) ⟨s1', "add", "(Ljava/lang/Object;[Ljava/lang/Object;I)V"⟩).before a0 Z = true := hw.at 114 rfl
theorem d30_0 : decode jdk_38_method_24_code 0 = .ok (.iload_n 3, 1) := by decide +kernel
theorem d30_1 : decode jdk_38_method_24_code 1 = .ok (.aload_n 2, 1) := by decide +kernel
theorem d30_2 : decode jdk_38_method_24_code 2 = .ok (.arraylength, 1) := by decide +kernel
theorem d30_3 : decode jdk_38_method_24_code 3 = .ok (.if_icmp .ne 8, 3) := by decide +kernel
theorem d30_6 : decode jdk_38_method_24_code 6 = .ok (.aload_n 0, 1) := by decide +kernel
theorem d30_7 : decode jdk_38_method_24_code 7 = .ok (.invokevirtual 129, 3) := by decide +kernel
theorem wd_119 {Z a0} (hw : HW Z a0) : (Cond.methodLink s1' (129 : Nat) ⟨s1', "grow", "()[Ljava/lang/Object;"⟩).before a0 Z = true := hw.at 119 rfl
theorem d31_0 : decode jdk_38_method_7_code 0 = .ok (.aload_n 0, 1) := by decide +kernel
theorem d31_1 : decode jdk_38_method_7_code 1 = .ok (.aload_n 0, 1) := by decide +kernel
theorem d31_2 : decode jdk_38_method_7_code 2 = .ok (.getfield 48, 3) := by decide +kernel
theorem d31_5 : decode jdk_38_method_7_code 5 = .ok (.iconst 1, 1) := by decide +kernel
theorem d31_6 : decode jdk_38_method_7_code 6 = .ok (.iadd, 1) := by decide +kernel
theorem d31_7 : decode jdk_38_method_7_code 7 = .ok (.invokevirtual 69, 3) := by decide +kernel
theorem wd_124 {Z a0} (hw : HW Z a0) : (Cond.methodLink s1' (69 : Nat) ⟨s1', "grow", "(I)[Ljava/lang/Object;"⟩).before a0 Z = true := hw.at 124 rfl
theorem d32_0 : decode jdk_38_method_6_code 0 = .ok (.aload_n 0, 1) := by decide +kernel
theorem d32_1 : decode jdk_38_method_6_code 1 = .ok (.getfield 9, 3) := by decide +kernel
theorem d32_4 : decode jdk_38_method_6_code 4 = .ok (.arraylength, 1) := by decide +kernel
theorem d32_5 : decode jdk_38_method_6_code 5 = .ok (.istore_n 2, 1) := by decide +kernel
theorem d32_6 : decode jdk_38_method_6_code 6 = .ok (.iload_n 2, 1) := by decide +kernel
theorem d32_7 : decode jdk_38_method_6_code 7 = .ok (.ifCond .gt 13, 3) := by decide +kernel
theorem d32_10 : decode jdk_38_method_6_code 10 = .ok (.aload_n 0, 1) := by decide +kernel
theorem d32_11 : decode jdk_38_method_6_code 11 = .ok (.getfield 9, 3) := by decide +kernel
theorem d32_14 : decode jdk_38_method_6_code 14 = .ok (.getstatic 39, 3) := by decide +kernel
theorem d32_17 : decode jdk_38_method_6_code 17 = .ok (.if_acmp .eq 28, 3) := by decide +kernel
theorem d32_45 : decode jdk_38_method_6_code 45 = .ok (.aload_n 0, 1) := by decide +kernel
theorem d32_46 : decode jdk_38_method_6_code 46 = .ok (.bipush 10, 2) := by decide +kernel
theorem d32_48 : decode jdk_38_method_6_code 48 = .ok (.iload_n 1, 1) := by decide +kernel
theorem d32_49 : decode jdk_38_method_6_code 49 = .ok (.invokestatic 79, 3) := by decide +kernel
theorem wd_129 {Z a0} (hw : HW Z a0) : (Cond.methodLink s1' (79 : Nat) ⟨"java/lang/Math", "max", "(II)I"⟩).before a0 Z = true := hw.at 129 rfl
theorem d33_0 : decode jdk_29_method_65_code 0 = .ok (.iload_n 0, 1) := by decide +kernel
theorem d33_1 : decode jdk_29_method_65_code 1 = .ok (.iload_n 1, 1) := by decide +kernel
theorem d33_2 : decode jdk_29_method_65_code 2 = .ok (.if_icmp .lt 7, 3) := by decide +kernel
theorem d33_5 : decode jdk_29_method_65_code 5 = .ok (.iload_n 0, 1) := by decide +kernel
theorem d33_6 : decode jdk_29_method_65_code 6 = .ok (.goto 4, 3) := by decide +kernel
theorem d33_10 : decode jdk_29_method_65_code 10 = .ok (.ireturn, 1) := by decide +kernel
theorem pn_java_lang_Math_33 : plainFor (⟨"java/lang/Math", "max", "(II)I"⟩ : MethodName) = true := by decide +kernel
theorem ef_m45_max (m : MethodId) : entryFrame m #[(.int 10), (.int 1)] 2 = mkF m 0 #[iv 10, iv 1] [] := by first | rfl | (simp [entryFrame, mkF, argsToLocals, Value.category]; done)
theorem m45_max (l : Launch) (Z : State) (a0 : Array Value) (hw : HW Z a0)  (h0 : Heap) (n0 : Nat) (Z0 : n0 ≤ h0.size) (O0 : Old Z n0 h0) :
    Ctr l Z [] (⟨"java/lang/Math", "max", "(II)I"⟩ : MethodName) jdk_29_method_65_code 2 (some .int) #[(.int 10), (.int 1)] h0 ({ frames := 0, cells := 0, slots := 0, locals := 0 } : Room) (fun v h L => v = some (.int 10) ∧ Fr n0 L ∧ h = h0) := by
  refine Ctr.of pn_java_lang_Math_33 (fun m => ef_m45_max m ) ?_
  intro p e s m below meth c T0 hx hZ hby hml hown hnm hret hlk X0 e0
  have N0 := Fr.nil n0
  show Aw p e below _ T0 m 0 #[iv 10, iv 1] []
  refine Rch.go (fun t k => XS.iloadN X0.here hx rfl (hb hby d33_0) rfl  (XS.iloadN X0.here hx rfl (hb hby d33_1) rfl  (XS.icmpNo X0.here hx rfl (hb hby d33_2) rfl (by decide) (XS.iloadN X0.here hx rfl (hb hby d33_5) rfl  (XS.goto X0.here hx rfl (pc0 := 6) (pc' := 10) rfl (hb hby d33_6) (by decide) (by decide) k))))) ?_
  show Aw p e below _ T0 m 10 #[iv 10, iv 1] [(.int 10)]
  refine Rch.val X0 hx (t := .int) hret hlk rfl (mayI (by simp)) (hb hby d33_10) (by decide) (by decide) ?_
  try rw [e0]
  exact ⟨rfl, N0, rfl⟩
theorem wd_132 {Z a0} (hw : HW Z a0) : (Cond.code ⟨"java/lang/Math", "max", "(II)I"⟩ jdk_29_method_65_code (2 : Nat) (Option.some FieldType.int)).before a0 Z = true := hw.at 132 rfl
theorem wd_131 {Z a0} (hw : HW Z a0) : (Cond.initialized "java/lang/Math").before a0 Z = true := hw.at 131 rfl
theorem pd_21 : parseMethodDescriptor "(II)I" = some ⟨[.int, .int], some .int⟩ := by decide +kernel
theorem wd_130 {Z a0} (hw : HW Z a0) : (Cond.static ⟨"java/lang/Math", "max", "(II)I"⟩).before a0 Z = true := hw.at 130 rfl
theorem d32_52 : decode jdk_38_method_6_code 52 = .ok (.anewarray 7, 3) := by decide +kernel
theorem wd_133 {Z a0} (hw : HW Z a0) : (Cond.classLink s1' (7 : Nat) "java/lang/Object").before a0 Z = true := hw.at 133 rfl
theorem wd_134 {Z a0} (hw : HW Z a0) : (Cond.arrayOver (FieldType.object "java/lang/Object")).before a0 Z = true := hw.at 134 rfl
theorem d32_55 : decode jdk_38_method_6_code 55 = .ok (.dup_x1, 1) := by decide +kernel
theorem d32_56 : decode jdk_38_method_6_code 56 = .ok (.putfield 9, 3) := by decide +kernel
theorem d32_59 : decode jdk_38_method_6_code 59 = .ok (.areturn, 1) := by decide +kernel
theorem ef_m44_grow (m : MethodId) (x1 : Addr) : entryFrame m #[(.ref x1), (.int 1)] 4 = mkF m 0 #[rv x1, iv 1, uu, uu] [] := by first | rfl | (simp [entryFrame, mkF, argsToLocals, Value.category]; done)
theorem m44_grow (l : Launch) (Z : State) (a0 : Array Value) (hw : HW Z a0) (x1 x2 : Addr) (kk3 : ClassId) (h0 : Heap) (n0 : Nat) (Z0 : n0 ≤ h0.size) (O0 : Old Z n0 h0) (P1 : Fld Z h0 x1 s1' "elementData" s4' (.ref x2)) (P2 : Arv Z Z.heap x2 kk3 (.object "java/lang/Object") (0 : Int32) [] .null) (P3 : Sta Z Z.heap s1' "DEFAULTCAPACITY_EMPTY_ELEMENTDATA" s4' (.ref x2)) (P4 : Exa Z h0 x1 s1') (P5 : n0 ≤ x1) (P6 : Fld Z h0 x1 s1' "size" "I" (.int 0)) (P7 : Fld Z h0 x1 s6' "modCount" "I" (.int 1)) :
    Ctr l Z [] (⟨s1', "grow", "(I)[Ljava/lang/Object;"⟩ : MethodName) jdk_38_method_6_code 4 (some (.array (.object "java/lang/Object"))) #[(.ref x1), (.int 1)] h0 ({ frames := 1, cells := 1, slots := 10, locals := 14 } : Room) (fun v h L => ∃ (b6 : Addr) (k6 : ClassId), v = some (.ref b6) ∧ Fr n0 L ∧ Keep h0 h [x1] ∧ h0.size ≤ b6 ∧ Ovr Z k6 "java/lang/Object" ∧ Fld Z h x1 s1' "elementData" s4' (.ref b6) ∧ Exa Z h b6 s4' ∧ Arv Z h b6 k6 (.object "java/lang/Object") (10 : Int32) [.null, .null, .null, .null, .null, .null, .null, .null, .null, .null] .null ∧ Fld Z h x1 s1' "size" "I" (.int 0) ∧ Fld Z h x1 s6' "modCount" "I" (.int 1)) := by
  refine Ctr.of (plainFor_of_name pn_java_util_ArrayList) (fun m => ef_m44_grow m x1) ?_
  intro p e s m below meth c T0 hx hZ hby hml hown hnm hret hlk X0 e0
  have N0 := Fr.nil n0
  show Aw p e below _ T0 m 0 #[rv x1, iv 1, uu, uu] []
  refine Rch.go (fun t k => XS.aloadN X0.here hx rfl (hb hby d32_0) rfl rfl k) ?_
  show Aw p e below _ T0 m 1 #[rv x1, iv 1, uu, uu] [(.ref x1)]
  obtain ⟨T1, X1, e1, st1⟩ := getF X0 hx hZ hown (host := "") (Or.inl (wd_51 hw)) Via.refl e0 P1 (g := (mkF m 1 #[rv x1, iv 1, uu, uu] [(.ref x1)])) rfl rfl (hb hby d32_1)
  refine Rch.go st1 ?_
  show Aw p e below _ T1 m 4 #[rv x1, iv 1, uu, uu] [(.ref x2)]
  obtain ⟨c2, r2, q2, s2, u2, H2, G2⟩ := id (P2.ext O0.2)
  refine Rch.go (fun t k => X1.arraylength hx (by rw [e1]; exact r2.1) (State.isArrayOf_alike hZ.alike r2.2.1) (g := (mkF m 4 #[rv x1, iv 1, uu, uu] [(.ref x2)])) rfl rfl (hb hby d32_4) t (by rw [len_of s2 u2]; exact k)) ?_
  show Aw p e below _ T1 m 5 #[rv x1, iv 1, uu, uu] [(.int 0)]
  refine Rch.go (fun t k => XS.istoreN X1.here hx rfl (hb hby d32_5) rfl  (l' := #[rv x1, iv 1, iv 0, uu]) rfl (XS.iloadN X1.here hx rfl (hb hby d32_6) rfl  (XS.ifNo X1.here hx rfl (hb hby d32_7) rfl (by decide) (XS.aloadN X1.here hx rfl (hb hby d32_10) rfl rfl k)))) ?_
  show Aw p e below _ T1 m 11 #[rv x1, iv 1, iv 0, uu] [(.ref x1)]
  obtain ⟨T3, X3, e3, st3⟩ := getF X1 hx hZ hown (host := "") (Or.inl (wd_51 hw)) Via.refl e1 P1 (g := (mkF m 11 #[rv x1, iv 1, iv 0, uu] [(.ref x1)])) rfl rfl (hb hby d32_11)
  refine Rch.go st3 ?_
  show Aw p e below _ T3 m 14 #[rv x1, iv 1, iv 0, uu] [(.ref x2)]
  obtain ⟨T4, X4, e4, st4⟩ := getS2 X3 hx hZ hown (host := "") (Or.inl (wd_50 hw)) Via.refl e3 (P3.ext O0.2) (g := (mkF m 14 #[rv x1, iv 1, iv 0, uu] [(.ref x2)])) rfl (hb hby d32_14)
  refine Rch.go st4 ?_
  show Aw p e below _ T4 m 17 #[rv x1, iv 1, iv 0, uu] [(.ref x2), (.ref x2)]
  refine Rch.go (fun t k => acmp X4 hx rfl (x := (.ref x2)) (y := (.ref x2)) rfl rfl (pc0 := 17) (pc' := 45) (same := true) rfl (hb hby d32_17) rfl (decide_eq_true rfl) (by decide) (by decide) (XS.aloadN X4.here hx rfl (hb hby d32_45) rfl rfl (XS.bipush X4.here hx rfl (hb hby d32_46) (XS.iloadN X4.here hx rfl (hb hby d32_48) rfl  k)))) ?_
  show Aw p e below _ T4 m 49 #[rv x1, iv 1, iv 0, uu] [(.int 1), (.int 10), (.ref x1)]
  obtain ⟨v5, T5, L5, X5, Q5, st5⟩ := callSt X4 hx hZ (m45_max l Z a0 hw  h0 n0 Z0 O0 ) e4 hown (wd_129 hw) (wd_130 hw) (wd_132 hw) (wd_131 hw) (by decide) (hb hby d32_49) 1 (by decide) (by decide) (by decide) (by decide) (by rw [hml]; rfl) [(.int 10), (.int 1)] [(.ref x1)] rfl (lenOf pd_21 rfl) rfl (Nat.le_of_eq rfl) (Ls := #[rv x1, iv 1, iv 0, uu])
  obtain ⟨rfl, M5, e5⟩ := Q5
  have N5 := Fr.app N0 M5
  refine Rch.go st5 ?_
  show Aw p e below _ T5 m 52 #[rv x1, iv 1, iv 0, uu] [(.int 10), (.ref x1)]
  obtain ⟨T6, h6, k6, X6, e6, E6, A6, B6, O6, st6⟩ := newRE X5 hx hZ hown (wd_133 hw) (wd_134 hw) e5 (g := (mkF m 52 #[rv x1, iv 1, iv 0, uu] [(.int 10), (.ref x1)])) rfl (hb hby d32_52) rfl (by decide) (cap := 10) (by decide) (by decide) (by decide) (by decide) (ad := s4') (by decide +kernel)
  obtain ⟨b6, g6⟩ : ∃ z, z = h0.size := ⟨_, rfl⟩
  rw [← g6] at A6 B6 st6
  refine Rch.go st6 ?_
  have g_b6 : n0 ≤ b6 := Nat.le_trans Z0 (Nat.le_of_eq g6.symm)
  have V6 : Arv Z h6 b6 k6 (.object "java/lang/Object") (10 : Int32) [.null, .null, .null, .null, .null, .null, .null, .null, .null, .null] .null := (Arv.new A6 (by decide)).pad (pad_rep [] .null 10)
  show Aw p e below _ T6 m 55 #[rv x1, iv 1, iv 0, uu] [(.ref b6), (.ref x1)]
  refine Rch.go (fun t k => XS.dupX1 X6.here hx rfl (hb hby d32_55) rfl rfl rfl k) ?_
  show Aw p e below _ T6 m 56 #[rv x1, iv 1, iv 0, uu] [(.ref b6), (.ref x1), (.ref b6)]
  have f8 := (P1.ext E6)
  have f9 := (P4.ext E6)
  obtain ⟨T7, h7, X7, e7, W7, st7⟩ := putF X6 hx hZ hown (host := "") (Or.inl (wd_51 hw)) Via.refl e6 f8 f9 (Or.inl (wd_52 hw)) (wd_30 hw) (ty := (.array (.object "java/lang/Object"))) (by decide) rfl rfl (g := (mkF m 56 #[rv x1, iv 1, iv 0, uu] [(.ref b6), (.ref x1), (.ref b6)])) rfl rfl (hb hby d32_56)
  refine Rch.go st7 ?_
  have F7 := f8.same W7
  have N7 := Fr.snoc X7 N5 P5
  show Aw p e below _ T7 m 59 #[rv x1, iv 1, iv 0, uu] [(.ref b6)]
  have f10 := (B6.wr W7)
  have lt11 := P1.lt
  have ne12 : x1 ≠ b6 := Nat.ne_of_lt (Nat.lt_of_lt_of_le lt11 (Nat.le_of_eq g6.symm))
  have f13 := (V6.other W7 (Ne.symm ne12))
  have f14 := ((P6.ext E6).other W7 (Or.inr (slot_ne (Or.inl (wd_98 hw)) (Or.inl (wd_52 hw)) (by decide) (t := .int) (t' := (.array (.object "java/lang/Object"))) (by decide) (by decide))))
  have f15 := ((P7.ext E6).other W7 (Or.inr (slot_ne (Or.inl (wd_49 hw)) (Or.inl (wd_52 hw)) (by decide) (t := .int) (t' := (.array (.object "java/lang/Object"))) (by decide) (by decide))))
  refine Rch.val X7 hx (t := (.array (.object "java/lang/Object"))) hret hlk rfl (Or.inr (Or.inr (Or.inr (Or.inr ⟨rfl, rfl, rfl⟩)))) (hb hby d32_59) (by decide) (by decide) ?_
  try rw [e7]
  exact ⟨b6, k6, rfl, N7, (((Keep.refl _ _).ext E6).wr W7 (Or.inl (List.mem_of_getElem? (i := 0) rfl))), (Nat.le_trans (Nat.le_refl _) (Nat.le_of_eq g6.symm)), O6, F7, f10, f13, f14, f15⟩
theorem wd_128 {Z a0} (hw : HW Z a0) : (Cond.code ⟨s1', "grow", "(I)[Ljava/lang/Object;"⟩ jdk_38_method_6_code (4 : Nat) (Option.some (FieldType.array (FieldType.object "java/lang/Object")))).before a0 Z = true := hw.at 128 rfl
theorem pd_22 : parseMethodDescriptor "(I)[Ljava/lang/Object;" = some ⟨[.int], some (.array (.object "java/lang/Object"))⟩ := by decide +kernel
theorem wd_125 {Z a0} (hw : HW Z a0) : (Cond.instanceMethod ⟨s1', "grow", "(I)[Ljava/lang/Object;"⟩).before a0 Z = true := hw.at 125 rfl
theorem wd_127 {Z a0} (hw : HW Z a0) : (Cond.selects s1' ⟨s1', "grow", "(I)[Ljava/lang/Object;"⟩ ⟨s1', "grow", "(I)[Ljava/lang/Object;"⟩).before a0 Z = true := hw.at 127 rfl
theorem wd_126 {Z a0} (hw : HW Z a0) : (Cond.privateMethod ⟨s1', "grow", "(I)[Ljava/lang/Object;"⟩).before a0 Z = true := hw.at 126 rfl
theorem d31_10 : decode jdk_38_method_7_code 10 = .ok (.areturn, 1) := by decide +kernel
theorem ef_m43_grow (m : MethodId) (x1 : Addr) : entryFrame m #[(.ref x1)] 1 = mkF m 0 #[rv x1] [] := by first | rfl | (simp [entryFrame, mkF, argsToLocals, Value.category]; done)
theorem m43_grow (l : Launch) (Z : State) (a0 : Array Value) (hw : HW Z a0) (x1 x2 : Addr) (kk3 : ClassId) (h0 : Heap) (n0 : Nat) (Z0 : n0 ≤ h0.size) (O0 : Old Z n0 h0) (P1 : Fld Z h0 x1 s1' "size" "I" (.int 0)) (P2 : Exa Z h0 x1 s1') (P3 : Fld Z h0 x1 s1' "elementData" s4' (.ref x2)) (P4 : Arv Z Z.heap x2 kk3 (.object "java/lang/Object") (0 : Int32) [] .null) (P5 : Sta Z Z.heap s1' "DEFAULTCAPACITY_EMPTY_ELEMENTDATA" s4' (.ref x2)) (P6 : n0 ≤ x1) (P7 : Fld Z h0 x1 s6' "modCount" "I" (.int 1)) :
    Ctr l Z [] (⟨s1', "grow", "()[Ljava/lang/Object;"⟩ : MethodName) jdk_38_method_7_code 1 (some (.array (.object "java/lang/Object"))) #[(.ref x1)] h0 ({ frames := 2, cells := 1, slots := 10, locals := 29 } : Room) (fun v h L => ∃ (b2_0 : Addr) (k2_0 : ClassId), v = some (.ref b2_0) ∧ Fr n0 L ∧ Keep h0 h [x1] ∧ h0.size ≤ b2_0 ∧ Ovr Z k2_0 "java/lang/Object" ∧ Fld Z h x1 s1' "elementData" s4' (.ref b2_0) ∧ Exa Z h b2_0 s4' ∧ Arv Z h b2_0 k2_0 (.object "java/lang/Object") (10 : Int32) [.null, .null, .null, .null, .null, .null, .null, .null, .null, .null] .null ∧ Fld Z h x1 s1' "size" "I" (.int 0) ∧ Fld Z h x1 s6' "modCount" "I" (.int 1)) := by
  refine Ctr.of (plainFor_of_name pn_java_util_ArrayList) (fun m => ef_m43_grow m x1) ?_
  intro p e s m below meth c T0 hx hZ hby hml hown hnm hret hlk X0 e0
  have N0 := Fr.nil n0
  show Aw p e below _ T0 m 0 #[rv x1] []
  refine Rch.go (fun t k => XS.aloadN X0.here hx rfl (hb hby d31_0) rfl rfl (XS.aloadN X0.here hx rfl (hb hby d31_1) rfl rfl k)) ?_
  show Aw p e below _ T0 m 2 #[rv x1] [(.ref x1), (.ref x1)]
  obtain ⟨T1, X1, e1, st1⟩ := getF X0 hx hZ hown (host := "") (Or.inl (wd_97 hw)) Via.refl e0 P1 (g := (mkF m 2 #[rv x1] [(.ref x1), (.ref x1)])) rfl rfl (hb hby d31_2)
  refine Rch.go st1 ?_
  show Aw p e below _ T1 m 5 #[rv x1] [(.int 0), (.ref x1)]
  refine Rch.go (fun t k => XS.iconst X1.here hx rfl (hb hby d31_5) (XS.iadd X1.here hx rfl (hb hby d31_6) rfl k)) ?_
  show Aw p e below _ T1 m 7 #[rv x1] [(.int 1), (.ref x1)]
  obtain ⟨v2, T2, L2, X2, Q2, st2⟩ := callPr X1 hx hZ (m44_grow l Z a0 hw x1 x2 kk3 h0 n0 Z0 O0 P3 P4 P5 P2 P6 P1 P7) e1 hown (wd_124 hw) (wd_125 hw) (wd_127 hw) (wd_126 hw) (wd_128 hw) (wd_31 hw) (by decide) (hb hby d31_7) 0 (by decide) (by decide) (by decide) (by decide) (by rw [hml]; rfl) x1 P2 [(.int 1)] [] rfl (lenOf pd_22 rfl) rfl (Nat.le_of_eq rfl) (Ls := #[rv x1])
  obtain ⟨b2_0, k2_0, rfl, M2, K2, zz2_0, O2_0, F2_0, F2_1, F2_2, F2_3, F2_4⟩ := Q2
  have N2 := Fr.app N0 M2
  refine Rch.go st2 ?_
  have g_b2_0 : n0 ≤ b2_0 := Nat.le_trans Z0 zz2_0
  show Aw p e below _ T2 m 10 #[rv x1] [(.ref b2_0)]
  refine Rch.val X2 hx (t := (.array (.object "java/lang/Object"))) hret hlk rfl (Or.inr (Or.inr (Or.inr (Or.inr ⟨rfl, rfl, rfl⟩)))) (hb hby d31_10) (by decide) (by decide) ?_
  exact ⟨b2_0, k2_0, rfl, N2, ((Keep.refl _ _).trans K2 (allS (Or.inl (List.mem_of_getElem? (i := 0) rfl)) all0)), (Nat.le_trans (Nat.le_refl _) zz2_0), O2_0, F2_0, F2_1, F2_2, F2_3, F2_4⟩
theorem wd_123 {Z a0} (hw : HW Z a0) : (Cond.code ⟨s1', "grow", "()[Ljava/lang/Object;"⟩ jdk_38_method_7_code (1 : Nat) (Option.some (FieldType.array (FieldType.object "java/lang/Object")))).before a0 Z = true := hw.at 123 rfl
theorem pd_23 : parseMethodDescriptor "()[Ljava/lang/Object;" = some ⟨[], some (.array (.object "java/lang/Object"))⟩ := by decide +kernel
theorem wd_120 {Z a0} (hw : HW Z a0) : (Cond.instanceMethod ⟨s1', "grow", "()[Ljava/lang/Object;"⟩).before a0 Z = true := hw.at 120 rfl
theorem wd_122 {Z a0} (hw : HW Z a0) : (Cond.selects s1' ⟨s1', "grow", "()[Ljava/lang/Object;"⟩ ⟨s1', "grow", "()[Ljava/lang/Object;"⟩).before a0 Z = true := hw.at 122 rfl
theorem wd_121 {Z a0} (hw : HW Z a0) : (Cond.privateMethod ⟨s1', "grow", "()[Ljava/lang/Object;"⟩).before a0 Z = true := hw.at 121 rfl
theorem d30_10 : decode jdk_38_method_24_code 10 = .ok (.astore_n 2, 1) := by decide +kernel
theorem d30_11 : decode jdk_38_method_24_code 11 = .ok (.aload_n 2, 1) := by decide +kernel
theorem d30_12 : decode jdk_38_method_24_code 12 = .ok (.iload_n 3, 1) := by decide +kernel
theorem d30_13 : decode jdk_38_method_24_code 13 = .ok (.aload_n 1, 1) := by decide +kernel
theorem d30_14 : decode jdk_38_method_24_code 14 = .ok (.aastore, 1) := by decide +kernel
theorem wd_135 {Z a0} (hw : HW Z a0) : (Cond.castable s2' "java/lang/Object").before a0 Z = true := hw.at 135 rfl
theorem d30_15 : decode jdk_38_method_24_code 15 = .ok (.aload_n 0, 1) := by decide +kernel
theorem d30_16 : decode jdk_38_method_24_code 16 = .ok (.iload_n 3, 1) := by decide +kernel
theorem d30_17 : decode jdk_38_method_24_code 17 = .ok (.iconst 1, 1) := by decide +kernel
theorem d30_18 : decode jdk_38_method_24_code 18 = .ok (.iadd, 1) := by decide +kernel
theorem d30_19 : decode jdk_38_method_24_code 19 = .ok (.putfield 48, 3) := by decide +kernel
theorem d30_22 : decode jdk_38_method_24_code 22 = .ok (.return_, 1) := by decide +kernel
theorem ef_m42_add (m : MethodId) (x1 x2 x3 : Addr) : entryFrame m #[(.ref x1), (.ref x2), (.ref x3), (.int 0)] 4 = mkF m 0 #[rv x1, rv x2, rv x3, iv 0] [] := by first | rfl | (simp [entryFrame, mkF, argsToLocals, Value.category]; done)
theorem m42_add (l : Launch) (Z : State) (a0 : Array Value) (hw : HW Z a0) (x1 x2 x3 : Addr) (kk4 : ClassId) (h0 : Heap) (n0 : Nat) (Z0 : n0 ≤ h0.size) (O0 : Old Z n0 h0) (P1 : Arv Z Z.heap x3 kk4 (.object "java/lang/Object") (0 : Int32) [] .null) (P2 : Exa Z h0 x1 s1') (P3 : Fld Z h0 x1 s1' "size" "I" (.int 0)) (P4 : Fld Z h0 x1 s1' "elementData" s4' (.ref x3)) (P5 : Sta Z Z.heap s1' "DEFAULTCAPACITY_EMPTY_ELEMENTDATA" s4' (.ref x3)) (P6 : n0 ≤ x1) (P7 : Fld Z h0 x1 s6' "modCount" "I" (.int 1)) (P8 : Exa Z h0 x2 s2') :
    Ctr l Z [] (⟨s1', "add", "(Ljava/lang/Object;[Ljava/lang/Object;I)V"⟩ : MethodName) jdk_38_method_24_code 4 none #[(.ref x1), (.ref x2), (.ref x3), (.int 0)] h0 ({ frames := 3, cells := 1, slots := 10, locals := 41 } : Room) (fun v h L => ∃ (b2_0 : Addr) (k2_0 : ClassId), v = none ∧ Fr n0 L ∧ Keep h0 h [x1] ∧ h0.size ≤ b2_0 ∧ Ovr Z k2_0 "java/lang/Object" ∧ Fld Z h x1 s1' "elementData" s4' (.ref b2_0) ∧ Exa Z h b2_0 s4' ∧ Arv Z h b2_0 k2_0 (.object "java/lang/Object") (10 : Int32) [(.ref x2), .null, .null, .null, .null, .null, .null, .null, .null, .null] .null ∧ Fld Z h x1 s1' "size" "I" (.int 1) ∧ Fld Z h x1 s6' "modCount" "I" (.int 1)) := by
  refine Ctr.of (plainFor_of_name pn_java_util_ArrayList) (fun m => ef_m42_add m x1 x2 x3) ?_
  intro p e s m below meth c T0 hx hZ hby hml hown hnm hret hlk X0 e0
  have N0 := Fr.nil n0
  show Aw p e below _ T0 m 0 #[rv x1, rv x2, rv x3, iv 0] []
  refine Rch.go (fun t k => XS.iloadN X0.here hx rfl (hb hby d30_0) rfl  (XS.aloadN X0.here hx rfl (hb hby d30_1) rfl rfl k)) ?_
  show Aw p e below _ T0 m 2 #[rv x1, rv x2, rv x3, iv 0] [(.ref x3), (.int 0)]
  obtain ⟨c1, r1, q1, s1, u1, H1, G1⟩ := id (P1.ext O0.2)
  refine Rch.go (fun t k => X0.arraylength hx (by rw [e0]; exact r1.1) (State.isArrayOf_alike hZ.alike r1.2.1) (g := (mkF m 2 #[rv x1, rv x2, rv x3, iv 0] [(.ref x3), (.int 0)])) rfl rfl (hb hby d30_2) t (by rw [len_of s1 u1]; exact k)) ?_
  show Aw p e below _ T0 m 3 #[rv x1, rv x2, rv x3, iv 0] [(.int 0), (.int 0)]
  refine Rch.go (fun t k => XS.icmpNo X0.here hx rfl (hb hby d30_3) rfl (by decide) (XS.aloadN X0.here hx rfl (hb hby d30_6) rfl rfl k)) ?_
  show Aw p e below _ T0 m 7 #[rv x1, rv x2, rv x3, iv 0] [(.ref x1)]
  obtain ⟨v2, T2, L2, X2, Q2, st2⟩ := callPr X0 hx hZ (m43_grow l Z a0 hw x1 x3 kk4 h0 n0 Z0 O0 P3 P2 P4 P1 P5 P6 P7) e0 hown (wd_119 hw) (wd_120 hw) (wd_122 hw) (wd_121 hw) (wd_123 hw) (wd_31 hw) (by decide) (hb hby d30_7) 0 (by decide) (by decide) (by decide) (by decide) (by rw [hml]; rfl) x1 P2 [] [] rfl (lenOf pd_23 rfl) rfl (Nat.le_of_eq rfl) (Ls := #[rv x1, rv x2, rv x3, iv 0])
  obtain ⟨b2_0, k2_0, rfl, M2, K2, zz2_0, O2_0, F2_0, F2_1, F2_2, F2_3, F2_4⟩ := Q2
  have N2 := Fr.app N0 M2
  refine Rch.go st2 ?_
  have g_b2_0 : n0 ≤ b2_0 := Nat.le_trans Z0 zz2_0
  show Aw p e below _ T2 m 10 #[rv x1, rv x2, rv x3, iv 0] [(.ref b2_0)]
  refine Rch.go (fun t k => XS.astoreN X2.here hx rfl (hb hby d30_10) rfl rfl (l' := #[rv x1, rv x2, rv b2_0, iv 0]) rfl (XS.aloadN X2.here hx rfl (hb hby d30_11) rfl rfl (XS.iloadN X2.here hx rfl (hb hby d30_12) rfl  (XS.aloadN X2.here hx rfl (hb hby d30_13) rfl rfl k)))) ?_
  show Aw p e below _ T2 m 14 #[rv x1, rv x2, rv b2_0, iv 0] [(.ref x2), (.int 0), (.ref b2_0)]
  have f3 := (P8.keep K2)
  obtain ⟨c4, r4, q4, s4, u4, H4, G4⟩ := id F2_2
  obtain ⟨T5, h5, X5, e5, W5, st5⟩ := stR X2 hx hZ rfl r4 (j := (0 : Int32)) (inb_of s4 (by decide)) rfl (Sto.ofV r4 q4 O2_0 (Ins.of_exa f3 (wd_135 hw))) (g := (mkF m 14 #[rv x1, rv x2, rv b2_0, iv 0] [(.ref x2), (.int 0), (.ref b2_0)])) rfl rfl (hb hby d30_14)
  refine Rch.go st5 ?_
  have V5 : Arv Z h5 b2_0 k2_0 (.object "java/lang/Object") (10 : Int32) [(.ref x2), .null, .null, .null, .null, .null, .null, .null, .null, .null] .null := Arv.set r4 q4 s4 u4 H4 G4 rfl W5 0 rfl (Nat.le_of_ble_eq_true rfl)
  have N5 := Fr.snoc X5 N2 g_b2_0
  show Aw p e below _ T5 m 15 #[rv x1, rv x2, rv b2_0, iv 0] []
  refine Rch.go (fun t k => XS.aloadN X5.here hx rfl (hb hby d30_15) rfl rfl (XS.iloadN X5.here hx rfl (hb hby d30_16) rfl  (XS.iconst X5.here hx rfl (hb hby d30_17) (XS.iadd X5.here hx rfl (hb hby d30_18) rfl k)))) ?_
  show Aw p e below _ T5 m 19 #[rv x1, rv x2, rv b2_0, iv 0] [(.int 1), (.ref x1)]
  have lt7 := P2.lt
  have ne8 : x1 ≠ b2_0 := Nat.ne_of_lt (Nat.lt_of_lt_of_le lt7 zz2_0)
  have f9 := (F2_3.other W5 (Or.inl ne8))
  have f10 := ((P2.keep K2).wr W5)
  obtain ⟨T6, h6, X6, e6, W6, st6⟩ := putF X5 hx hZ hown (host := "") (Or.inl (wd_97 hw)) Via.refl e5 f9 f10 (Or.inl (wd_98 hw)) (wd_30 hw) (ty := .int) (by decide) rfl rfl (g := (mkF m 19 #[rv x1, rv x2, rv b2_0, iv 0] [(.int 1), (.ref x1)])) rfl rfl (hb hby d30_19)
  refine Rch.go st6 ?_
  have F6 := f9.same W6
  have N6 := Fr.snoc X6 N5 P6
  show Aw p e below _ T6 m 22 #[rv x1, rv x2, rv b2_0, iv 0] []
  have f11 := ((F2_0.other W5 (Or.inl ne8)).other W6 (Or.inr (slot_ne (Or.inl (wd_52 hw)) (Or.inl (wd_98 hw)) (by decide) (t := (.array (.object "java/lang/Object"))) (t' := .int) (by decide) (by decide))))
  have f12 := ((F2_1.wr W5).wr W6)
  have f13 := (V5.other W6 (Ne.symm ne8))
  have f14 := ((F2_4.other W5 (Or.inl ne8)).other W6 (Or.inr (slot_ne (Or.inl (wd_49 hw)) (Or.inl (wd_98 hw)) (by decide) (t := .int) (t' := .int) (by decide) (by decide))))
  refine Rch.void X6 hx hret hlk (hb hby d30_22) (by decide) (by decide) ?_
  try rw [e6]
  exact ⟨b2_0, k2_0, rfl, N6, ((((Keep.refl _ _).trans K2 (allS (Or.inl (List.mem_of_getElem? (i := 0) rfl)) all0)).wr W5 (Or.inr (Nat.le_trans (Nat.le_refl _) zz2_0))).wr W6 (Or.inl (List.mem_of_getElem? (i := 0) rfl))), (Nat.le_trans (Nat.le_refl _) zz2_0), O2_0, f11, f12, f13, F6, f14⟩
theorem wd_118 {Z a0} (hw : HW Z a0) : (Cond.code ⟨s1', "add", "(Ljava/lang/Object;[Ljava/lang/Object;I)V"⟩ jdk_38_method_24_code (4 : Nat) (Option.none : Option FieldType)).before a0 Z = true := hw.at 118 rfl
theorem pd_24 : parseMethodDescriptor "(Ljava/lang/Object;[Ljava/lang/Object;I)V" = some ⟨[(.object "java/lang/Object"), (.array (.object "java/lang/Object")), .int], none⟩ := by decide +kernel
theorem wd_115 {Z a0} (hw : HW Z a0) : (Cond.instanceMethod ⟨s1', "add", "(Ljava/lang/Object;[Ljava/lang/Object;I)V"⟩).before a0 Z = true := hw.at 115 rfl
theorem wd_117 {Z a0} (hw : HW Z a0) : (Cond.selects s1' ⟨s1', "add", "(Ljava/lang/Object;[Ljava/lang/Object;I)V"⟩ ⟨s1', "add", "(Ljava/lang/Object;[Ljava/lang/Object;I)V"⟩).before a0 Z = true := hw.at 117 rfl
theorem wd_116 {Z a0} (hw : HW Z a0) : (Cond.privateMethod ⟨s1', "add", "(Ljava/lang/Object;[Ljava/lang/Object;I)V"⟩).before a0 Z = true := hw.at 116 rfl
theorem d29_23 : decode jdk_38_method_25_code 23 = .ok (.iconst 1, 1) := by decide +kernel
theorem d29_24 : decode jdk_38_method_25_code 24 = .ok (.ireturn, 1) := by decide +kernel
theorem ef_m41_add (m : MethodId) (x1 x2 : Addr) : entryFrame m #[(.ref x1), (.ref x2)] 2 = mkF m 0 #[rv x1, rv x2] [] := by first | rfl | (simp [entryFrame, mkF, argsToLocals, Value.category]; done)
theorem m41_add (l : Launch) (Z : State) (a0 : Array Value) (hw : HW Z a0) (x1 x2 x3 : Addr) (kk4 : ClassId) (h0 : Heap) (n0 : Nat) (Z0 : n0 ≤ h0.size) (O0 : Old Z n0 h0) (P1 : Fld Z h0 x1 s6' "modCount" "I" (.int 0)) (P2 : Exa Z h0 x1 s1') (P3 : n0 ≤ x1) (P4 : Fld Z h0 x1 s1' "elementData" s4' (.ref x3)) (P5 : Fld Z h0 x1 s1' "size" "I" (.int 0)) (P6 : Arv Z Z.heap x3 kk4 (.object "java/lang/Object") (0 : Int32) [] .null) (P7 : Sta Z Z.heap s1' "DEFAULTCAPACITY_EMPTY_ELEMENTDATA" s4' (.ref x3)) (P8 : Exa Z h0 x2 s2') :
    Ctr l Z [] (⟨s1', "add", "(Ljava/lang/Object;)Z"⟩ : MethodName) jdk_38_method_25_code 2 (some .boolean) #[(.ref x1), (.ref x2)] h0 ({ frames := 4, cells := 1, slots := 10, locals := 56 } : Room) (fun v h L => ∃ (b11_0 : Addr) (k11_0 : ClassId), v = some (.int 1) ∧ Fr n0 L ∧ Keep h0 h [x1] ∧ h0.size ≤ b11_0 ∧ Ovr Z k11_0 "java/lang/Object" ∧ Fld Z h x1 s1' "elementData" s4' (.ref b11_0) ∧ Exa Z h b11_0 s4' ∧ Arv Z h b11_0 k11_0 (.object "java/lang/Object") (10 : Int32) [(.ref x2), .null, .null, .null, .null, .null, .null, .null, .null, .null] .null ∧ Fld Z h x1 s1' "size" "I" (.int 1) ∧ Fld Z h x1 s6' "modCount" "I" (.int 1)) := by
  refine Ctr.of (plainFor_of_name pn_java_util_ArrayList) (fun m => ef_m41_add m x1 x2) ?_
  intro p e s m below meth c T0 hx hZ hby hml hown hnm hret hlk X0 e0
  have N0 := Fr.nil n0
  show Aw p e below _ T0 m 0 #[rv x1, rv x2] []
  refine Rch.go (fun t k => XS.aloadN X0.here hx rfl (hb hby d29_0) rfl rfl (XS.dup X0.here hx rfl (hb hby d29_1) rfl rfl k)) ?_
  show Aw p e below _ T0 m 2 #[rv x1, rv x2] [(.ref x1), (.ref x1)]
  obtain ⟨T1, X1, e1, st1⟩ := getF X0 hx hZ hown (host := "") (Or.inl (wd_112 hw)) (Via.of (wd_113 hw)) e0 P1 (g := (mkF m 2 #[rv x1, rv x2] [(.ref x1), (.ref x1)])) rfl rfl (hb hby d29_2)
  refine Rch.go st1 ?_
  show Aw p e below _ T1 m 5 #[rv x1, rv x2] [(.int 0), (.ref x1)]
  refine Rch.go (fun t k => XS.iconst X1.here hx rfl (hb hby d29_5) (XS.iadd X1.here hx rfl (hb hby d29_6) rfl k)) ?_
  show Aw p e below _ T1 m 7 #[rv x1, rv x2] [(.int 1), (.ref x1)]
  obtain ⟨T2, h2, X2, e2, W2, st2⟩ := putF X1 hx hZ hown (host := "") (Or.inl (wd_112 hw)) (Via.of (wd_113 hw)) e1 P1 P2 (Or.inl (wd_49 hw)) (wd_30 hw) (ty := .int) (by decide) rfl rfl (g := (mkF m 7 #[rv x1, rv x2] [(.int 1), (.ref x1)])) rfl rfl (hb hby d29_7)
  refine Rch.go st2 ?_
  have F2 := P1.same W2
  have N2 := Fr.snoc X2 N0 P3
  show Aw p e below _ T2 m 10 #[rv x1, rv x2] []
  refine Rch.go (fun t k => XS.aloadN X2.here hx rfl (hb hby d29_10) rfl rfl (XS.aloadN X2.here hx rfl (hb hby d29_11) rfl rfl (XS.aloadN X2.here hx rfl (hb hby d29_12) rfl rfl k))) ?_
  show Aw p e below _ T2 m 13 #[rv x1, rv x2] [(.ref x1), (.ref x2), (.ref x1)]
  have f4 := (P4.other W2 (Or.inr (slot_ne (Or.inl (wd_52 hw)) (Or.inl (wd_49 hw)) (by decide) (t := (.array (.object "java/lang/Object"))) (t' := .int) (by decide) (by decide))))
  obtain ⟨T3, X3, e3, st3⟩ := getF X2 hx hZ hown (host := "") (Or.inl (wd_51 hw)) Via.refl e2 f4 (g := (mkF m 13 #[rv x1, rv x2] [(.ref x1), (.ref x2), (.ref x1)])) rfl rfl (hb hby d29_13)
  refine Rch.go st3 ?_
  show Aw p e below _ T3 m 16 #[rv x1, rv x2] [(.ref x3), (.ref x2), (.ref x1)]
  refine Rch.go (fun t k => XS.aloadN X3.here hx rfl (hb hby d29_16) rfl rfl k) ?_
  show Aw p e below _ T3 m 17 #[rv x1, rv x2] [(.ref x1), (.ref x3), (.ref x2), (.ref x1)]
  have f6 := (P5.other W2 (Or.inr (slot_ne (Or.inl (wd_98 hw)) (Or.inl (wd_49 hw)) (by decide) (t := .int) (t' := .int) (by decide) (by decide))))
  obtain ⟨T5, X5, e5, st5⟩ := getF X3 hx hZ hown (host := "") (Or.inl (wd_97 hw)) Via.refl e3 f6 (g := (mkF m 17 #[rv x1, rv x2] [(.ref x1), (.ref x3), (.ref x2), (.ref x1)])) rfl rfl (hb hby d29_17)
  refine Rch.go st5 ?_
  show Aw p e below _ T5 m 20 #[rv x1, rv x2] [(.int 0), (.ref x3), (.ref x2), (.ref x1)]
  have f7 := (P2.wr W2)
  have f8 := (P8.wr W2)
  have z9 := (Nat.le_trans Z0 (Nat.le_of_eq W2.size.symm))
  have o10 := (O0.wr W2 P3)
  obtain ⟨v11, T11, L11, X11, Q11, st11⟩ := callPr X5 hx hZ (m42_add l Z a0 hw x1 x2 x3 kk4 h2 n0 z9 o10 P6 f7 f6 f4 P7 P3 F2 f8) e5 hown (wd_114 hw) (wd_115 hw) (wd_117 hw) (wd_116 hw) (wd_118 hw) (wd_31 hw) (by decide) (hb hby d29_20) 0 (by decide) (by decide) (by decide) (by decide) (by rw [hml]; rfl) x1 f7 [(.ref x2), (.ref x3), (.int 0)] [] rfl (lenOf pd_24 rfl) rfl (Nat.le_of_eq rfl) (Ls := #[rv x1, rv x2])
  obtain ⟨b11_0, k11_0, rfl, M11, K11, zz11_0, O11_0, F11_0, F11_1, F11_2, F11_3, F11_4⟩ := Q11
  have N11 := Fr.app N2 M11
  refine Rch.go st11 ?_
  have g_b11_0 : n0 ≤ b11_0 := Nat.le_trans z9 zz11_0
  show Aw p e below _ T11 m 23 #[rv x1, rv x2] []
  refine Rch.go (fun t k => XS.iconst X11.here hx rfl (hb hby d29_23) k) ?_
  show Aw p e below _ T11 m 24 #[rv x1, rv x2] [(.int 1)]
  refine Rch.val X11 hx (t := .boolean) hret hlk rfl (mayI (by simp)) (hb hby d29_24) (by decide) (by decide) ?_
  exact ⟨b11_0, k11_0, rfl, N11, (((Keep.refl _ _).wr W2 (Or.inl (List.mem_of_getElem? (i := 0) rfl))).trans K11 (allS (Or.inl (List.mem_of_getElem? (i := 0) rfl)) all0)), (Nat.le_trans (Nat.le_trans (Nat.le_refl _) (Nat.le_of_eq W2.size.symm)) zz11_0), O11_0, F11_0, F11_1, F11_2, F11_3, F11_4⟩
theorem wd_111 {Z a0} (hw : HW Z a0) : (Cond.code ⟨s1', "add", "(Ljava/lang/Object;)Z"⟩ jdk_38_method_25_code (2 : Nat) (Option.some FieldType.boolean)).before a0 Z = true := hw.at 111 rfl
theorem wd_110 {Z a0} (hw : HW Z a0) : (Cond.selects s1' ⟨s1', "add", "(Ljava/lang/Object;)Z"⟩ ⟨s1', "add", "(Ljava/lang/Object;)Z"⟩).before a0 Z = true := hw.at 110 rfl
theorem wd_108 {Z a0} (hw : HW Z a0) : (Cond.declares ⟨s1', "add", "(Ljava/lang/Object;)Z"⟩).before a0 Z = true := hw.at 108 rfl
theorem wd_109 {Z a0} (hw : HW Z a0) : (Cond.instanceMethod ⟨s1', "add", "(Ljava/lang/Object;)Z"⟩).before a0 Z = true := hw.at 109 rfl
theorem d26_11 : decode jdk_38_method_9_code 11 = .ok (.iconst 0, 1) := by decide +kernel
theorem ef_m49_isEmpty (m : MethodId) (x1 : Addr) : entryFrame m #[(.ref x1)] 1 = mkF m 0 #[rv x1] [] := by first | rfl | (simp [entryFrame, mkF, argsToLocals, Value.category]; done)
theorem m49_isEmpty (l : Launch) (Z : State) (a0 : Array Value) (hw : HW Z a0) (x1 : Addr) (h0 : Heap) (n0 : Nat) (Z0 : n0 ≤ h0.size) (O0 : Old Z n0 h0) (P1 : Fld Z h0 x1 s1' "size" "I" (.int 1)) :
    Ctr l Z [] (⟨s1', "isEmpty", "()Z"⟩ : MethodName) jdk_38_method_9_code 1 (some .boolean) #[(.ref x1)] h0 ({ frames := 0, cells := 0, slots := 0, locals := 0 } : Room) (fun v h L => v = some (.int 0) ∧ Fr n0 L ∧ h = h0) := by
  refine Ctr.of (plainFor_of_name pn_java_util_ArrayList) (fun m => ef_m49_isEmpty m x1) ?_
  intro p e s m below meth c T0 hx hZ hby hml hown hnm hret hlk X0 e0
  have N0 := Fr.nil n0
  show Aw p e below _ T0 m 0 #[rv x1] []
  refine Rch.go (fun t k => XS.aloadN X0.here hx rfl (hb hby d26_0) rfl rfl k) ?_
  show Aw p e below _ T0 m 1 #[rv x1] [(.ref x1)]
  obtain ⟨T1, X1, e1, st1⟩ := getF X0 hx hZ hown (host := "") (Or.inl (wd_97 hw)) Via.refl e0 P1 (g := (mkF m 1 #[rv x1] [(.ref x1)])) rfl rfl (hb hby d26_1)
  refine Rch.go st1 ?_
  show Aw p e below _ T1 m 4 #[rv x1] [(.int 1)]
  refine Rch.go (fun t k => XS.ifYes X1.here hx rfl (pc0 := 4) (pc' := 11) rfl (hb hby d26_4) rfl (by decide) (by decide) (by decide) (XS.iconst X1.here hx rfl (hb hby d26_11) k)) ?_
  show Aw p e below _ T1 m 12 #[rv x1] [(.int 0)]
  refine Rch.val X1 hx (t := .boolean) hret hlk rfl (mayI (by simp)) (hb hby d26_12) (by decide) (by decide) ?_
  try rw [e1]
  exact ⟨rfl, N0, rfl⟩
theorem d25_44 : decode jdk_56_method_3_code 44 = .ok (.aload_n 0, 1) := by decide +kernel
theorem d25_45 : decode jdk_56_method_3_code 45 = .ok (.invokeinterface 30 1, 5) := by decide +kernel
theorem wd_136 {Z a0} (hw : HW Z a0) : (Cond.methodLink s5' (30 : Nat) ⟨"java/util/Collection", "toArray", "()[Ljava/lang/Object;"⟩).before a0 Z = true := hw.at 136 rfl
theorem d34_0 : decode jdk_38_method_16_code 0 = .ok (.aload_n 0, 1) := by decide +kernel
theorem d34_1 : decode jdk_38_method_16_code 1 = .ok (.getfield 9, 3) := by decide +kernel
theorem d34_4 : decode jdk_38_method_16_code 4 = .ok (.aload_n 0, 1) := by decide +kernel
theorem d34_5 : decode jdk_38_method_16_code 5 = .ok (.getfield 48, 3) := by decide +kernel
theorem d34_8 : decode jdk_38_method_16_code 8 = .ok (.invokestatic 66, 3) := by decide +kernel
theorem wd_144 {Z a0} (hw : HW Z a0) : (Cond.methodLink s1' (66 : Nat) ⟨"java/util/Arrays", "copyOf", "([Ljava/lang/Object;I)[Ljava/lang/Object;"⟩).before a0 Z = true := hw.at 144 rfl
theorem d35_0 : decode jdk_65_method_119_code 0 = .ok (.aload_n 0, 1) := by decide +kernel
theorem d35_1 : decode jdk_65_method_119_code 1 = .ok (.iload_n 1, 1) := by decide +kernel
theorem d35_2 : decode jdk_65_method_119_code 2 = .ok (.aload_n 0, 1) := by decide +kernel
theorem d35_3 : decode jdk_65_method_119_code 3 = .ok (.invokevirtual 86, 3) := by decide +kernel
theorem wd_148 {Z a0} (hw : HW Z a0) : (Cond.methodLink "java/util/Arrays" (86 : Nat) ⟨"java/lang/Object", "getClass", "()Ljava/lang/Class;"⟩).before a0 Z = true := hw.at 148 rfl
theorem wd_149 {Z a0} (hw : HW Z a0) : (Cond.declares ⟨"java/lang/Object", "getClass", "()Ljava/lang/Class;"⟩).before a0 Z = true := hw.at 149 rfl
theorem wd_151 {Z a0} (hw : HW Z a0) : (Cond.selects s4' ⟨"java/lang/Object", "getClass", "()Ljava/lang/Class;"⟩ ⟨"java/lang/Object", "getClass", "()Ljava/lang/Class;"⟩).before a0 Z = true := hw.at 151 rfl
theorem wd_150 {Z a0} (hw : HW Z a0) : (Cond.instanceMethod ⟨"java/lang/Object", "getClass", "()Ljava/lang/Class;"⟩).before a0 Z = true := hw.at 150 rfl
theorem wd_152 {Z a0} (hw : HW Z a0) : (Cond.native ⟨"java/lang/Object", "getClass", "()Ljava/lang/Class;"⟩).before a0 Z = true := hw.at 152 rfl
theorem d35_6 : decode jdk_65_method_119_code 6 = .ok (.invokestatic 300, 3) := by decide +kernel
theorem wd_154 {Z a0} (hw : HW Z a0) : (Cond.methodLink "java/util/Arrays" (300 : Nat) ⟨"java/util/Arrays", "copyOf", "([Ljava/lang/Object;ILjava/lang/Class;)[Ljava/lang/Object;"⟩).before a0 Z = true := hw.at 154 rfl
theorem d36_0 : decode jdk_65_method_120_code 0 = .ok (.aload_n 2, 1) := by decide +kernel
theorem d36_1 : decode jdk_65_method_120_code 1 = .ok (.ldc 110, 2) := by decide +kernel
theorem wd_157 {Z a0} (hw : HW Z a0) : (Cond.classLink "java/util/Arrays" (110 : Nat) s4').before a0 Z = true := hw.at 157 rfl
theorem d36_3 : decode jdk_65_method_120_code 3 = .ok (.if_acmp .ne 10, 3) := by decide +kernel
theorem d36_6 : decode jdk_65_method_120_code 6 = .ok (.iload_n 1, 1) := by decide +kernel
theorem d36_7 : decode jdk_65_method_120_code 7 = .ok (.anewarray 2, 3) := by decide +kernel
theorem wd_158 {Z a0} (hw : HW Z a0) : (Cond.classLink "java/util/Arrays" (2 : Nat) "java/lang/Object").before a0 Z = true := hw.at 158 rfl
theorem d36_10 : decode jdk_65_method_120_code 10 = .ok (.goto 14, 3) := by decide +kernel
theorem d36_24 : decode jdk_65_method_120_code 24 = .ok (.astore_n 3, 1) := by decide +kernel
theorem d36_25 : decode jdk_65_method_120_code 25 = .ok (.aload_n 0, 1) := by decide +kernel
theorem d36_26 : decode jdk_65_method_120_code 26 = .ok (.iconst 0, 1) := by decide +kernel
theorem d36_27 : decode jdk_65_method_120_code 27 = .ok (.aload_n 3, 1) := by decide +kernel
theorem d36_28 : decode jdk_65_method_120_code 28 = .ok (.iconst 0, 1) := by decide +kernel
theorem d36_29 : decode jdk_65_method_120_code 29 = .ok (.aload_n 0, 1) := by decide +kernel
theorem d36_30 : decode jdk_65_method_120_code 30 = .ok (.arraylength, 1) := by decide +kernel
theorem d36_31 : decode jdk_65_method_120_code 31 = .ok (.iload_n 1, 1) := by decide +kernel
theorem d36_32 : decode jdk_65_method_120_code 32 = .ok (.invokestatic 304, 3) := by decide +kernel
theorem wd_159 {Z a0} (hw : HW Z a0) : (Cond.methodLink "java/util/Arrays" (304 : Nat) ⟨"java/lang/Math", "min", "(II)I"⟩).before a0 Z = true := hw.at 159 rfl
theorem d37_0 : decode jdk_29_method_69_code 0 = .ok (.iload_n 0, 1) := by decide +kernel
theorem d37_1 : decode jdk_29_method_69_code 1 = .ok (.iload_n 1, 1) := by decide +kernel
theorem d37_2 : decode jdk_29_method_69_code 2 = .ok (.if_icmp .gt 7, 3) := by decide +kernel
theorem d37_9 : decode jdk_29_method_69_code 9 = .ok (.iload_n 1, 1) := by decide +kernel
theorem d37_10 : decode jdk_29_method_69_code 10 = .ok (.ireturn, 1) := by decide +kernel
theorem pn_java_lang_Math_37 : plainFor (⟨"java/lang/Math", "min", "(II)I"⟩ : MethodName) = true := by decide +kernel
theorem ef_m53_min (m : MethodId) : entryFrame m #[(.int 10), (.int 1)] 2 = mkF m 0 #[iv 10, iv 1] [] := by first | rfl | (simp [entryFrame, mkF, argsToLocals, Value.category]; done)
theorem m53_min (l : Launch) (Z : State) (a0 : Array Value) (hw : HW Z a0)  (h0 : Heap) (n0 : Nat) (Z0 : n0 ≤ h0.size) (O0 : Old Z n0 h0) :
    Ctr l Z [] (⟨"java/lang/Math", "min", "(II)I"⟩ : MethodName) jdk_29_method_69_code 2 (some .int) #[(.int 10), (.int 1)] h0 ({ frames := 0, cells := 0, slots := 0, locals := 0 } : Room) (fun v h L => v = some (.int 1) ∧ Fr n0 L ∧ h = h0) := by
  refine Ctr.of pn_java_lang_Math_37 (fun m => ef_m53_min m ) ?_
  intro p e s m below meth c T0 hx hZ hby hml hown hnm hret hlk X0 e0
  have N0 := Fr.nil n0
  show Aw p e below _ T0 m 0 #[iv 10, iv 1] []
  refine Rch.go (fun t k => XS.iloadN X0.here hx rfl (hb hby d37_0) rfl  (XS.iloadN X0.here hx rfl (hb hby d37_1) rfl  (XS.icmpYes X0.here hx rfl (pc0 := 2) (pc' := 9) rfl (hb hby d37_2) rfl (by decide) (by decide) (by decide) (XS.iloadN X0.here hx rfl (hb hby d37_9) rfl  k)))) ?_
  show Aw p e below _ T0 m 10 #[iv 10, iv 1] [(.int 1)]
  refine Rch.val X0 hx (t := .int) hret hlk rfl (mayI (by simp)) (hb hby d37_10) (by decide) (by decide) ?_
  try rw [e0]
  exact ⟨rfl, N0, rfl⟩
theorem wd_161 {Z a0} (hw : HW Z a0) : (Cond.code ⟨"java/lang/Math", "min", "(II)I"⟩ jdk_29_method_69_code (2 : Nat) (Option.some FieldType.int)).before a0 Z = true := hw.at 161 rfl
theorem wd_160 {Z a0} (hw : HW Z a0) : (Cond.static ⟨"java/lang/Math", "min", "(II)I"⟩).before a0 Z = true := hw.at 160 rfl
theorem d36_35 : decode jdk_65_method_120_code 35 = .ok (.invokestatic 150, 3) := by decide +kernel
theorem wd_162 {Z a0} (hw : HW Z a0) : (Cond.methodLink "java/util/Arrays" (150 : Nat) ⟨"java/lang/System", "arraycopy", "(Ljava/lang/Object;ILjava/lang/Object;II)V"⟩).before a0 Z = true := hw.at 162 rfl
theorem wd_165 {Z a0} (hw : HW Z a0) : (Cond.native ⟨"java/lang/System", "arraycopy", "(Ljava/lang/Object;ILjava/lang/Object;II)V"⟩).before a0 Z = true := hw.at 165 rfl
theorem wd_163 {Z a0} (hw : HW Z a0) : (Cond.static ⟨"java/lang/System", "arraycopy", "(Ljava/lang/Object;ILjava/lang/Object;II)V"⟩).before a0 Z = true := hw.at 163 rfl
theorem wd_164 {Z a0} (hw : HW Z a0) : (Cond.initialized "java/lang/System").before a0 Z = true := hw.at 164 rfl
theorem d36_38 : decode jdk_65_method_120_code 38 = .ok (.aload_n 3, 1) := by decide +kernel
theorem d36_39 : decode jdk_65_method_120_code 39 = .ok (.areturn, 1) := by decide +kernel
theorem pn_java_util_Arrays : plainName "java/util/Arrays" = true := by first | (simp [plainName, overriddenIn]; done) | decide +kernel
theorem ef_m52_copyOf (m : MethodId) (x1 x2 : Addr) : entryFrame m #[(.ref x1), (.int 1), (.ref x2)] 4 = mkF m 0 #[rv x1, iv 1, rv x2, uu] [] := by first | rfl | (simp [entryFrame, mkF, argsToLocals, Value.category]; done)
theorem m52_copyOf (l : Launch) (Z : State) (a0 : Array Value) (hw : HW Z a0) (x1 x2 : Addr) (kk3 : ClassId) (x4 : Addr) (h0 : Heap) (n0 : Nat) (Z0 : n0 ≤ h0.size) (O0 : Old Z n0 h0) (P1 : MirA Z s4' x2) (P2 : Ovr Z kk3 "java/lang/Object") (P3 : Arv Z h0 x1 kk3 (.object "java/lang/Object") (10 : Int32) [(.ref x4), .null, .null, .null, .null, .null, .null, .null, .null, .null] .null) (P4 : Exa Z h0 x4 s2') :
    Ctr l Z [] (⟨"java/util/Arrays", "copyOf", "([Ljava/lang/Object;ILjava/lang/Class;)[Ljava/lang/Object;"⟩ : MethodName) jdk_65_method_120_code 4 (some (.array (.object "java/lang/Object"))) #[(.ref x1), (.int 1), (.ref x2)] h0 ({ frames := 1, cells := 1, slots := 1, locals := 18 } : Room) (fun v h L => ∃ (b2 : Addr) (k2 : ClassId), v = some (.ref b2) ∧ Fr n0 L ∧ Keep h0 h [] ∧ h0.size ≤ b2 ∧ Ovr Z k2 "java/lang/Object" ∧ Exa Z h b2 s4' ∧ Arv Z h b2 k2 (.object "java/lang/Object") (1 : Int32) [(.ref x4)] .null) := by
  refine Ctr.of (plainFor_of_name pn_java_util_Arrays) (fun m => ef_m52_copyOf m x1 x2) ?_
  intro p e s m below meth c T0 hx hZ hby hml hown hnm hret hlk X0 e0
  have N0 := Fr.nil n0
  show Aw p e below _ T0 m 0 #[rv x1, iv 1, rv x2, uu] []
  refine Rch.go (fun t k => XS.aloadN X0.here hx rfl (hb hby d36_0) rfl rfl k) ?_
  show Aw p e below _ T0 m 1 #[rv x1, iv 1, rv x2, uu] [(.ref x2)]
  obtain ⟨T1, X1, e1, st1⟩ := own_ldcM X0 hx hZ hown (wd_157 hw) P1 e0 (g := (mkF m 1 #[rv x1, iv 1, rv x2, uu] [(.ref x2)])) rfl (hb hby d36_1)
  refine Rch.go st1 ?_
  show Aw p e below _ T1 m 3 #[rv x1, iv 1, rv x2, uu] [(.ref x2), (.ref x2)]
  refine Rch.go (fun t k => acmp X1 hx rfl (x := (.ref x2)) (y := (.ref x2)) rfl rfl (pc0 := 3) (pc' := 6) (same := true) rfl (hb hby d36_3) rfl (decide_eq_true rfl) (by decide) (by decide) (XS.iloadN X1.here hx rfl (hb hby d36_6) rfl  k)) ?_
  show Aw p e below _ T1 m 7 #[rv x1, iv 1, rv x2, uu] [(.int 1)]
  obtain ⟨T2, h2, k2, X2, e2, E2, A2, B2, O2, st2⟩ := newRE X1 hx hZ hown (wd_158 hw) (wd_134 hw) e1 (g := (mkF m 7 #[rv x1, iv 1, rv x2, uu] [(.int 1)])) rfl (hb hby d36_7) rfl (by decide) (cap := 1) (by decide) (by decide) (by decide) (by decide) (ad := s4') (by decide +kernel)
  obtain ⟨b2, g2⟩ : ∃ z, z = h0.size := ⟨_, rfl⟩
  rw [← g2] at A2 B2 st2
  refine Rch.go st2 ?_
  have g_b2 : n0 ≤ b2 := Nat.le_trans Z0 (Nat.le_of_eq g2.symm)
  have V2 : Arv Z h2 b2 k2 (.object "java/lang/Object") (1 : Int32) [.null] .null := (Arv.new A2 (by decide)).pad (pad_rep [] .null 1)
  show Aw p e below _ T2 m 10 #[rv x1, iv 1, rv x2, uu] [(.ref b2)]
  refine Rch.go (fun t k => XS.goto X2.here hx rfl (pc0 := 10) (pc' := 24) rfl (hb hby d36_10) (by decide) (by decide) (XS.astoreN X2.here hx rfl (hb hby d36_24) rfl rfl (l' := #[rv x1, iv 1, rv x2, rv b2]) rfl (XS.aloadN X2.here hx rfl (hb hby d36_25) rfl rfl (XS.iconst X2.here hx rfl (hb hby d36_26) (XS.aloadN X2.here hx rfl (hb hby d36_27) rfl rfl (XS.iconst X2.here hx rfl (hb hby d36_28) (XS.aloadN X2.here hx rfl (hb hby d36_29) rfl rfl k))))))) ?_
  show Aw p e below _ T2 m 30 #[rv x1, iv 1, rv x2, rv b2] [(.ref x1), (.int 0), (.ref b2), (.int 0), (.ref x1)]
  have f3 := (P3.ext E2)
  obtain ⟨c4, r4, q4, s4, u4, H4, G4⟩ := id f3
  refine Rch.go (fun t k => X2.arraylength hx (by rw [e2]; exact r4.1) (State.isArrayOf_alike hZ.alike r4.2.1) (g := (mkF m 30 #[rv x1, iv 1, rv x2, rv b2] [(.ref x1), (.int 0), (.ref b2), (.int 0), (.ref x1)])) rfl rfl (hb hby d36_30) t (by rw [len_of s4 u4]; exact k)) ?_
  show Aw p e below _ T2 m 31 #[rv x1, iv 1, rv x2, rv b2] [(.int 10), (.int 0), (.ref b2), (.int 0), (.ref x1)]
  refine Rch.go (fun t k => XS.iloadN X2.here hx rfl (hb hby d36_31) rfl  k) ?_
  show Aw p e below _ T2 m 32 #[rv x1, iv 1, rv x2, rv b2] [(.int 1), (.int 10), (.int 0), (.ref b2), (.int 0), (.ref x1)]
  have z5 := (Nat.le_trans Z0 E2.1)
  have o6 := (O0.ext E2)
  obtain ⟨v7, T7, L7, X7, Q7, st7⟩ := callSt X2 hx hZ (m53_min l Z a0 hw  h2 n0 z5 o6 ) e2 hown (wd_159 hw) (wd_160 hw) (wd_161 hw) (wd_131 hw) (by decide) (hb hby d36_32) 4 (by decide) (by decide) (by decide) (by decide) (by rw [hml]; rfl) [(.int 10), (.int 1)] [(.int 0), (.ref b2), (.int 0), (.ref x1)] rfl (lenOf pd_21 rfl) rfl (Nat.le_of_eq rfl) (Ls := #[rv x1, iv 1, rv x2, rv b2])
  obtain ⟨rfl, M7, e7⟩ := Q7
  have N7 := Fr.app N0 M7
  refine Rch.go st7 ?_
  show Aw p e below _ T7 m 35 #[rv x1, iv 1, rv x2, rv b2] [(.int 1), (.int 0), (.ref b2), (.int 0), (.ref x1)]
  have f9 := (P4.ext E2)
  obtain ⟨c10, r10, q10, s10, u10, H10, G10⟩ := id V2
  obtain ⟨T8, h8, L8, X8, e8, N8, K8, V8, st8⟩ := cpA X7 hx hZ hown (wd_162 hw) (wd_165 hw) (wd_163 hw) (wd_164 hw) e7 f3 V2 (us := [(.ref x4)]) (Or.inr ⟨rfl, rfl, ⟨(Sto.ofV r10 q10 O2 (Ins.of_exa f9 (wd_135 hw))), trivial⟩⟩) (sp := (0 : Int32)) (dp := (0 : Int32)) (nn := (1 : Int32)) (by decide) (by decide) (by decide) (by decide) (by decide) rfl (by decide) N7 g_b2 (g := (mkF m 35 #[rv x1, iv 1, rv x2, rv b2] [(.int 1), (.int 0), (.ref b2), (.int 0), (.ref x1)])) rfl (by rw [hml]; rfl) rfl (hb hby d36_35) (by decide) (W := 0) (by show 2 * 0 + _ ≤ _; exact Nat.le_of_eq rfl) (by decide)
  refine Rch.go st8 ?_
  have U8 : Arv Z h8 b2 k2 (.object "java/lang/Object") (1 : Int32) [(.ref x4)] .null := V8
  show Aw p e below _ T8 m 38 #[rv x1, iv 1, rv x2, rv b2] []
  refine Rch.go (fun t k => XS.aloadN X8.here hx rfl (hb hby d36_38) rfl rfl k) ?_
  show Aw p e below _ T8 m 39 #[rv x1, iv 1, rv x2, rv b2] [(.ref b2)]
  have f11 := (B2.keep K8)
  refine Rch.val X8 hx (t := (.array (.object "java/lang/Object"))) hret hlk rfl (Or.inr (Or.inr (Or.inr (Or.inr ⟨rfl, rfl, rfl⟩)))) (hb hby d36_39) (by decide) (by decide) ?_
  try rw [e8]
  exact ⟨b2, k2, rfl, N8, (((Keep.refl _ _).ext E2).trans K8 (allS (Or.inr (Nat.le_trans (Nat.le_refl _) (Nat.le_of_eq g2.symm))) all0)), (Nat.le_trans (Nat.le_refl _) (Nat.le_of_eq g2.symm)), O2, f11, U8⟩
theorem wd_156 {Z a0} (hw : HW Z a0) : (Cond.code ⟨"java/util/Arrays", "copyOf", "([Ljava/lang/Object;ILjava/lang/Class;)[Ljava/lang/Object;"⟩ jdk_65_method_120_code (4 : Nat) (Option.some (FieldType.array (FieldType.object "java/lang/Object")))).before a0 Z = true := hw.at 156 rfl
theorem wd_146 {Z a0} (hw : HW Z a0) : (Cond.initialized "java/util/Arrays").before a0 Z = true := hw.at 146 rfl
theorem pd_25 : parseMethodDescriptor "([Ljava/lang/Object;ILjava/lang/Class;)[Ljava/lang/Object;" = some ⟨[(.array (.object "java/lang/Object")), .int, (.object "java/lang/Class")], some (.array (.object "java/lang/Object"))⟩ := by decide +kernel
theorem wd_155 {Z a0} (hw : HW Z a0) : (Cond.static ⟨"java/util/Arrays", "copyOf", "([Ljava/lang/Object;ILjava/lang/Class;)[Ljava/lang/Object;"⟩).before a0 Z = true := hw.at 155 rfl
theorem d35_9 : decode jdk_65_method_119_code 9 = .ok (.areturn, 1) := by decide +kernel
theorem ef_m51_copyOf (m : MethodId) (x1 : Addr) : entryFrame m #[(.ref x1), (.int 1)] 2 = mkF m 0 #[rv x1, iv 1] [] := by first | rfl | (simp [entryFrame, mkF, argsToLocals, Value.category]; done)
theorem m51_copyOf (l : Launch) (Z : State) (a0 : Array Value) (hw : HW Z a0) (x1 x2 : Addr) (kk3 : ClassId) (x4 : Addr) (h0 : Heap) (n0 : Nat) (Z0 : n0 ≤ h0.size) (O0 : Old Z n0 h0) (P1 : Exa Z h0 x1 s4') (P2 : MirA Z s4' x2) (P3 : Ovr Z kk3 "java/lang/Object") (P4 : Arv Z h0 x1 kk3 (.object "java/lang/Object") (10 : Int32) [(.ref x4), .null, .null, .null, .null, .null, .null, .null, .null, .null] .null) (P5 : Exa Z h0 x4 s2') :
    Ctr l Z [] (⟨"java/util/Arrays", "copyOf", "([Ljava/lang/Object;I)[Ljava/lang/Object;"⟩ : MethodName) jdk_65_method_119_code 2 (some (.array (.object "java/lang/Object"))) #[(.ref x1), (.int 1)] h0 ({ frames := 2, cells := 1, slots := 1, locals := 33 } : Room) (fun v h L => ∃ (b2_0 : Addr) (k2_0 : ClassId), v = some (.ref b2_0) ∧ Fr n0 L ∧ Keep h0 h [] ∧ h0.size ≤ b2_0 ∧ Ovr Z k2_0 "java/lang/Object" ∧ Exa Z h b2_0 s4' ∧ Arv Z h b2_0 k2_0 (.object "java/lang/Object") (1 : Int32) [(.ref x4)] .null) := by
  refine Ctr.of (plainFor_of_name pn_java_util_Arrays) (fun m => ef_m51_copyOf m x1) ?_
  intro p e s m below meth c T0 hx hZ hby hml hown hnm hret hlk X0 e0
  have N0 := Fr.nil n0
  show Aw p e below _ T0 m 0 #[rv x1, iv 1] []
  refine Rch.go (fun t k => XS.aloadN X0.here hx rfl (hb hby d35_0) rfl rfl (XS.iloadN X0.here hx rfl (hb hby d35_1) rfl  (XS.aloadN X0.here hx rfl (hb hby d35_2) rfl rfl k))) ?_
  show Aw p e below _ T0 m 3 #[rv x1, iv 1] [(.ref x1), (.int 1), (.ref x1)]
  obtain ⟨T1, X1, e1, st1⟩ := own_gcls X0 hx hZ hown (wd_148 hw) (wd_149 hw) (wd_151 hw) (wd_150 hw) (wd_152 hw) e0 P1 P2 (g := (mkF m 3 #[rv x1, iv 1] [(.ref x1), (.int 1), (.ref x1)])) rfl (by rw [hml]; rfl) rfl (hb hby d35_3) (by decide) (W := 2) (by show 2 * 0 + _ ≤ _; exact Nat.le_of_eq rfl) (by decide)
  refine Rch.go st1 ?_
  show Aw p e below _ T1 m 6 #[rv x1, iv 1] [(.ref x2), (.int 1), (.ref x1)]
  obtain ⟨v2, T2, L2, X2, Q2, st2⟩ := callSt X1 hx hZ (m52_copyOf l Z a0 hw x1 x2 kk3 x4 h0 n0 Z0 O0 P2 P3 P4 P5) e1 hown (wd_154 hw) (wd_155 hw) (wd_156 hw) (wd_146 hw) (by decide) (hb hby d35_6) 0 (by decide) (by decide) (by decide) (by decide) (by rw [hml]; rfl) [(.ref x1), (.int 1), (.ref x2)] [] rfl (lenOf pd_25 rfl) rfl (Nat.le_of_eq rfl) (Ls := #[rv x1, iv 1])
  obtain ⟨b2_0, k2_0, rfl, M2, K2, zz2_0, O2_0, F2_0, F2_1⟩ := Q2
  have N2 := Fr.app N0 M2
  refine Rch.go st2 ?_
  have g_b2_0 : n0 ≤ b2_0 := Nat.le_trans Z0 zz2_0
  show Aw p e below _ T2 m 9 #[rv x1, iv 1] [(.ref b2_0)]
  refine Rch.val X2 hx (t := (.array (.object "java/lang/Object"))) hret hlk rfl (Or.inr (Or.inr (Or.inr (Or.inr ⟨rfl, rfl, rfl⟩)))) (hb hby d35_9) (by decide) (by decide) ?_
  exact ⟨b2_0, k2_0, rfl, N2, ((Keep.refl _ _).trans K2 all0), (Nat.le_trans (Nat.le_refl _) zz2_0), O2_0, F2_0, F2_1⟩
theorem wd_147 {Z a0} (hw : HW Z a0) : (Cond.code ⟨"java/util/Arrays", "copyOf", "([Ljava/lang/Object;I)[Ljava/lang/Object;"⟩ jdk_65_method_119_code (2 : Nat) (Option.some (FieldType.array (FieldType.object "java/lang/Object")))).before a0 Z = true := hw.at 147 rfl
theorem pd_26 : parseMethodDescriptor "([Ljava/lang/Object;I)[Ljava/lang/Object;" = some ⟨[(.array (.object "java/lang/Object")), .int], some (.array (.object "java/lang/Object"))⟩ := by decide +kernel
theorem wd_145 {Z a0} (hw : HW Z a0) : (Cond.static ⟨"java/util/Arrays", "copyOf", "([Ljava/lang/Object;I)[Ljava/lang/Object;"⟩).before a0 Z = true := hw.at 145 rfl
theorem d34_11 : decode jdk_38_method_16_code 11 = .ok (.areturn, 1) := by decide +kernel
theorem ef_m50_toArray (m : MethodId) (x1 : Addr) : entryFrame m #[(.ref x1)] 1 = mkF m 0 #[rv x1] [] := by first | rfl | (simp [entryFrame, mkF, argsToLocals, Value.category]; done)
theorem m50_toArray (l : Launch) (Z : State) (a0 : Array Value) (hw : HW Z a0) (x1 x2 x3 : Addr) (kk4 : ClassId) (x5 : Addr) (h0 : Heap) (n0 : Nat) (Z0 : n0 ≤ h0.size) (O0 : Old Z n0 h0) (P1 : Fld Z h0 x1 s1' "elementData" s4' (.ref x2)) (P2 : Fld Z h0 x1 s1' "size" "I" (.int 1)) (P3 : Exa Z h0 x2 s4') (P4 : MirA Z s4' x3) (P5 : Ovr Z kk4 "java/lang/Object") (P6 : Arv Z h0 x2 kk4 (.object "java/lang/Object") (10 : Int32) [(.ref x5), .null, .null, .null, .null, .null, .null, .null, .null, .null] .null) (P7 : Exa Z h0 x5 s2') :
    Ctr l Z [] (⟨s1', "toArray", "()[Ljava/lang/Object;"⟩ : MethodName) jdk_38_method_16_code 1 (some (.array (.object "java/lang/Object"))) #[(.ref x1)] h0 ({ frames := 3, cells := 1, slots := 1, locals := 46 } : Room) (fun v h L => ∃ (b3_0 : Addr) (k3_0 : ClassId), v = some (.ref b3_0) ∧ Fr n0 L ∧ Keep h0 h [] ∧ h0.size ≤ b3_0 ∧ Ovr Z k3_0 "java/lang/Object" ∧ Exa Z h b3_0 s4' ∧ Arv Z h b3_0 k3_0 (.object "java/lang/Object") (1 : Int32) [(.ref x5)] .null) := by
  refine Ctr.of (plainFor_of_name pn_java_util_ArrayList) (fun m => ef_m50_toArray m x1) ?_
  intro p e s m below meth c T0 hx hZ hby hml hown hnm hret hlk X0 e0
  have N0 := Fr.nil n0
  show Aw p e below _ T0 m 0 #[rv x1] []
  refine Rch.go (fun t k => XS.aloadN X0.here hx rfl (hb hby d34_0) rfl rfl k) ?_
  show Aw p e below _ T0 m 1 #[rv x1] [(.ref x1)]
  obtain ⟨T1, X1, e1, st1⟩ := getF X0 hx hZ hown (host := "") (Or.inl (wd_51 hw)) Via.refl e0 P1 (g := (mkF m 1 #[rv x1] [(.ref x1)])) rfl rfl (hb hby d34_1)
  refine Rch.go st1 ?_
  show Aw p e below _ T1 m 4 #[rv x1] [(.ref x2)]
  refine Rch.go (fun t k => XS.aloadN X1.here hx rfl (hb hby d34_4) rfl rfl k) ?_
  show Aw p e below _ T1 m 5 #[rv x1] [(.ref x1), (.ref x2)]
  obtain ⟨T2, X2, e2, st2⟩ := getF X1 hx hZ hown (host := "") (Or.inl (wd_97 hw)) Via.refl e1 P2 (g := (mkF m 5 #[rv x1] [(.ref x1), (.ref x2)])) rfl rfl (hb hby d34_5)
  refine Rch.go st2 ?_
  show Aw p e below _ T2 m 8 #[rv x1] [(.int 1), (.ref x2)]
  obtain ⟨v3, T3, L3, X3, Q3, st3⟩ := callSt X2 hx hZ (m51_copyOf l Z a0 hw x2 x3 kk4 x5 h0 n0 Z0 O0 P3 P4 P5 P6 P7) e2 hown (wd_144 hw) (wd_145 hw) (wd_147 hw) (wd_146 hw) (by decide) (hb hby d34_8) 0 (by decide) (by decide) (by decide) (by decide) (by rw [hml]; rfl) [(.ref x2), (.int 1)] [] rfl (lenOf pd_26 rfl) rfl (Nat.le_of_eq rfl) (Ls := #[rv x1])
  obtain ⟨b3_0, k3_0, rfl, M3, K3, zz3_0, O3_0, F3_0, F3_1⟩ := Q3
  have N3 := Fr.app N0 M3
  refine Rch.go st3 ?_
  have g_b3_0 : n0 ≤ b3_0 := Nat.le_trans Z0 zz3_0
  show Aw p e below _ T3 m 11 #[rv x1] [(.ref b3_0)]
  refine Rch.val X3 hx (t := (.array (.object "java/lang/Object"))) hret hlk rfl (Or.inr (Or.inr (Or.inr (Or.inr ⟨rfl, rfl, rfl⟩)))) (hb hby d34_11) (by decide) (by decide) ?_
  exact ⟨b3_0, k3_0, rfl, N3, ((Keep.refl _ _).trans K3 all0), (Nat.le_trans (Nat.le_refl _) zz3_0), O3_0, F3_0, F3_1⟩
theorem wd_143 {Z a0} (hw : HW Z a0) : (Cond.code ⟨s1', "toArray", "()[Ljava/lang/Object;"⟩ jdk_38_method_16_code (1 : Nat) (Option.some (FieldType.array (FieldType.object "java/lang/Object")))).before a0 Z = true := hw.at 143 rfl
theorem wd_137 {Z a0} (hw : HW Z a0) : (Cond.declares ⟨"java/util/Collection", "toArray", "()[Ljava/lang/Object;"⟩).before a0 Z = true := hw.at 137 rfl
theorem wd_138 {Z a0} (hw : HW Z a0) : (Cond.interfaceMethod "java/util/Collection" "java/util/Collection" "toArray" "()[Ljava/lang/Object;").before a0 Z = true := hw.at 138 rfl
theorem wd_139 {Z a0} (hw : HW Z a0) : (Cond.selects s1' ⟨"java/util/Collection", "toArray", "()[Ljava/lang/Object;"⟩ ⟨s1', "toArray", "()[Ljava/lang/Object;"⟩).before a0 Z = true := hw.at 139 rfl
theorem wd_140 {Z a0} (hw : HW Z a0) : (Cond.instanceMethod ⟨s1', "toArray", "()[Ljava/lang/Object;"⟩).before a0 Z = true := hw.at 140 rfl
theorem wd_141 {Z a0} (hw : HW Z a0) : (Cond.publicMethod ⟨s1', "toArray", "()[Ljava/lang/Object;"⟩).before a0 Z = true := hw.at 141 rfl
theorem wd_142 {Z a0} (hw : HW Z a0) : (Cond.unhidden s1' "toArray" "()[Ljava/lang/Object;").before a0 Z = true := hw.at 142 rfl
theorem d25_50 : decode jdk_56_method_3_code 50 = .ok (.invokestatic 34, 3) := by decide +kernel
theorem wd_166 {Z a0} (hw : HW Z a0) : (Cond.methodLink s5' (34 : Nat) ⟨"java/util/List", "of", "([Ljava/lang/Object;)Ljava/util/List;"⟩).before a0 Z = true := hw.at 166 rfl
theorem d38_0 : decode jdk_40_method_47_code 0 = .ok (.aload_n 0, 1) := by decide +kernel
theorem d38_1 : decode jdk_40_method_47_code 1 = .ok (.arraylength, 1) := by decide +kernel
theorem d38_2 : decode jdk_40_method_47_code 2 = .ok (.tableswitch 57 0 2 #[26, 32, 43], 26) := by decide +kernel
theorem d38_34 : decode jdk_40_method_47_code 34 = .ok (.new 96, 3) := by decide +kernel
theorem wd_169 {Z a0} (hw : HW Z a0) : (Cond.classLink "java/util/List" (96 : Nat) s3').before a0 Z = true := hw.at 169 rfl
theorem wd_194 {Z a0} (hw : HW Z a0) : (Cond.laysFinal s3' s3' "e0" "Ljava/lang/Object;").before a0 Z = true := hw.at 194 rfl
theorem wd_197 {Z a0} (hw : HW Z a0) : (Cond.laysFinal s3' s3' "e1" "Ljava/lang/Object;").before a0 Z = true := hw.at 197 rfl
theorem d38_37 : decode jdk_40_method_47_code 37 = .ok (.dup, 1) := by decide +kernel
theorem d38_38 : decode jdk_40_method_47_code 38 = .ok (.aload_n 0, 1) := by decide +kernel
theorem d38_39 : decode jdk_40_method_47_code 39 = .ok (.iconst 0, 1) := by decide +kernel
theorem d38_40 : decode jdk_40_method_47_code 40 = .ok (.aaload, 1) := by decide +kernel
theorem d38_41 : decode jdk_40_method_47_code 41 = .ok (.invokespecial 98, 3) := by decide +kernel
theorem wd_172 {Z a0} (hw : HW Z a0) : (Cond.methodLink "java/util/List" (98 : Nat) ⟨s3', "<init>", "(Ljava/lang/Object;)V"⟩).before a0 Z = true := hw.at 172 rfl
theorem d39_0 : decode jdk_44_method_1_code 0 = .ok (.aload_n 0, 1) := by decide +kernel
theorem d39_1 : decode jdk_44_method_1_code 1 = .ok (.invokespecial 1, 3) := by decide +kernel
theorem wd_176 {Z a0} (hw : HW Z a0) : (Cond.methodLink s3' (1 : Nat) ⟨"java/util/ImmutableCollections$AbstractImmutableList", "<init>", "()V"⟩).before a0 Z = true := hw.at 176 rfl
theorem d40_0 : decode jdk_46_method_1_code 0 = .ok (.aload_n 0, 1) := by decide +kernel
theorem d40_1 : decode jdk_46_method_1_code 1 = .ok (.invokespecial 1, 3) := by decide +kernel
theorem wd_182 {Z a0} (hw : HW Z a0) : (Cond.methodLink "java/util/ImmutableCollections$AbstractImmutableList" (1 : Nat) ⟨"java/util/ImmutableCollections$AbstractImmutableCollection", "<init>", "()V"⟩).before a0 Z = true := hw.at 182 rfl
theorem d41_0 : decode jdk_47_method_1_code 0 = .ok (.aload_n 0, 1) := by decide +kernel
theorem d41_1 : decode jdk_47_method_1_code 1 = .ok (.invokespecial 1, 3) := by decide +kernel
theorem wd_188 {Z a0} (hw : HW Z a0) : (Cond.methodLink "java/util/ImmutableCollections$AbstractImmutableCollection" (1 : Nat) ⟨"java/util/AbstractCollection", "<init>", "()V"⟩).before a0 Z = true := hw.at 188 rfl
theorem d41_4 : decode jdk_47_method_1_code 4 = .ok (.return_, 1) := by decide +kernel
theorem pn_java_util_ImmutableCollections_AbstractImmutableCollection : plainName "java/util/ImmutableCollections$AbstractImmutableCollection" = true := by first | (simp [plainName, overriddenIn]; done) | decide +kernel
theorem ef_m57_init (m : MethodId) (x1 : Addr) : entryFrame m #[(.ref x1)] 1 = mkF m 0 #[rv x1] [] := by first | rfl | (simp [entryFrame, mkF, argsToLocals, Value.category]; done)
theorem m57_init (l : Launch) (Z : State) (a0 : Array Value) (hw : HW Z a0) (x1 : Addr) (h0 : Heap) (n0 : Nat) (Z0 : n0 ≤ h0.size) (O0 : Old Z n0 h0) :
    Ctr l Z [] (⟨"java/util/ImmutableCollections$AbstractImmutableCollection", "<init>", "()V"⟩ : MethodName) jdk_47_method_1_code 1 none #[(.ref x1)] h0 ({ frames := 2, cells := 0, slots := 0, locals := 24 } : Room) (fun v h L => v = none ∧ Fr n0 L ∧ h = h0) := by
  refine Ctr.of (plainFor_of_name pn_java_util_ImmutableCollections_AbstractImmutableCollection) (fun m => ef_m57_init m x1) ?_
  intro p e s m below meth c T0 hx hZ hby hml hown hnm hret hlk X0 e0
  have N0 := Fr.nil n0
  show Aw p e below _ T0 m 0 #[rv x1] []
  refine Rch.go (fun t k => XS.aloadN X0.here hx rfl (hb hby d41_0) rfl rfl k) ?_
  show Aw p e below _ T0 m 1 #[rv x1] [(.ref x1)]
  obtain ⟨v1, T1, L1, X1, Q1, st1⟩ := callSp X0 hx hZ (m24_init l Z a0 hw x1 h0 n0 Z0 O0 ) e0 hown rfl (wd_188 hw) (wd_42 hw) (wd_46 hw) (wd_45 hw) (by decide) (hb hby d41_1) 0 (by decide) (by decide) (by decide) (by decide) (by rw [hml]; rfl) x1 [] [] rfl (lenOf pd_14 rfl) rfl (Nat.le_of_eq rfl) (Ls := #[rv x1])
  obtain ⟨rfl, M1, e1⟩ := Q1
  have N1 := Fr.app N0 M1
  refine Rch.go st1 ?_
  show Aw p e below _ T1 m 4 #[rv x1] []
  refine Rch.void X1 hx hret hlk (hb hby d41_4) (by decide) (by decide) ?_
  try rw [e1]
  exact ⟨rfl, N1, rfl⟩
theorem wd_187 {Z a0} (hw : HW Z a0) : (Cond.code ⟨"java/util/ImmutableCollections$AbstractImmutableCollection", "<init>", "()V"⟩ jdk_47_method_1_code (1 : Nat) (Option.none : Option FieldType)).before a0 Z = true := hw.at 187 rfl
theorem wd_186 {Z a0} (hw : HW Z a0) : (Cond.initialized "java/util/ImmutableCollections$AbstractImmutableCollection").before a0 Z = true := hw.at 186 rfl
theorem wd_183 {Z a0} (hw : HW Z a0) : (Cond.instanceMethod ⟨"java/util/ImmutableCollections$AbstractImmutableCollection", "<init>", "()V"⟩).before a0 Z = true := hw.at 183 rfl
theorem d40_4 : decode jdk_46_method_1_code 4 = .ok (.return_, 1) := by decide +kernel
theorem pn_java_util_ImmutableCollections_AbstractImmutableList : plainName "java/util/ImmutableCollections$AbstractImmutableList" = true := by first | (simp [plainName, overriddenIn]; done) | decide +kernel
theorem ef_m56_init (m : MethodId) (x1 : Addr) : entryFrame m #[(.ref x1)] 1 = mkF m 0 #[rv x1] [] := by first | rfl | (simp [entryFrame, mkF, argsToLocals, Value.category]; done)
theorem m56_init (l : Launch) (Z : State) (a0 : Array Value) (hw : HW Z a0) (x1 : Addr) (h0 : Heap) (n0 : Nat) (Z0 : n0 ≤ h0.size) (O0 : Old Z n0 h0) :
    Ctr l Z [] (⟨"java/util/ImmutableCollections$AbstractImmutableList", "<init>", "()V"⟩ : MethodName) jdk_46_method_1_code 1 none #[(.ref x1)] h0 ({ frames := 3, cells := 0, slots := 0, locals := 36 } : Room) (fun v h L => v = none ∧ Fr n0 L ∧ h = h0) := by
  refine Ctr.of (plainFor_of_name pn_java_util_ImmutableCollections_AbstractImmutableList) (fun m => ef_m56_init m x1) ?_
  intro p e s m below meth c T0 hx hZ hby hml hown hnm hret hlk X0 e0
  have N0 := Fr.nil n0
  show Aw p e below _ T0 m 0 #[rv x1] []
  refine Rch.go (fun t k => XS.aloadN X0.here hx rfl (hb hby d40_0) rfl rfl k) ?_
  show Aw p e below _ T0 m 1 #[rv x1] [(.ref x1)]
  obtain ⟨v1, T1, L1, X1, Q1, st1⟩ := callSp X0 hx hZ (m57_init l Z a0 hw x1 h0 n0 Z0 O0 ) e0 hown rfl (wd_182 hw) (wd_183 hw) (wd_187 hw) (wd_186 hw) (by decide) (hb hby d40_1) 0 (by decide) (by decide) (by decide) (by decide) (by rw [hml]; rfl) x1 [] [] rfl (lenOf pd_14 rfl) rfl (Nat.le_of_eq rfl) (Ls := #[rv x1])
  obtain ⟨rfl, M1, e1⟩ := Q1
  have N1 := Fr.app N0 M1
  refine Rch.go st1 ?_
  show Aw p e below _ T1 m 4 #[rv x1] []
  refine Rch.void X1 hx hret hlk (hb hby d40_4) (by decide) (by decide) ?_
  try rw [e1]
  exact ⟨rfl, N1, rfl⟩
theorem wd_181 {Z a0} (hw : HW Z a0) : (Cond.code ⟨"java/util/ImmutableCollections$AbstractImmutableList", "<init>", "()V"⟩ jdk_46_method_1_code (1 : Nat) (Option.none : Option FieldType)).before a0 Z = true := hw.at 181 rfl
theorem wd_180 {Z a0} (hw : HW Z a0) : (Cond.initialized "java/util/ImmutableCollections$AbstractImmutableList").before a0 Z = true := hw.at 180 rfl
theorem wd_177 {Z a0} (hw : HW Z a0) : (Cond.instanceMethod ⟨"java/util/ImmutableCollections$AbstractImmutableList", "<init>", "()V"⟩).before a0 Z = true := hw.at 177 rfl
theorem d39_4 : decode jdk_44_method_1_code 4 = .ok (.aload_n 0, 1) := by decide +kernel
theorem d39_5 : decode jdk_44_method_1_code 5 = .ok (.aload_n 1, 1) := by decide +kernel
theorem d39_6 : decode jdk_44_method_1_code 6 = .ok (.invokestatic 7, 3) := by decide +kernel
theorem wd_190 {Z a0} (hw : HW Z a0) : (Cond.methodLink s3' (7 : Nat) ⟨"java/util/Objects", "requireNonNull", s11'⟩).before a0 Z = true := hw.at 190 rfl
theorem d39_9 : decode jdk_44_method_1_code 9 = .ok (.putfield 13, 3) := by decide +kernel
theorem d39_12 : decode jdk_44_method_1_code 12 = .ok (.aload_n 0, 1) := by decide +kernel
theorem d39_13 : decode jdk_44_method_1_code 13 = .ok (.getstatic 19, 3) := by decide +kernel
theorem d39_16 : decode jdk_44_method_1_code 16 = .ok (.putfield 24, 3) := by decide +kernel
theorem d39_19 : decode jdk_44_method_1_code 19 = .ok (.return_, 1) := by decide +kernel
theorem ef_m55_init (m : MethodId) (x1 x2 : Addr) : entryFrame m #[(.ref x1), (.ref x2)] 2 = mkF m 0 #[rv x1, rv x2] [] := by first | rfl | (simp [entryFrame, mkF, argsToLocals, Value.category]; done)
theorem m55_init (l : Launch) (Z : State) (a0 : Array Value) (hw : HW Z a0) (x1 x2 x3 : Addr) (h0 : Heap) (n0 : Nat) (Z0 : n0 ≤ h0.size) (O0 : Old Z n0 h0) (P1 : Exa Z h0 x1 s3') (P2 : Fld Z h0 x1 s3' "e0" "Ljava/lang/Object;" .null) (P3 : n0 ≤ x1) (P4 : Sta Z Z.heap s5' "EMPTY" "Ljava/lang/Object;" (.ref x3)) (P5 : Fld Z h0 x1 s3' "e1" "Ljava/lang/Object;" .null) :
    Ctr l Z [] (⟨s3', "<init>", "(Ljava/lang/Object;)V"⟩ : MethodName) jdk_44_method_1_code 2 none #[(.ref x1), (.ref x2)] h0 ({ frames := 4, cells := 0, slots := 0, locals := 48 } : Room) (fun v h L => v = none ∧ Fr n0 L ∧ Keep h0 h [x1] ∧ Fld Z h x1 s3' "e0" "Ljava/lang/Object;" (.ref x2) ∧ Fld Z h x1 s3' "e1" "Ljava/lang/Object;" (.ref x3)) := by
  refine Ctr.of (plainFor_of_name pn_java_util_ImmutableCollections_List12) (fun m => ef_m55_init m x1 x2) ?_
  intro p e s m below meth c T0 hx hZ hby hml hown hnm hret hlk X0 e0
  have N0 := Fr.nil n0
  show Aw p e below _ T0 m 0 #[rv x1, rv x2] []
  refine Rch.go (fun t k => XS.aloadN X0.here hx rfl (hb hby d39_0) rfl rfl k) ?_
  show Aw p e below _ T0 m 1 #[rv x1, rv x2] [(.ref x1)]
  obtain ⟨v1, T1, L1, X1, Q1, st1⟩ := callSp X0 hx hZ (m56_init l Z a0 hw x1 h0 n0 Z0 O0 ) e0 hown rfl (wd_176 hw) (wd_177 hw) (wd_181 hw) (wd_180 hw) (by decide) (hb hby d39_1) 0 (by decide) (by decide) (by decide) (by decide) (by rw [hml]; rfl) x1 [] [] rfl (lenOf pd_14 rfl) rfl (Nat.le_of_eq rfl) (Ls := #[rv x1, rv x2])
  obtain ⟨rfl, M1, e1⟩ := Q1
  have N1 := Fr.app N0 M1
  refine Rch.go st1 ?_
  show Aw p e below _ T1 m 4 #[rv x1, rv x2] []
  refine Rch.go (fun t k => XS.aloadN X1.here hx rfl (hb hby d39_4) rfl rfl (XS.aloadN X1.here hx rfl (hb hby d39_5) rfl rfl k)) ?_
  show Aw p e below _ T1 m 6 #[rv x1, rv x2] [(.ref x2), (.ref x1)]
  obtain ⟨v2, T2, L2, X2, Q2, st2⟩ := callSt X1 hx hZ (m4_requireNonNull l Z a0 hw x2 h0 n0 Z0 O0 ) e1 hown (wd_190 hw) (wd_191 hw) (wd_192 hw) (wd_67 hw) (by decide) (hb hby d39_6) 1 (by decide) (by decide) (by decide) (by decide) (by rw [hml]; rfl) [(.ref x2)] [(.ref x1)] rfl (lenOf pd_2 rfl) rfl (Nat.le_of_eq rfl) (Ls := #[rv x1, rv x2])
  obtain ⟨rfl, M2, e2⟩ := Q2
  have N2 := Fr.app N1 M2
  refine Rch.go st2 ?_
  show Aw p e below _ T2 m 9 #[rv x1, rv x2] [(.ref x2), (.ref x1)]
  obtain ⟨T3, h3, X3, e3, W3, st3⟩ := putF X2 hx hZ hown (host := "") (Or.inl (wd_193 hw)) Via.refl e2 P2 P1 (Or.inr ⟨(wd_194 hw), rfl, hnm⟩) (wd_170 hw) (ty := (.object "java/lang/Object")) (by decide) rfl rfl (g := (mkF m 9 #[rv x1, rv x2] [(.ref x2), (.ref x1)])) rfl rfl (hb hby d39_9)
  refine Rch.go st3 ?_
  have F3 := P2.same W3
  have N3 := Fr.snoc X3 N2 P3
  show Aw p e below _ T3 m 12 #[rv x1, rv x2] []
  refine Rch.go (fun t k => XS.aloadN X3.here hx rfl (hb hby d39_12) rfl rfl k) ?_
  show Aw p e below _ T3 m 13 #[rv x1, rv x2] [(.ref x1)]
  have o5 := (O0.wr W3 P3)
  obtain ⟨T4, X4, e4, st4⟩ := getS2 X3 hx hZ hown (Or.inr (wd_195 hw)) Via.refl e3 (P4.ext o5.2) (g := (mkF m 13 #[rv x1, rv x2] [(.ref x1)])) rfl (hb hby d39_13)
  refine Rch.go st4 ?_
  show Aw p e below _ T4 m 16 #[rv x1, rv x2] [(.ref x3), (.ref x1)]
  have f7 := (P5.other W3 (Or.inr (slot_ne (Or.inr (wd_197 hw)) (Or.inr (wd_194 hw)) (by decide) (t := (.object "java/lang/Object")) (t' := (.object "java/lang/Object")) (by decide) (by decide))))
  have f8 := (P1.wr W3)
  obtain ⟨T6, h6, X6, e6, W6, st6⟩ := putF X4 hx hZ hown (host := "") (Or.inl (wd_196 hw)) Via.refl e4 f7 f8 (Or.inr ⟨(wd_197 hw), rfl, hnm⟩) (wd_170 hw) (ty := (.object "java/lang/Object")) (by decide) rfl rfl (g := (mkF m 16 #[rv x1, rv x2] [(.ref x3), (.ref x1)])) rfl rfl (hb hby d39_16)
  refine Rch.go st6 ?_
  have F6 := f7.same W6
  have N6 := Fr.snoc X6 N3 P3
  show Aw p e below _ T6 m 19 #[rv x1, rv x2] []
  have f9 := (F3.other W6 (Or.inr (slot_ne (Or.inr (wd_194 hw)) (Or.inr (wd_197 hw)) (by decide) (t := (.object "java/lang/Object")) (t' := (.object "java/lang/Object")) (by decide) (by decide))))
  refine Rch.void X6 hx hret hlk (hb hby d39_19) (by decide) (by decide) ?_
  try rw [e6]
  exact ⟨rfl, N6, (((Keep.refl _ _).wr W3 (Or.inl (List.mem_of_getElem? (i := 0) rfl))).wr W6 (Or.inl (List.mem_of_getElem? (i := 0) rfl))), f9, F6⟩
theorem wd_175 {Z a0} (hw : HW Z a0) : (Cond.code ⟨s3', "<init>", "(Ljava/lang/Object;)V"⟩ jdk_44_method_1_code (2 : Nat) (Option.none : Option FieldType)).before a0 Z = true := hw.at 175 rfl
theorem wd_173 {Z a0} (hw : HW Z a0) : (Cond.instanceMethod ⟨s3', "<init>", "(Ljava/lang/Object;)V"⟩).before a0 Z = true := hw.at 173 rfl
theorem d38_44 : decode jdk_40_method_47_code 44 = .ok (.areturn, 1) := by decide +kernel
theorem ef_m54_of (m : MethodId) (x1 : Addr) : entryFrame m #[(.ref x1)] 2 = mkF m 0 #[rv x1, uu] [] := by first | rfl | (simp [entryFrame, mkF, argsToLocals, Value.category]; done)
theorem m54_of (l : Launch) (Z : State) (a0 : Array Value) (hw : HW Z a0) (x1 : Addr) (kk2 : ClassId) (x3 x4 : Addr) (h0 : Heap) (n0 : Nat) (Z0 : n0 ≤ h0.size) (O0 : Old Z n0 h0) (P1 : Ovr Z kk2 "java/lang/Object") (P2 : Arv Z h0 x1 kk2 (.object "java/lang/Object") (1 : Int32) [(.ref x3)] .null) (P3 : Sta Z Z.heap s5' "EMPTY" "Ljava/lang/Object;" (.ref x4)) :
    Ctr l Z [] (⟨"java/util/List", "of", "([Ljava/lang/Object;)Ljava/util/List;"⟩ : MethodName) jdk_40_method_47_code 2 (some (.object "java/util/List")) #[(.ref x1)] h0 ({ frames := 5, cells := 1, slots := 2, locals := 62 } : Room) (fun v h L => ∃ (b2 : Addr), v = some (.ref b2) ∧ Fr n0 L ∧ Keep h0 h [] ∧ h0.size ≤ b2 ∧ Exa Z h b2 s3' ∧ Fld Z h b2 s3' "e0" "Ljava/lang/Object;" (.ref x3) ∧ Fld Z h b2 s3' "e1" "Ljava/lang/Object;" (.ref x4)) := by
  refine Ctr.of (plainFor_of_name pn_java_util_List) (fun m => ef_m54_of m x1) ?_
  intro p e s m below meth c T0 hx hZ hby hml hown hnm hret hlk X0 e0
  have N0 := Fr.nil n0
  show Aw p e below _ T0 m 0 #[rv x1, uu] []
  refine Rch.go (fun t k => XS.aloadN X0.here hx rfl (hb hby d38_0) rfl rfl k) ?_
  show Aw p e below _ T0 m 1 #[rv x1, uu] [(.ref x1)]
  obtain ⟨c1, r1, q1, s1, u1, H1, G1⟩ := id P2
  refine Rch.go (fun t k => X0.arraylength hx (by rw [e0]; exact r1.1) (State.isArrayOf_alike hZ.alike r1.2.1) (g := (mkF m 1 #[rv x1, uu] [(.ref x1)])) rfl rfl (hb hby d38_1) t (by rw [len_of s1 u1]; exact k)) ?_
  show Aw p e below _ T0 m 2 #[rv x1, uu] [(.int 1)]
  refine Rch.go (fun t k => XS.tswIn X0.here hx rfl (pc0 := 2) (pc' := 34) (o := 32) rfl (hb hby d38_2) rfl (by decide) (by decide) (by decide) (by decide) k) ?_
  show Aw p e below _ T0 m 34 #[rv x1, uu] []
  obtain ⟨T2, h2, X2, e2, E2, A2, D2, -, st2⟩ := newO X0 hx hZ hown (wd_169 hw) (wd_170 hw) (wd_171 hw) e0 (g := (mkF m 34 #[rv x1, uu] [])) rfl (hb hby d38_34) (by decide) (by decide)
  obtain ⟨b2, g2⟩ : ∃ z, z = h0.size := ⟨_, rfl⟩
  rw [← g2] at A2 D2 st2
  refine Rch.go st2 ?_
  have g_b2 : n0 ≤ b2 := Nat.le_trans Z0 (Nat.le_of_eq g2.symm)
  have F2_e0 : Fld Z h2 b2 s3' "e0" "Ljava/lang/Object;" .null := (D2 (Or.inr (wd_194 hw)) (ty := (.object "java/lang/Object")) (by decide))
  have F2_e1 : Fld Z h2 b2 s3' "e1" "Ljava/lang/Object;" .null := (D2 (Or.inr (wd_197 hw)) (ty := (.object "java/lang/Object")) (by decide))
  show Aw p e below _ T2 m 37 #[rv x1, uu] [(.ref b2)]
  refine Rch.go (fun t k => XS.dup X2.here hx rfl (hb hby d38_37) rfl rfl (XS.aloadN X2.here hx rfl (hb hby d38_38) rfl rfl (XS.iconst X2.here hx rfl (hb hby d38_39) k))) ?_
  show Aw p e below _ T2 m 40 #[rv x1, uu] [(.int 0), (.ref x1), (.ref b2), (.ref b2)]
  have f3 := (P2.ext E2)
  obtain ⟨c4, r4, q4, s4, u4, H4, G4⟩ := id f3
  refine Rch.go (fun t k => X2.aaload hx (j := (0 : Int32)) (v := (.ref x3)) (by rw [e2]; exact r4.1) (State.isArrayOf_alike hZ.alike r4.2.1) rfl r4.2.2 (inb_of s4 (by decide)) (H4.at (inb_of s4 (by decide)) rfl) (g := (mkF m 40 #[rv x1, uu] [(.int 0), (.ref x1), (.ref b2), (.ref b2)])) rfl rfl (hb hby d38_40) t k) ?_
  show Aw p e below _ T2 m 41 #[rv x1, uu] [(.ref x3), (.ref b2), (.ref b2)]
  have z5 := (Nat.le_trans Z0 E2.1)
  have o6 := (O0.ext E2)
  obtain ⟨v7, T7, L7, X7, Q7, st7⟩ := callSp X2 hx hZ (m55_init l Z a0 hw b2 x3 x4 h2 n0 z5 o6 A2 F2_e0 g_b2 P3 F2_e1) e2 hown rfl (wd_172 hw) (wd_173 hw) (wd_175 hw) (wd_171 hw) (by decide) (hb hby d38_41) 1 (by decide) (by decide) (by decide) (by decide) (by rw [hml]; rfl) b2 [(.ref x3)] [(.ref b2)] rfl (lenOf pd_3 rfl) rfl (Nat.le_of_eq rfl) (Ls := #[rv x1, uu])
  obtain ⟨rfl, M7, K7, F7_0, F7_1⟩ := Q7
  have N7 := Fr.app N0 M7
  refine Rch.go st7 ?_
  show Aw p e below _ T7 m 44 #[rv x1, uu] [(.ref b2)]
  have f8 := (A2.keep K7)
  refine Rch.val X7 hx (t := (.object "java/util/List")) hret hlk rfl (Or.inr (Or.inr (Or.inr (Or.inr ⟨rfl, rfl, rfl⟩)))) (hb hby d38_44) (by decide) (by decide) ?_
  exact ⟨b2, rfl, N7, (((Keep.refl _ _).ext E2).trans K7 (allS (Or.inr (Nat.le_trans (Nat.le_refl _) (Nat.le_of_eq g2.symm))) all0)), (Nat.le_trans (Nat.le_refl _) (Nat.le_of_eq g2.symm)), f8, F7_0, F7_1⟩
theorem wd_168 {Z a0} (hw : HW Z a0) : (Cond.code ⟨"java/util/List", "of", "([Ljava/lang/Object;)Ljava/util/List;"⟩ jdk_40_method_47_code (2 : Nat) (Option.some (FieldType.object "java/util/List"))).before a0 Z = true := hw.at 168 rfl
theorem pd_27 : parseMethodDescriptor "([Ljava/lang/Object;)Ljava/util/List;" = some ⟨[(.array (.object "java/lang/Object"))], some (.object "java/util/List")⟩ := by decide +kernel
theorem wd_167 {Z a0} (hw : HW Z a0) : (Cond.static ⟨"java/util/List", "of", "([Ljava/lang/Object;)Ljava/util/List;"⟩).before a0 Z = true := hw.at 167 rfl
theorem d25_53 : decode jdk_56_method_3_code 53 = .ok (.areturn, 1) := by decide +kernel
theorem ef_m48_listCopy (m : MethodId) (x1 : Addr) : entryFrame m #[(.ref x1)] 2 = mkF m 0 #[rv x1, uu] [] := by first | rfl | (simp [entryFrame, mkF, argsToLocals, Value.category]; done)
theorem m48_listCopy (l : Launch) (Z : State) (a0 : Array Value) (hw : HW Z a0) (x1 x2 x3 : Addr) (kk4 : ClassId) (x5 x6 : Addr) (h0 : Heap) (n0 : Nat) (Z0 : n0 ≤ h0.size) (O0 : Old Z n0 h0) (P1 : Exa Z h0 x1 s1') (P2 : Fld Z h0 x1 s1' "size" "I" (.int 1)) (P3 : Fld Z h0 x1 s1' "elementData" s4' (.ref x2)) (P4 : Exa Z h0 x2 s4') (P5 : MirA Z s4' x3) (P6 : Ovr Z kk4 "java/lang/Object") (P7 : Arv Z h0 x2 kk4 (.object "java/lang/Object") (10 : Int32) [(.ref x5), .null, .null, .null, .null, .null, .null, .null, .null, .null] .null) (P8 : Exa Z h0 x5 s2') (P9 : Sta Z Z.heap s5' "EMPTY" "Ljava/lang/Object;" (.ref x6)) :
    Ctr l Z [] (⟨s5', "listCopy", s12'⟩ : MethodName) jdk_56_method_3_code 2 (some (.object "java/util/List")) #[(.ref x1)] h0 ({ frames := 6, cells := 2, slots := 3, locals := 75 } : Room) (fun v h L => ∃ (b7_0 : Addr), v = some (.ref b7_0) ∧ Fr n0 L ∧ Keep h0 h [] ∧ h0.size ≤ b7_0 ∧ Exa Z h b7_0 s3' ∧ Fld Z h b7_0 s3' "e0" "Ljava/lang/Object;" (.ref x5) ∧ Fld Z h b7_0 s3' "e1" "Ljava/lang/Object;" (.ref x6)) := by
  refine Ctr.of (plainFor_of_name pn_java_util_ImmutableCollections) (fun m => ef_m48_listCopy m x1) ?_
  intro p e s m below meth c T0 hx hZ hby hml hown hnm hret hlk X0 e0
  have N0 := Fr.nil n0
  show Aw p e below _ T0 m 0 #[rv x1, uu] []
  refine Rch.go (fun t k => XS.aloadN X0.here hx rfl (hb hby d25_0) rfl rfl k) ?_
  show Aw p e below _ T0 m 1 #[rv x1, uu] [(.ref x1)]
  obtain ⟨T1, X1, e1, st1⟩ := instNo X0 hx hZ hown (wd_82 hw) e0 P1 (own_nsNo (wd_83 hw) (NI.ofInst (wd_170 hw)) (NS.step (wd_83 hw) (NS.step (wd_84 hw) (NS.step (wd_85 hw) (own_nsRoot (wd_86 hw) (NI.ofInst (wd_170 hw)) (by decide)) (by decide)) (by decide)) (by decide)) (by decide)) (g := (mkF m 1 #[rv x1, uu] [(.ref x1)])) rfl rfl (hb hby d25_1)
  refine Rch.go st1 ?_
  show Aw p e below _ T1 m 4 #[rv x1, uu] [(.int 0)]
  refine Rch.go (fun t k => XS.ifNo X1.here hx rfl (hb hby d25_4) rfl (by decide) (XS.aloadN X1.here hx rfl (hb hby d25_7) rfl rfl k)) ?_
  show Aw p e below _ T1 m 8 #[rv x1, uu] [(.ref x1)]
  obtain ⟨T2, X2, e2, st2⟩ := instNo X1 hx hZ hown (wd_87 hw) e1 P1 (own_nsNo (wd_83 hw) (NI.ofSel (wd_269 hw) rfl) (NS.step (wd_83 hw) (NS.step (wd_84 hw) (NS.step (wd_85 hw) (own_nsRoot (wd_86 hw) (NI.ofSel (wd_269 hw) rfl) (by decide)) (by decide)) (by decide)) (by decide)) (by decide)) (g := (mkF m 8 #[rv x1, uu] [(.ref x1)])) rfl rfl (hb hby d25_8)
  refine Rch.go st2 ?_
  show Aw p e below _ T2 m 11 #[rv x1, uu] [(.int 0)]
  refine Rch.go (fun t k => XS.ifYes X2.here hx rfl (pc0 := 11) (pc' := 31) rfl (hb hby d25_11) rfl (by decide) (by decide) (by decide) (XS.aloadN X2.here hx rfl (hb hby d25_31) rfl rfl k)) ?_
  show Aw p e below _ T2 m 32 #[rv x1, uu] [(.ref x1)]
  obtain ⟨v3, T3, L3, X3, Q3, st3⟩ := callIf X2 hx hZ (m49_isEmpty l Z a0 hw x1 h0 n0 Z0 O0 P2) e2 hown (wd_88 hw) (wd_89 hw) (wd_90 hw) (wd_91 hw) (wd_92 hw) (wd_93 hw) (wd_94 hw) (wd_95 hw) (wd_96 hw) (wd_31 hw) (by decide) (hb hby d25_32) 0 (by decide) (by decide) (by decide) (by decide) (by rw [hml]; rfl) x1 P1 [] [] rfl (lenOf pd_5 rfl) rfl (Nat.le_of_eq rfl) (Ls := #[rv x1, uu])
  obtain ⟨rfl, M3, e3⟩ := Q3
  have N3 := Fr.app N0 M3
  refine Rch.go st3 ?_
  show Aw p e below _ T3 m 37 #[rv x1, uu] [(.int 0)]
  refine Rch.go (fun t k => XS.ifYes X3.here hx rfl (pc0 := 37) (pc' := 44) rfl (hb hby d25_37) rfl (by decide) (by decide) (by decide) (XS.aloadN X3.here hx rfl (hb hby d25_44) rfl rfl k)) ?_
  show Aw p e below _ T3 m 45 #[rv x1, uu] [(.ref x1)]
  obtain ⟨v4, T4, L4, X4, Q4, st4⟩ := callIf X3 hx hZ (m50_toArray l Z a0 hw x1 x2 x3 kk4 x5 h0 n0 Z0 O0 P3 P2 P4 P5 P6 P7 P8) e3 hown (wd_136 hw) (wd_137 hw) (wd_138 hw) (wd_139 hw) (wd_140 hw) (wd_141 hw) (wd_142 hw) (wd_95 hw) (wd_143 hw) (wd_31 hw) (by decide) (hb hby d25_45) 0 (by decide) (by decide) (by decide) (by decide) (by rw [hml]; rfl) x1 P1 [] [] rfl (lenOf pd_23 rfl) rfl (Nat.le_of_eq rfl) (Ls := #[rv x1, uu])
  obtain ⟨b4_0, k4_0, rfl, M4, K4, zz4_0, O4_0, F4_0, F4_1⟩ := Q4
  have N4 := Fr.app N3 M4
  refine Rch.go st4 ?_
  have g_b4_0 : n0 ≤ b4_0 := Nat.le_trans Z0 zz4_0
  show Aw p e below _ T4 m 50 #[rv x1, uu] [(.ref b4_0)]
  have z5 := (Nat.le_trans Z0 K4.1)
  have o6 := (O0.keep K4 all0)
  obtain ⟨v7, T7, L7, X7, Q7, st7⟩ := callSt X4 hx hZ (m54_of l Z a0 hw b4_0 k4_0 x5 x6 T4.heap n0 z5 o6 O4_0 F4_1 P9) rfl hown (wd_166 hw) (wd_167 hw) (wd_168 hw) (wd_76 hw) (by decide) (hb hby d25_50) 0 (by decide) (by decide) (by decide) (by decide) (by rw [hml]; rfl) [(.ref b4_0)] [] rfl (lenOf pd_27 rfl) rfl (Nat.le_of_eq rfl) (Ls := #[rv x1, uu])
  obtain ⟨b7_0, rfl, M7, K7, zz7_0, F7_0, F7_1, F7_2⟩ := Q7
  have N7 := Fr.app N4 M7
  refine Rch.go st7 ?_
  have g_b7_0 : n0 ≤ b7_0 := Nat.le_trans z5 zz7_0
  show Aw p e below _ T7 m 53 #[rv x1, uu] [(.ref b7_0)]
  refine Rch.val X7 hx (t := (.object "java/util/List")) hret hlk rfl (Or.inr (Or.inr (Or.inr (Or.inr ⟨rfl, rfl, rfl⟩)))) (hb hby d25_53) (by decide) (by decide) ?_
  exact ⟨b7_0, rfl, N7, (((Keep.refl _ _).trans K4 all0).trans K7 all0), (Nat.le_trans (Nat.le_trans (Nat.le_refl _) K4.1) zz7_0), F7_0, F7_1, F7_2⟩
theorem ef_m47_copyOf (m : MethodId) (x1 : Addr) : entryFrame m #[(.ref x1)] 1 = mkF m 0 #[rv x1] [] := by first | rfl | (simp [entryFrame, mkF, argsToLocals, Value.category]; done)
theorem m47_copyOf (l : Launch) (Z : State) (a0 : Array Value) (hw : HW Z a0) (x1 x2 x3 x4 : Addr) (kk5 : ClassId) (x6 x7 : Addr) (h0 : Heap) (n0 : Nat) (Z0 : n0 ≤ h0.size) (O0 : Old Z n0 h0) (P1 : Exa Z h0 x1 s1') (P2 : Fld Z h0 x1 s1' "size" "I" (.int 1)) (P3 : Sta Z Z.heap s5' "EMPTY_LIST" s10' (.ref x2)) (P4 : Fld Z h0 x1 s1' "elementData" s4' (.ref x3)) (P5 : Exa Z h0 x3 s4') (P6 : MirA Z s4' x4) (P7 : Ovr Z kk5 "java/lang/Object") (P8 : Arv Z h0 x3 kk5 (.object "java/lang/Object") (10 : Int32) [(.ref x6), .null, .null, .null, .null, .null, .null, .null, .null, .null] .null) (P9 : Exa Z h0 x6 s2') (P10 : Sta Z Z.heap s5' "EMPTY" "Ljava/lang/Object;" (.ref x7)) :
    Ctr l Z [] (⟨"java/util/List", "copyOf", s12'⟩ : MethodName) jdk_40_method_48_code 1 (some (.object "java/util/List")) #[(.ref x1)] h0 ({ frames := 7, cells := 2, slots := 3, locals := 88 } : Room) (fun v h L => ∃ (b1_0 : Addr), v = some (.ref b1_0) ∧ Fr n0 L ∧ Keep h0 h [] ∧ h0.size ≤ b1_0 ∧ Exa Z h b1_0 s3' ∧ Fld Z h b1_0 s3' "e0" "Ljava/lang/Object;" (.ref x6) ∧ Fld Z h b1_0 s3' "e1" "Ljava/lang/Object;" (.ref x7)) := by
  refine Ctr.of (plainFor_of_name pn_java_util_List) (fun m => ef_m47_copyOf m x1) ?_
  intro p e s m below meth c T0 hx hZ hby hml hown hnm hret hlk X0 e0
  have N0 := Fr.nil n0
  show Aw p e below _ T0 m 0 #[rv x1] []
  refine Rch.go (fun t k => XS.aloadN X0.here hx rfl (hb hby d24_0) rfl rfl k) ?_
  show Aw p e below _ T0 m 1 #[rv x1] [(.ref x1)]
  obtain ⟨v1, T1, L1, X1, Q1, st1⟩ := callSt X0 hx hZ (m48_listCopy l Z a0 hw x1 x3 x4 kk5 x6 x7 h0 n0 Z0 O0 P1 P2 P4 P5 P6 P7 P8 P9 P10) e0 hown (wd_78 hw) (wd_79 hw) (wd_81 hw) (wd_80 hw) (by decide) (hb hby d24_1) 0 (by decide) (by decide) (by decide) (by decide) (by rw [hml]; rfl) [(.ref x1)] [] rfl (lenOf pd_17 rfl) rfl (Nat.le_of_eq rfl) (Ls := #[rv x1])
  obtain ⟨b1_0, rfl, M1, K1, zz1_0, F1_0, F1_1, F1_2⟩ := Q1
  have N1 := Fr.app N0 M1
  refine Rch.go st1 ?_
  have g_b1_0 : n0 ≤ b1_0 := Nat.le_trans Z0 zz1_0
  show Aw p e below _ T1 m 4 #[rv x1] [(.ref b1_0)]
  refine Rch.val X1 hx (t := (.object "java/util/List")) hret hlk rfl (Or.inr (Or.inr (Or.inr (Or.inr ⟨rfl, rfl, rfl⟩)))) (hb hby d24_4) (by decide) (by decide) ?_
  exact ⟨b1_0, rfl, N1, ((Keep.refl _ _).trans K1 all0), (Nat.le_trans (Nat.le_refl _) zz1_0), F1_0, F1_1, F1_2⟩
theorem ef_m46_init (m : MethodId) (x1 x2 x3 : Addr) : entryFrame m #[(.ref x1), (.ref x2), (.ref x3)] 3 = mkF m 0 #[rv x1, rv x2, rv x3] [] := by first | rfl | (simp [entryFrame, mkF, argsToLocals, Value.category]; done)
theorem m46_init (l : Launch) (Z : State) (a0 : Array Value) (hw : HW Z a0) (x1 x2 x3 x4 : Addr) (kk5 : ClassId) (y6 : Int32) (x7 x8 x9 : Addr) (kk10 : ClassId) (x11 x12 : Addr) (h0 : Heap) (n0 : Nat) (Z0 : n0 ≤ h0.size) (O0 : Old Z n0 h0) (P1 : Exa Z h0 x2 "java/lang/String") (P2 : Fld Z h0 x2 "java/lang/String" "value" "[B" (.ref x4)) (P3 : Arv Z h0 x4 kk5 .byte (1 : Int32) [(.int y6)] (.int 0)) (P4 : Exa Z h0 x3 s1') (P5 : Fld Z h0 x3 s1' "size" "I" (.int 1)) (P6 : Sta Z Z.heap s5' "EMPTY_LIST" s10' (.ref x7)) (P7 : Fld Z h0 x3 s1' "elementData" s4' (.ref x8)) (P8 : Exa Z h0 x8 s4') (P9 : MirA Z s4' x9) (P10 : Ovr Z kk10 "java/lang/Object") (P11 : Arv Z h0 x8 kk10 (.object "java/lang/Object") (10 : Int32) [(.ref x11), .null, .null, .null, .null, .null, .null, .null, .null, .null] .null) (P12 : Exa Z h0 x11 s2') (P13 : Sta Z Z.heap s5' "EMPTY" "Ljava/lang/Object;" (.ref x12)) (P14 : Exa Z h0 x1 s2') (P15 : Fld Z h0 x1 s2' "value" "Ljava/lang/String;" .null) (P16 : n0 ≤ x1) (P17 : Fld Z h0 x1 s2' "children" "Ljava/util/List;" .null) :
    CtrW l Z [] (⟨s2', "<init>", "(Ljava/lang/String;Ljava/util/List;)V"⟩ : MethodName) prog_9_method_1_code 3 none #[(.ref x1), (.ref x2), (.ref x3)] h0 ({ frames := 8, cells := 4, slots := 27, locals := 100 } : Room) (fun v h L => ∃ (b16_0 : Addr), v = none ∧ Fr n0 L ∧ Keep h0 h [x1] ∧ h0.size ≤ b16_0 ∧ Exa Z h b16_0 s3' ∧ Fld Z h b16_0 s3' "e0" "Ljava/lang/Object;" (.ref x11) ∧ Fld Z h b16_0 s3' "e1" "Ljava/lang/Object;" (.ref x12) ∧ Fld Z h x1 s2' "value" "Ljava/lang/String;" (.ref x2) ∧ Fld Z h x1 s2' "children" "Ljava/util/List;" (.ref b16_0)) := by
  refine CtrW.of (plainFor_of_name pn_com_example_harpocrates_harpocrates_data_Taxonomy) (fun m => ef_m46_init m x1 x2 x3) ?_
  intro p e s vm0 m below meth c T0 hx hZ hby hml hown hnm hret hlk Y0 X0 e0
  have N0 := Fr.nil n0
  show Aw p e below _ T0 m 0 #[rv x1, rv x2, rv x3] []
  refine Rch.go (fun t k => XS.aloadN X0.here hx rfl (hb hby d20_0) rfl rfl k) ?_
  show Aw p e below _ T0 m 1 #[rv x1, rv x2, rv x3] [(.ref x1)]
  obtain ⟨v1, T1, L1, X1, Q1, st1⟩ := callSp X0 hx hZ (m26_init l Z a0 hw x1 h0 n0 Z0 O0 ) e0 hown rfl (wd_56 hw) (wd_57 hw) (wd_60 hw) (wd_59 hw) (by decide) (hb hby d20_1) 0 (by decide) (by decide) (by decide) (by decide) (by rw [hml]; rfl) x1 [] [] rfl (lenOf pd_14 rfl) rfl (Nat.le_of_eq rfl) (Ls := #[rv x1, rv x2, rv x3])
  obtain ⟨rfl, M1, e1⟩ := Q1
  have N1 := Fr.app N0 M1
  refine Rch.go st1 ?_
  show Aw p e below _ T1 m 4 #[rv x1, rv x2, rv x3] []
  refine Rch.go (fun t k => XS.aloadN X1.here hx rfl (hb hby d20_4) rfl rfl k) ?_
  show Aw p e below _ T1 m 5 #[rv x1, rv x2, rv x3] [(.ref x2)]
  obtain ⟨b2, T2, h2, k2, X2, e2, E2, Y2, yk2, hZ2, hown2, st2⟩ := ldcS X1 hx hZ hown (wd_62 hw) (strW hw) e1 Y0 (Nat.le_refl _) (g := (mkF m 5 #[rv x1, rv x2, rv x3] [(.ref x2)])) rfl (hb hby d20_5) (n := 20) (by decide) (by decide) (by decide) (by decide)
  refine Rch.go st2 ?_
  show Aw p e below _ T2 m 7 #[rv x1, rv x2, rv x3] [(.ref b2), (.ref x2)]
  have z3 := (Nat.le_trans Z0 E2.1)
  have o4 := (O0.ext E2)
  obtain ⟨v5, T5, L5, X5, Q5, st5⟩ := callSt X2 hx hZ2 (m27_requireNonNull l Z a0 hw x2 b2 h2 n0 z3 o4 ) e2 hown2 (wd_65 hw) (wd_66 hw) (wd_68 hw) (wd_67 hw) (by decide) (hb hby d20_7) 0 (by decide) (by decide) (by decide) (by decide) (by rw [hml]; rfl) [(.ref x2), (.ref b2)] [] rfl (lenOf pd_15 rfl) rfl (Nat.le_of_eq rfl) (Ls := #[rv x1, rv x2, rv x3])
  obtain ⟨rfl, M5, e5⟩ := Q5
  have N5 := Fr.app N1 M5
  refine Rch.go st5 ?_
  show Aw p e below _ T5 m 10 #[rv x1, rv x2, rv x3] [(.ref x2)]
  refine Rch.go (fun t k => XS.pop X5.here hx rfl (hb hby d20_10) rfl rfl (XS.aloadN X5.here hx rfl (hb hby d20_11) rfl rfl k)) ?_
  show Aw p e below _ T5 m 12 #[rv x1, rv x2, rv x3] [(.ref x2)]
  have f6 := (P2.ext E2)
  have f7 := (P3.ext E2)
  have f9 := (P1.ext E2)
  obtain ⟨v8, T8, L8, X8, Q8, st8⟩ := callVi X5 hx hZ2 (m28_isEmpty l Z a0 hw x2 x4 kk5 y6 h2 n0 z3 o4 f6 f7) e5 hown2 (wd_69 hw) (wd_70 hw) (wd_72 hw) (notFace_of_selects (args := #[]) (mvT hZ2 (wd_72 hw))) (wd_71 hw) (wd_73 hw) (wd_5 hw) (by decide) (hb hby d20_12) 0 (by decide) (by decide) (by decide) (by decide) (by rw [hml]; rfl) x2 f9 [] [] rfl (lenOf pd_5 rfl) rfl (Nat.le_of_eq rfl) (Ls := #[rv x1, rv x2, rv x3])
  obtain ⟨rfl, M8, e8⟩ := Q8
  have N8 := Fr.app N5 M8
  refine Rch.go st8 ?_
  show Aw p e below _ T8 m 15 #[rv x1, rv x2, rv x3] [(.int 0)]
  refine Rch.go (fun t k => XS.ifYes X8.here hx rfl (pc0 := 15) (pc' := 28) rfl (hb hby d20_15) rfl (by decide) (by decide) (by decide) (XS.aloadN X8.here hx rfl (hb hby d20_28) rfl rfl k)) ?_
  show Aw p e below _ T8 m 29 #[rv x1, rv x2, rv x3] [(.ref x3)]
  have f10 := (P4.ext E2)
  have f11 := (P5.ext E2)
  have f12 := (P7.ext E2)
  have f13 := (P8.ext E2)
  have f14 := (P11.ext E2)
  have f15 := (P12.ext E2)
  obtain ⟨v16, T16, L16, X16, Q16, st16⟩ := callSt X8 hx hZ2 (m47_copyOf l Z a0 hw x3 x7 x8 x9 kk10 x11 x12 h2 n0 z3 o4 f10 f11 P6 f12 f13 P9 P10 f14 f15 P13) e8 hown2 (wd_74 hw) (wd_75 hw) (wd_77 hw) (wd_76 hw) (by decide) (hb hby d20_29) 0 (by decide) (by decide) (by decide) (by decide) (by rw [hml]; rfl) [(.ref x3)] [] rfl (lenOf pd_17 rfl) rfl (Nat.le_of_eq rfl) (Ls := #[rv x1, rv x2, rv x3])
  obtain ⟨b16_0, rfl, M16, K16, zz16_0, F16_0, F16_1, F16_2⟩ := Q16
  have N16 := Fr.app N8 M16
  refine Rch.go st16 ?_
  have g_b16_0 : n0 ≤ b16_0 := Nat.le_trans z3 zz16_0
  show Aw p e below _ T16 m 32 #[rv x1, rv x2, rv x3] [(.ref b16_0)]
  refine Rch.go (fun t k => XS.astoreN X16.here hx rfl (hb hby d20_32) rfl rfl (l' := #[rv x1, rv x2, rv b16_0]) rfl (XS.aloadN X16.here hx rfl (hb hby d20_33) rfl rfl (XS.aloadN X16.here hx rfl (hb hby d20_34) rfl rfl k))) ?_
  show Aw p e below _ T16 m 35 #[rv x1, rv x2, rv b16_0] [(.ref x2), (.ref x1)]
  have f18 := ((P15.ext E2).keep K16 nin0)
  have f19 := ((P14.ext E2).keep K16)
  obtain ⟨T17, h17, X17, e17, W17, st17⟩ := putF X16 hx hZ2 hown2 (host := "") (Or.inl (wd_103 hw)) Via.refl rfl f18 f19 (Or.inr ⟨(wd_104 hw), rfl, hnm⟩) (wd_1 hw) (ty := (.object "java/lang/String")) (by decide) rfl rfl (g := (mkF m 35 #[rv x1, rv x2, rv b16_0] [(.ref x2), (.ref x1)])) rfl rfl (hb hby d20_35)
  refine Rch.go st17 ?_
  have F17 := f18.same W17
  have N17 := Fr.snoc X17 N16 P16
  show Aw p e below _ T17 m 38 #[rv x1, rv x2, rv b16_0] []
  refine Rch.go (fun t k => XS.aloadN X17.here hx rfl (hb hby d20_38) rfl rfl (XS.aloadN X17.here hx rfl (hb hby d20_39) rfl rfl k)) ?_
  show Aw p e below _ T17 m 40 #[rv x1, rv x2, rv b16_0] [(.ref b16_0), (.ref x1)]
  have f21 := (((P17.ext E2).keep K16 nin0).other W17 (Or.inr (slot_ne (Or.inr (wd_106 hw)) (Or.inr (wd_104 hw)) (by decide) (t := (.object "java/util/List")) (t' := (.object "java/lang/String")) (by decide) (by decide))))
  have f22 := (f19.wr W17)
  obtain ⟨T20, h20, X20, e20, W20, st20⟩ := putF X17 hx hZ2 hown2 (host := "") (Or.inl (wd_105 hw)) Via.refl e17 f21 f22 (Or.inr ⟨(wd_106 hw), rfl, hnm⟩) (wd_1 hw) (ty := (.object "java/util/List")) (by decide) rfl rfl (g := (mkF m 40 #[rv x1, rv x2, rv b16_0] [(.ref b16_0), (.ref x1)])) rfl rfl (hb hby d20_40)
  refine Rch.go st20 ?_
  have F20 := f21.same W20
  have N20 := Fr.snoc X20 N17 P16
  show Aw p e below _ T20 m 43 #[rv x1, rv x2, rv b16_0] []
  have f23 := ((F16_0.wr W17).wr W20)
  have lt24 := (Nat.lt_of_lt_of_le P14.lt E2.1)
  have ne25 : x1 ≠ b16_0 := Nat.ne_of_lt (Nat.lt_of_lt_of_le lt24 zz16_0)
  have f26 := ((F16_1.other W17 (Or.inl (Ne.symm ne25))).other W20 (Or.inl (Ne.symm ne25)))
  have f27 := ((F16_2.other W17 (Or.inl (Ne.symm ne25))).other W20 (Or.inl (Ne.symm ne25)))
  have f28 := (F17.other W20 (Or.inr (slot_ne (Or.inr (wd_104 hw)) (Or.inr (wd_106 hw)) (by decide) (t := (.object "java/lang/String")) (t' := (.object "java/util/List")) (by decide) (by decide))))
  refine Rch.voidW X20 hx Y2 e20 (Nat.le_trans (Nat.le_trans (Nat.le_trans yk2 K16.1) (Nat.le_of_eq W17.size.symm)) (Nat.le_of_eq W20.size.symm)) hret hlk (hb hby d20_43) (by decide) (by decide) ?_
  exact ⟨b16_0, rfl, N20, (((((Keep.refl _ _).ext E2).trans K16 all0).wr W17 (Or.inl (List.mem_of_getElem? (i := 0) rfl))).wr W20 (Or.inl (List.mem_of_getElem? (i := 0) rfl))), (Nat.le_trans (Nat.le_trans (Nat.le_refl _) E2.1) zz16_0), f23, f26, f27, f28, F20⟩
theorem ef_m59_add (m : MethodId) (x1 x2 x3 : Addr) : entryFrame m #[(.ref x1), (.ref x2), (.ref x3), (.int 1)] 4 = mkF m 0 #[rv x1, rv x2, rv x3, iv 1] [] := by first | rfl | (simp [entryFrame, mkF, argsToLocals, Value.category]; done)
theorem m59_add (l : Launch) (Z : State) (a0 : Array Value) (hw : HW Z a0) (x1 x2 x3 : Addr) (kk4 : ClassId) (x5 : Addr) (h0 : Heap) (n0 : Nat) (Z0 : n0 ≤ h0.size) (O0 : Old Z n0 h0) (P1 : Ovr Z kk4 "java/lang/Object") (P2 : Arv Z h0 x3 kk4 (.object "java/lang/Object") (10 : Int32) [(.ref x5), .null, .null, .null, .null, .null, .null, .null, .null, .null] .null) (P3 : Exa Z h0 x2 s2') (P4 : n0 ≤ x3) (P5 : Exa Z h0 x1 s1') (P6 : Fld Z h0 x1 s1' "size" "I" (.int 1)) (P7 : x1 ≠ x3) (P8 : n0 ≤ x1) (P9 : Fld Z h0 x1 s6' "modCount" "I" (.int 2)) (P10 : Fld Z h0 x1 s1' "elementData" s4' (.ref x3)) :
    Ctr l Z [] (⟨s1', "add", "(Ljava/lang/Object;[Ljava/lang/Object;I)V"⟩ : MethodName) jdk_38_method_24_code 4 none #[(.ref x1), (.ref x2), (.ref x3), (.int 1)] h0 ({ frames := 0, cells := 0, slots := 0, locals := 0 } : Room) (fun v h L => v = none ∧ Fr n0 L ∧ Keep h0 h [x3, x1] ∧ Arv Z h x3 kk4 (.object "java/lang/Object") (10 : Int32) [(.ref x5), (.ref x2), .null, .null, .null, .null, .null, .null, .null, .null] .null ∧ Fld Z h x1 s1' "size" "I" (.int 2) ∧ Fld Z h x1 s6' "modCount" "I" (.int 2) ∧ Fld Z h x1 s1' "elementData" s4' (.ref x3)) := by
  refine Ctr.of (plainFor_of_name pn_java_util_ArrayList) (fun m => ef_m59_add m x1 x2 x3) ?_
  intro p e s m below meth c T0 hx hZ hby hml hown hnm hret hlk X0 e0
  have N0 := Fr.nil n0
  show Aw p e below _ T0 m 0 #[rv x1, rv x2, rv x3, iv 1] []
  refine Rch.go (fun t k => XS.iloadN X0.here hx rfl (hb hby d30_0) rfl  (XS.aloadN X0.here hx rfl (hb hby d30_1) rfl rfl k)) ?_
  show Aw p e below _ T0 m 2 #[rv x1, rv x2, rv x3, iv 1] [(.ref x3), (.int 1)]
  obtain ⟨c1, r1, q1, s1, u1, H1, G1⟩ := id P2
  refine Rch.go (fun t k => X0.arraylength hx (by rw [e0]; exact r1.1) (State.isArrayOf_alike hZ.alike r1.2.1) (g := (mkF m 2 #[rv x1, rv x2, rv x3, iv 1] [(.ref x3), (.int 1)])) rfl rfl (hb hby d30_2) t (by rw [len_of s1 u1]; exact k)) ?_
  show Aw p e below _ T0 m 3 #[rv x1, rv x2, rv x3, iv 1] [(.int 10), (.int 1)]
  refine Rch.go (fun t k => XS.icmpYes X0.here hx rfl (pc0 := 3) (pc' := 11) rfl (hb hby d30_3) rfl (by decide) (by decide) (by decide) (XS.aloadN X0.here hx rfl (hb hby d30_11) rfl rfl (XS.iloadN X0.here hx rfl (hb hby d30_12) rfl  (XS.aloadN X0.here hx rfl (hb hby d30_13) rfl rfl k)))) ?_
  show Aw p e below _ T0 m 14 #[rv x1, rv x2, rv x3, iv 1] [(.ref x2), (.int 1), (.ref x3)]
  obtain ⟨c2, r2, q2, s2, u2, H2, G2⟩ := id P2
  obtain ⟨T3, h3, X3, e3, W3, st3⟩ := stR X0 hx hZ e0 r2 (j := (1 : Int32)) (inb_of s2 (by decide)) rfl (Sto.ofV r2 q2 P1 (Ins.of_exa P3 (wd_135 hw))) (g := (mkF m 14 #[rv x1, rv x2, rv x3, iv 1] [(.ref x2), (.int 1), (.ref x3)])) rfl rfl (hb hby d30_14)
  refine Rch.go st3 ?_
  have V3 : Arv Z h3 x3 kk4 (.object "java/lang/Object") (10 : Int32) [(.ref x5), (.ref x2), .null, .null, .null, .null, .null, .null, .null, .null] .null := Arv.set r2 q2 s2 u2 H2 G2 rfl W3 1 rfl (Nat.le_of_ble_eq_true rfl)
  have N3 := Fr.snoc X3 N0 P4
  show Aw p e below _ T3 m 15 #[rv x1, rv x2, rv x3, iv 1] []
  refine Rch.go (fun t k => XS.aloadN X3.here hx rfl (hb hby d30_15) rfl rfl (XS.iloadN X3.here hx rfl (hb hby d30_16) rfl  (XS.iconst X3.here hx rfl (hb hby d30_17) (XS.iadd X3.here hx rfl (hb hby d30_18) rfl k)))) ?_
  show Aw p e below _ T3 m 19 #[rv x1, rv x2, rv x3, iv 1] [(.int 2), (.ref x1)]
  have f5 := (P6.other W3 (Or.inl P7))
  have f6 := (P5.wr W3)
  obtain ⟨T4, h4, X4, e4, W4, st4⟩ := putF X3 hx hZ hown (host := "") (Or.inl (wd_97 hw)) Via.refl e3 f5 f6 (Or.inl (wd_98 hw)) (wd_30 hw) (ty := .int) (by decide) rfl rfl (g := (mkF m 19 #[rv x1, rv x2, rv x3, iv 1] [(.int 2), (.ref x1)])) rfl rfl (hb hby d30_19)
  refine Rch.go st4 ?_
  have F4 := f5.same W4
  have N4 := Fr.snoc X4 N3 P8
  show Aw p e below _ T4 m 22 #[rv x1, rv x2, rv x3, iv 1] []
  have f7 := (V3.other W4 (Ne.symm P7))
  have f8 := ((P9.other W3 (Or.inl P7)).other W4 (Or.inr (slot_ne (Or.inl (wd_49 hw)) (Or.inl (wd_98 hw)) (by decide) (t := .int) (t' := .int) (by decide) (by decide))))
  have f9 := ((P10.other W3 (Or.inl P7)).other W4 (Or.inr (slot_ne (Or.inl (wd_52 hw)) (Or.inl (wd_98 hw)) (by decide) (t := (.array (.object "java/lang/Object"))) (t' := .int) (by decide) (by decide))))
  refine Rch.void X4 hx hret hlk (hb hby d30_22) (by decide) (by decide) ?_
  try rw [e4]
  exact ⟨rfl, N4, (((Keep.refl _ _).wr W3 (Or.inl (List.mem_of_getElem? (i := 0) rfl))).wr W4 (Or.inl (List.mem_of_getElem? (i := 1) rfl))), f7, F4, f8, f9⟩
theorem ef_m58_add (m : MethodId) (x1 x2 : Addr) : entryFrame m #[(.ref x1), (.ref x2)] 2 = mkF m 0 #[rv x1, rv x2] [] := by first | rfl | (simp [entryFrame, mkF, argsToLocals, Value.category]; done)
theorem m58_add (l : Launch) (Z : State) (a0 : Array Value) (hw : HW Z a0) (x1 x2 x3 : Addr) (kk4 : ClassId) (x5 : Addr) (h0 : Heap) (n0 : Nat) (Z0 : n0 ≤ h0.size) (O0 : Old Z n0 h0) (P1 : Fld Z h0 x1 s6' "modCount" "I" (.int 1)) (P2 : Exa Z h0 x1 s1') (P3 : n0 ≤ x1) (P4 : Fld Z h0 x1 s1' "elementData" s4' (.ref x3)) (P5 : Fld Z h0 x1 s1' "size" "I" (.int 1)) (P6 : Ovr Z kk4 "java/lang/Object") (P7 : Arv Z h0 x3 kk4 (.object "java/lang/Object") (10 : Int32) [(.ref x5), .null, .null, .null, .null, .null, .null, .null, .null, .null] .null) (P8 : x3 ≠ x1) (P9 : Exa Z h0 x2 s2') (P10 : n0 ≤ x3) :
    Ctr l Z [] (⟨s1', "add", "(Ljava/lang/Object;)Z"⟩ : MethodName) jdk_38_method_25_code 2 (some .boolean) #[(.ref x1), (.ref x2)] h0 ({ frames := 1, cells := 0, slots := 0, locals := 15 } : Room) (fun v h L => v = some (.int 1) ∧ Fr n0 L ∧ Keep h0 h [x1, x3] ∧ Arv Z h x3 kk4 (.object "java/lang/Object") (10 : Int32) [(.ref x5), (.ref x2), .null, .null, .null, .null, .null, .null, .null, .null] .null ∧ Fld Z h x1 s1' "size" "I" (.int 2) ∧ Fld Z h x1 s6' "modCount" "I" (.int 2) ∧ Fld Z h x1 s1' "elementData" s4' (.ref x3)) := by
  refine Ctr.of (plainFor_of_name pn_java_util_ArrayList) (fun m => ef_m58_add m x1 x2) ?_
  intro p e s m below meth c T0 hx hZ hby hml hown hnm hret hlk X0 e0
  have N0 := Fr.nil n0
  show Aw p e below _ T0 m 0 #[rv x1, rv x2] []
  refine Rch.go (fun t k => XS.aloadN X0.here hx rfl (hb hby d29_0) rfl rfl (XS.dup X0.here hx rfl (hb hby d29_1) rfl rfl k)) ?_
  show Aw p e below _ T0 m 2 #[rv x1, rv x2] [(.ref x1), (.ref x1)]
  obtain ⟨T1, X1, e1, st1⟩ := getF X0 hx hZ hown (host := "") (Or.inl (wd_112 hw)) (Via.of (wd_113 hw)) e0 P1 (g := (mkF m 2 #[rv x1, rv x2] [(.ref x1), (.ref x1)])) rfl rfl (hb hby d29_2)
  refine Rch.go st1 ?_
  show Aw p e below _ T1 m 5 #[rv x1, rv x2] [(.int 1), (.ref x1)]
  refine Rch.go (fun t k => XS.iconst X1.here hx rfl (hb hby d29_5) (XS.iadd X1.here hx rfl (hb hby d29_6) rfl k)) ?_
  show Aw p e below _ T1 m 7 #[rv x1, rv x2] [(.int 2), (.ref x1)]
  obtain ⟨T2, h2, X2, e2, W2, st2⟩ := putF X1 hx hZ hown (host := "") (Or.inl (wd_112 hw)) (Via.of (wd_113 hw)) e1 P1 P2 (Or.inl (wd_49 hw)) (wd_30 hw) (ty := .int) (by decide) rfl rfl (g := (mkF m 7 #[rv x1, rv x2] [(.int 2), (.ref x1)])) rfl rfl (hb hby d29_7)
  refine Rch.go st2 ?_
  have F2 := P1.same W2
  have N2 := Fr.snoc X2 N0 P3
  show Aw p e below _ T2 m 10 #[rv x1, rv x2] []
  refine Rch.go (fun t k => XS.aloadN X2.here hx rfl (hb hby d29_10) rfl rfl (XS.aloadN X2.here hx rfl (hb hby d29_11) rfl rfl (XS.aloadN X2.here hx rfl (hb hby d29_12) rfl rfl k))) ?_
  show Aw p e below _ T2 m 13 #[rv x1, rv x2] [(.ref x1), (.ref x2), (.ref x1)]
  have f4 := (P4.other W2 (Or.inr (slot_ne (Or.inl (wd_52 hw)) (Or.inl (wd_49 hw)) (by decide) (t := (.array (.object "java/lang/Object"))) (t' := .int) (by decide) (by decide))))
  obtain ⟨T3, X3, e3, st3⟩ := getF X2 hx hZ hown (host := "") (Or.inl (wd_51 hw)) Via.refl e2 f4 (g := (mkF m 13 #[rv x1, rv x2] [(.ref x1), (.ref x2), (.ref x1)])) rfl rfl (hb hby d29_13)
  refine Rch.go st3 ?_
  show Aw p e below _ T3 m 16 #[rv x1, rv x2] [(.ref x3), (.ref x2), (.ref x1)]
  refine Rch.go (fun t k => XS.aloadN X3.here hx rfl (hb hby d29_16) rfl rfl k) ?_
  show Aw p e below _ T3 m 17 #[rv x1, rv x2] [(.ref x1), (.ref x3), (.ref x2), (.ref x1)]
  have f6 := (P5.other W2 (Or.inr (slot_ne (Or.inl (wd_98 hw)) (Or.inl (wd_49 hw)) (by decide) (t := .int) (t' := .int) (by decide) (by decide))))
  obtain ⟨T5, X5, e5, st5⟩ := getF X3 hx hZ hown (host := "") (Or.inl (wd_97 hw)) Via.refl e3 f6 (g := (mkF m 17 #[rv x1, rv x2] [(.ref x1), (.ref x3), (.ref x2), (.ref x1)])) rfl rfl (hb hby d29_17)
  refine Rch.go st5 ?_
  show Aw p e below _ T5 m 20 #[rv x1, rv x2] [(.int 1), (.ref x3), (.ref x2), (.ref x1)]
  have f7 := (P7.other W2 P8)
  have f8 := (P9.wr W2)
  have f9 := (P2.wr W2)
  have z10 := (Nat.le_trans Z0 (Nat.le_of_eq W2.size.symm))
  have o11 := (O0.wr W2 P3)
  obtain ⟨v12, T12, L12, X12, Q12, st12⟩ := callPr X5 hx hZ (m59_add l Z a0 hw x1 x2 x3 kk4 x5 h2 n0 z10 o11 P6 f7 f8 P10 f9 f6 (Ne.symm P8) P3 F2 f4) e5 hown (wd_114 hw) (wd_115 hw) (wd_117 hw) (wd_116 hw) (wd_118 hw) (wd_31 hw) (by decide) (hb hby d29_20) 0 (by decide) (by decide) (by decide) (by decide) (by rw [hml]; rfl) x1 f9 [(.ref x2), (.ref x3), (.int 1)] [] rfl (lenOf pd_24 rfl) rfl (Nat.le_of_eq rfl) (Ls := #[rv x1, rv x2])
  obtain ⟨rfl, M12, K12, F12_0, F12_1, F12_2, F12_3⟩ := Q12
  have N12 := Fr.app N2 M12
  refine Rch.go st12 ?_
  show Aw p e below _ T12 m 23 #[rv x1, rv x2] []
  refine Rch.go (fun t k => XS.iconst X12.here hx rfl (hb hby d29_23) k) ?_
  show Aw p e below _ T12 m 24 #[rv x1, rv x2] [(.int 1)]
  refine Rch.val X12 hx (t := .boolean) hret hlk rfl (mayI (by simp)) (hb hby d29_24) (by decide) (by decide) ?_
  exact ⟨rfl, N12, (((Keep.refl _ _).wr W2 (Or.inl (List.mem_of_getElem? (i := 0) rfl))).trans K12 (allS (Or.inl (List.mem_of_getElem? (i := 1) rfl)) (allS (Or.inl (List.mem_of_getElem? (i := 0) rfl)) all0))), F12_0, F12_1, F12_2, F12_3⟩
theorem ef_m63_isEmpty (m : MethodId) (x1 : Addr) : entryFrame m #[(.ref x1)] 1 = mkF m 0 #[rv x1] [] := by first | rfl | (simp [entryFrame, mkF, argsToLocals, Value.category]; done)
theorem m63_isEmpty (l : Launch) (Z : State) (a0 : Array Value) (hw : HW Z a0) (x1 : Addr) (h0 : Heap) (n0 : Nat) (Z0 : n0 ≤ h0.size) (O0 : Old Z n0 h0) (P1 : Fld Z h0 x1 s1' "size" "I" (.int 2)) :
    Ctr l Z [] (⟨s1', "isEmpty", "()Z"⟩ : MethodName) jdk_38_method_9_code 1 (some .boolean) #[(.ref x1)] h0 ({ frames := 0, cells := 0, slots := 0, locals := 0 } : Room) (fun v h L => v = some (.int 0) ∧ Fr n0 L ∧ h = h0) := by
  refine Ctr.of (plainFor_of_name pn_java_util_ArrayList) (fun m => ef_m63_isEmpty m x1) ?_
  intro p e s m below meth c T0 hx hZ hby hml hown hnm hret hlk X0 e0
  have N0 := Fr.nil n0
  show Aw p e below _ T0 m 0 #[rv x1] []
  refine Rch.go (fun t k => XS.aloadN X0.here hx rfl (hb hby d26_0) rfl rfl k) ?_
  show Aw p e below _ T0 m 1 #[rv x1] [(.ref x1)]
  obtain ⟨T1, X1, e1, st1⟩ := getF X0 hx hZ hown (host := "") (Or.inl (wd_97 hw)) Via.refl e0 P1 (g := (mkF m 1 #[rv x1] [(.ref x1)])) rfl rfl (hb hby d26_1)
  refine Rch.go st1 ?_
  show Aw p e below _ T1 m 4 #[rv x1] [(.int 2)]
  refine Rch.go (fun t k => XS.ifYes X1.here hx rfl (pc0 := 4) (pc' := 11) rfl (hb hby d26_4) rfl (by decide) (by decide) (by decide) (XS.iconst X1.here hx rfl (hb hby d26_11) k)) ?_
  show Aw p e below _ T1 m 12 #[rv x1] [(.int 0)]
  refine Rch.val X1 hx (t := .boolean) hret hlk rfl (mayI (by simp)) (hb hby d26_12) (by decide) (by decide) ?_
  try rw [e1]
  exact ⟨rfl, N0, rfl⟩
theorem ef_m67_min (m : MethodId) : entryFrame m #[(.int 10), (.int 2)] 2 = mkF m 0 #[iv 10, iv 2] [] := by first | rfl | (simp [entryFrame, mkF, argsToLocals, Value.category]; done)
theorem m67_min (l : Launch) (Z : State) (a0 : Array Value) (hw : HW Z a0)  (h0 : Heap) (n0 : Nat) (Z0 : n0 ≤ h0.size) (O0 : Old Z n0 h0) :
    Ctr l Z [] (⟨"java/lang/Math", "min", "(II)I"⟩ : MethodName) jdk_29_method_69_code 2 (some .int) #[(.int 10), (.int 2)] h0 ({ frames := 0, cells := 0, slots := 0, locals := 0 } : Room) (fun v h L => v = some (.int 2) ∧ Fr n0 L ∧ h = h0) := by
  refine Ctr.of pn_java_lang_Math_37 (fun m => ef_m67_min m ) ?_
  intro p e s m below meth c T0 hx hZ hby hml hown hnm hret hlk X0 e0
  have N0 := Fr.nil n0
  show Aw p e below _ T0 m 0 #[iv 10, iv 2] []
  refine Rch.go (fun t k => XS.iloadN X0.here hx rfl (hb hby d37_0) rfl  (XS.iloadN X0.here hx rfl (hb hby d37_1) rfl  (XS.icmpYes X0.here hx rfl (pc0 := 2) (pc' := 9) rfl (hb hby d37_2) rfl (by decide) (by decide) (by decide) (XS.iloadN X0.here hx rfl (hb hby d37_9) rfl  k)))) ?_
  show Aw p e below _ T0 m 10 #[iv 10, iv 2] [(.int 2)]
  refine Rch.val X0 hx (t := .int) hret hlk rfl (mayI (by simp)) (hb hby d37_10) (by decide) (by decide) ?_
  try rw [e0]
  exact ⟨rfl, N0, rfl⟩
theorem ef_m66_copyOf (m : MethodId) (x1 x2 : Addr) : entryFrame m #[(.ref x1), (.int 2), (.ref x2)] 4 = mkF m 0 #[rv x1, iv 2, rv x2, uu] [] := by first | rfl | (simp [entryFrame, mkF, argsToLocals, Value.category]; done)
theorem m66_copyOf (l : Launch) (Z : State) (a0 : Array Value) (hw : HW Z a0) (x1 x2 : Addr) (kk3 : ClassId) (x4 x5 : Addr) (h0 : Heap) (n0 : Nat) (Z0 : n0 ≤ h0.size) (O0 : Old Z n0 h0) (P1 : MirA Z s4' x2) (P2 : Ovr Z kk3 "java/lang/Object") (P3 : Arv Z h0 x1 kk3 (.object "java/lang/Object") (10 : Int32) [(.ref x4), (.ref x5), .null, .null, .null, .null, .null, .null, .null, .null] .null) (P4 : Exa Z h0 x4 s2') (P5 : Exa Z h0 x5 s2') :
    Ctr l Z [] (⟨"java/util/Arrays", "copyOf", "([Ljava/lang/Object;ILjava/lang/Class;)[Ljava/lang/Object;"⟩ : MethodName) jdk_65_method_120_code 4 (some (.array (.object "java/lang/Object"))) #[(.ref x1), (.int 2), (.ref x2)] h0 ({ frames := 1, cells := 1, slots := 2, locals := 18 } : Room) (fun v h L => ∃ (b2 : Addr) (k2 : ClassId), v = some (.ref b2) ∧ Fr n0 L ∧ Keep h0 h [] ∧ h0.size ≤ b2 ∧ Ovr Z k2 "java/lang/Object" ∧ Exa Z h b2 s4' ∧ Arv Z h b2 k2 (.object "java/lang/Object") (2 : Int32) [(.ref x4), (.ref x5)] .null) := by
  refine Ctr.of (plainFor_of_name pn_java_util_Arrays) (fun m => ef_m66_copyOf m x1 x2) ?_
  intro p e s m below meth c T0 hx hZ hby hml hown hnm hret hlk X0 e0
  have N0 := Fr.nil n0
  show Aw p e below _ T0 m 0 #[rv x1, iv 2, rv x2, uu] []
  refine Rch.go (fun t k => XS.aloadN X0.here hx rfl (hb hby d36_0) rfl rfl k) ?_
  show Aw p e below _ T0 m 1 #[rv x1, iv 2, rv x2, uu] [(.ref x2)]
  obtain ⟨T1, X1, e1, st1⟩ := own_ldcM X0 hx hZ hown (wd_157 hw) P1 e0 (g := (mkF m 1 #[rv x1, iv 2, rv x2, uu] [(.ref x2)])) rfl (hb hby d36_1)
  refine Rch.go st1 ?_
  show Aw p e below _ T1 m 3 #[rv x1, iv 2, rv x2, uu] [(.ref x2), (.ref x2)]
  refine Rch.go (fun t k => acmp X1 hx rfl (x := (.ref x2)) (y := (.ref x2)) rfl rfl (pc0 := 3) (pc' := 6) (same := true) rfl (hb hby d36_3) rfl (decide_eq_true rfl) (by decide) (by decide) (XS.iloadN X1.here hx rfl (hb hby d36_6) rfl  k)) ?_
  show Aw p e below _ T1 m 7 #[rv x1, iv 2, rv x2, uu] [(.int 2)]
  obtain ⟨T2, h2, k2, X2, e2, E2, A2, B2, O2, st2⟩ := newRE X1 hx hZ hown (wd_158 hw) (wd_134 hw) e1 (g := (mkF m 7 #[rv x1, iv 2, rv x2, uu] [(.int 2)])) rfl (hb hby d36_7) rfl (by decide) (cap := 2) (by decide) (by decide) (by decide) (by decide) (ad := s4') (by decide +kernel)
  obtain ⟨b2, g2⟩ : ∃ z, z = h0.size := ⟨_, rfl⟩
  rw [← g2] at A2 B2 st2
  refine Rch.go st2 ?_
  have g_b2 : n0 ≤ b2 := Nat.le_trans Z0 (Nat.le_of_eq g2.symm)
  have V2 : Arv Z h2 b2 k2 (.object "java/lang/Object") (2 : Int32) [.null, .null] .null := (Arv.new A2 (by decide)).pad (pad_rep [] .null 2)
  show Aw p e below _ T2 m 10 #[rv x1, iv 2, rv x2, uu] [(.ref b2)]
  refine Rch.go (fun t k => XS.goto X2.here hx rfl (pc0 := 10) (pc' := 24) rfl (hb hby d36_10) (by decide) (by decide) (XS.astoreN X2.here hx rfl (hb hby d36_24) rfl rfl (l' := #[rv x1, iv 2, rv x2, rv b2]) rfl (XS.aloadN X2.here hx rfl (hb hby d36_25) rfl rfl (XS.iconst X2.here hx rfl (hb hby d36_26) (XS.aloadN X2.here hx rfl (hb hby d36_27) rfl rfl (XS.iconst X2.here hx rfl (hb hby d36_28) (XS.aloadN X2.here hx rfl (hb hby d36_29) rfl rfl k))))))) ?_
  show Aw p e below _ T2 m 30 #[rv x1, iv 2, rv x2, rv b2] [(.ref x1), (.int 0), (.ref b2), (.int 0), (.ref x1)]
  have f3 := (P3.ext E2)
  obtain ⟨c4, r4, q4, s4, u4, H4, G4⟩ := id f3
  refine Rch.go (fun t k => X2.arraylength hx (by rw [e2]; exact r4.1) (State.isArrayOf_alike hZ.alike r4.2.1) (g := (mkF m 30 #[rv x1, iv 2, rv x2, rv b2] [(.ref x1), (.int 0), (.ref b2), (.int 0), (.ref x1)])) rfl rfl (hb hby d36_30) t (by rw [len_of s4 u4]; exact k)) ?_
  show Aw p e below _ T2 m 31 #[rv x1, iv 2, rv x2, rv b2] [(.int 10), (.int 0), (.ref b2), (.int 0), (.ref x1)]
  refine Rch.go (fun t k => XS.iloadN X2.here hx rfl (hb hby d36_31) rfl  k) ?_
  show Aw p e below _ T2 m 32 #[rv x1, iv 2, rv x2, rv b2] [(.int 2), (.int 10), (.int 0), (.ref b2), (.int 0), (.ref x1)]
  have z5 := (Nat.le_trans Z0 E2.1)
  have o6 := (O0.ext E2)
  obtain ⟨v7, T7, L7, X7, Q7, st7⟩ := callSt X2 hx hZ (m67_min l Z a0 hw  h2 n0 z5 o6 ) e2 hown (wd_159 hw) (wd_160 hw) (wd_161 hw) (wd_131 hw) (by decide) (hb hby d36_32) 4 (by decide) (by decide) (by decide) (by decide) (by rw [hml]; rfl) [(.int 10), (.int 2)] [(.int 0), (.ref b2), (.int 0), (.ref x1)] rfl (lenOf pd_21 rfl) rfl (Nat.le_of_eq rfl) (Ls := #[rv x1, iv 2, rv x2, rv b2])
  obtain ⟨rfl, M7, e7⟩ := Q7
  have N7 := Fr.app N0 M7
  refine Rch.go st7 ?_
  show Aw p e below _ T7 m 35 #[rv x1, iv 2, rv x2, rv b2] [(.int 2), (.int 0), (.ref b2), (.int 0), (.ref x1)]
  have f9 := (P4.ext E2)
  have f10 := (P5.ext E2)
  obtain ⟨c11, r11, q11, s11, u11, H11, G11⟩ := id V2
  obtain ⟨T8, h8, L8, X8, e8, N8, K8, V8, st8⟩ := cpA X7 hx hZ hown (wd_162 hw) (wd_165 hw) (wd_163 hw) (wd_164 hw) e7 f3 V2 (us := [(.ref x4), (.ref x5)]) (Or.inr ⟨rfl, rfl, ⟨(Sto.ofV r11 q11 O2 (Ins.of_exa f9 (wd_135 hw))), (Sto.ofV r11 q11 O2 (Ins.of_exa f10 (wd_135 hw))), trivial⟩⟩) (sp := (0 : Int32)) (dp := (0 : Int32)) (nn := (2 : Int32)) (by decide) (by decide) (by decide) (by decide) (by decide) rfl (by decide) N7 g_b2 (g := (mkF m 35 #[rv x1, iv 2, rv x2, rv b2] [(.int 2), (.int 0), (.ref b2), (.int 0), (.ref x1)])) rfl (by rw [hml]; rfl) rfl (hb hby d36_35) (by decide) (W := 0) (by show 2 * 0 + _ ≤ _; exact Nat.le_of_eq rfl) (by decide)
  refine Rch.go st8 ?_
  have U8 : Arv Z h8 b2 k2 (.object "java/lang/Object") (2 : Int32) [(.ref x4), (.ref x5)] .null := V8
  show Aw p e below _ T8 m 38 #[rv x1, iv 2, rv x2, rv b2] []
  refine Rch.go (fun t k => XS.aloadN X8.here hx rfl (hb hby d36_38) rfl rfl k) ?_
  show Aw p e below _ T8 m 39 #[rv x1, iv 2, rv x2, rv b2] [(.ref b2)]
  have f12 := (B2.keep K8)
  refine Rch.val X8 hx (t := (.array (.object "java/lang/Object"))) hret hlk rfl (Or.inr (Or.inr (Or.inr (Or.inr ⟨rfl, rfl, rfl⟩)))) (hb hby d36_39) (by decide) (by decide) ?_
  try rw [e8]
  exact ⟨b2, k2, rfl, N8, (((Keep.refl _ _).ext E2).trans K8 (allS (Or.inr (Nat.le_trans (Nat.le_refl _) (Nat.le_of_eq g2.symm))) all0)), (Nat.le_trans (Nat.le_refl _) (Nat.le_of_eq g2.symm)), O2, f12, U8⟩
theorem ef_m65_copyOf (m : MethodId) (x1 : Addr) : entryFrame m #[(.ref x1), (.int 2)] 2 = mkF m 0 #[rv x1, iv 2] [] := by first | rfl | (simp [entryFrame, mkF, argsToLocals, Value.category]; done)
theorem m65_copyOf (l : Launch) (Z : State) (a0 : Array Value) (hw : HW Z a0) (x1 x2 : Addr) (kk3 : ClassId) (x4 x5 : Addr) (h0 : Heap) (n0 : Nat) (Z0 : n0 ≤ h0.size) (O0 : Old Z n0 h0) (P1 : Exa Z h0 x1 s4') (P2 : MirA Z s4' x2) (P3 : Ovr Z kk3 "java/lang/Object") (P4 : Arv Z h0 x1 kk3 (.object "java/lang/Object") (10 : Int32) [(.ref x4), (.ref x5), .null, .null, .null, .null, .null, .null, .null, .null] .null) (P5 : Exa Z h0 x4 s2') (P6 : Exa Z h0 x5 s2') :
    Ctr l Z [] (⟨"java/util/Arrays", "copyOf", "([Ljava/lang/Object;I)[Ljava/lang/Object;"⟩ : MethodName) jdk_65_method_119_code 2 (some (.array (.object "java/lang/Object"))) #[(.ref x1), (.int 2)] h0 ({ frames := 2, cells := 1, slots := 2, locals := 33 } : Room) (fun v h L => ∃ (b2_0 : Addr) (k2_0 : ClassId), v = some (.ref b2_0) ∧ Fr n0 L ∧ Keep h0 h [] ∧ h0.size ≤ b2_0 ∧ Ovr Z k2_0 "java/lang/Object" ∧ Exa Z h b2_0 s4' ∧ Arv Z h b2_0 k2_0 (.object "java/lang/Object") (2 : Int32) [(.ref x4), (.ref x5)] .null) := by
  refine Ctr.of (plainFor_of_name pn_java_util_Arrays) (fun m => ef_m65_copyOf m x1) ?_
  intro p e s m below meth c T0 hx hZ hby hml hown hnm hret hlk X0 e0
  have N0 := Fr.nil n0
  show Aw p e below _ T0 m 0 #[rv x1, iv 2] []
  refine Rch.go (fun t k => XS.aloadN X0.here hx rfl (hb hby d35_0) rfl rfl (XS.iloadN X0.here hx rfl (hb hby d35_1) rfl  (XS.aloadN X0.here hx rfl (hb hby d35_2) rfl rfl k))) ?_
  show Aw p e below _ T0 m 3 #[rv x1, iv 2] [(.ref x1), (.int 2), (.ref x1)]
  obtain ⟨T1, X1, e1, st1⟩ := own_gcls X0 hx hZ hown (wd_148 hw) (wd_149 hw) (wd_151 hw) (wd_150 hw) (wd_152 hw) e0 P1 P2 (g := (mkF m 3 #[rv x1, iv 2] [(.ref x1), (.int 2), (.ref x1)])) rfl (by rw [hml]; rfl) rfl (hb hby d35_3) (by decide) (W := 2) (by show 2 * 0 + _ ≤ _; exact Nat.le_of_eq rfl) (by decide)
  refine Rch.go st1 ?_
  show Aw p e below _ T1 m 6 #[rv x1, iv 2] [(.ref x2), (.int 2), (.ref x1)]
  obtain ⟨v2, T2, L2, X2, Q2, st2⟩ := callSt X1 hx hZ (m66_copyOf l Z a0 hw x1 x2 kk3 x4 x5 h0 n0 Z0 O0 P2 P3 P4 P5 P6) e1 hown (wd_154 hw) (wd_155 hw) (wd_156 hw) (wd_146 hw) (by decide) (hb hby d35_6) 0 (by decide) (by decide) (by decide) (by decide) (by rw [hml]; rfl) [(.ref x1), (.int 2), (.ref x2)] [] rfl (lenOf pd_25 rfl) rfl (Nat.le_of_eq rfl) (Ls := #[rv x1, iv 2])
  obtain ⟨b2_0, k2_0, rfl, M2, K2, zz2_0, O2_0, F2_0, F2_1⟩ := Q2
  have N2 := Fr.app N0 M2
  refine Rch.go st2 ?_
  have g_b2_0 : n0 ≤ b2_0 := Nat.le_trans Z0 zz2_0
  show Aw p e below _ T2 m 9 #[rv x1, iv 2] [(.ref b2_0)]
  refine Rch.val X2 hx (t := (.array (.object "java/lang/Object"))) hret hlk rfl (Or.inr (Or.inr (Or.inr (Or.inr ⟨rfl, rfl, rfl⟩)))) (hb hby d35_9) (by decide) (by decide) ?_
  exact ⟨b2_0, k2_0, rfl, N2, ((Keep.refl _ _).trans K2 all0), (Nat.le_trans (Nat.le_refl _) zz2_0), O2_0, F2_0, F2_1⟩
theorem ef_m64_toArray (m : MethodId) (x1 : Addr) : entryFrame m #[(.ref x1)] 1 = mkF m 0 #[rv x1] [] := by first | rfl | (simp [entryFrame, mkF, argsToLocals, Value.category]; done)
theorem m64_toArray (l : Launch) (Z : State) (a0 : Array Value) (hw : HW Z a0) (x1 x2 x3 : Addr) (kk4 : ClassId) (x5 x6 : Addr) (h0 : Heap) (n0 : Nat) (Z0 : n0 ≤ h0.size) (O0 : Old Z n0 h0) (P1 : Fld Z h0 x1 s1' "elementData" s4' (.ref x2)) (P2 : Fld Z h0 x1 s1' "size" "I" (.int 2)) (P3 : Exa Z h0 x2 s4') (P4 : MirA Z s4' x3) (P5 : Ovr Z kk4 "java/lang/Object") (P6 : Arv Z h0 x2 kk4 (.object "java/lang/Object") (10 : Int32) [(.ref x5), (.ref x6), .null, .null, .null, .null, .null, .null, .null, .null] .null) (P7 : Exa Z h0 x5 s2') (P8 : Exa Z h0 x6 s2') :
    Ctr l Z [] (⟨s1', "toArray", "()[Ljava/lang/Object;"⟩ : MethodName) jdk_38_method_16_code 1 (some (.array (.object "java/lang/Object"))) #[(.ref x1)] h0 ({ frames := 3, cells := 1, slots := 2, locals := 46 } : Room) (fun v h L => ∃ (b3_0 : Addr) (k3_0 : ClassId), v = some (.ref b3_0) ∧ Fr n0 L ∧ Keep h0 h [] ∧ h0.size ≤ b3_0 ∧ Ovr Z k3_0 "java/lang/Object" ∧ Exa Z h b3_0 s4' ∧ Arv Z h b3_0 k3_0 (.object "java/lang/Object") (2 : Int32) [(.ref x5), (.ref x6)] .null) := by
  refine Ctr.of (plainFor_of_name pn_java_util_ArrayList) (fun m => ef_m64_toArray m x1) ?_
  intro p e s m below meth c T0 hx hZ hby hml hown hnm hret hlk X0 e0
  have N0 := Fr.nil n0
  show Aw p e below _ T0 m 0 #[rv x1] []
  refine Rch.go (fun t k => XS.aloadN X0.here hx rfl (hb hby d34_0) rfl rfl k) ?_
  show Aw p e below _ T0 m 1 #[rv x1] [(.ref x1)]
  obtain ⟨T1, X1, e1, st1⟩ := getF X0 hx hZ hown (host := "") (Or.inl (wd_51 hw)) Via.refl e0 P1 (g := (mkF m 1 #[rv x1] [(.ref x1)])) rfl rfl (hb hby d34_1)
  refine Rch.go st1 ?_
  show Aw p e below _ T1 m 4 #[rv x1] [(.ref x2)]
  refine Rch.go (fun t k => XS.aloadN X1.here hx rfl (hb hby d34_4) rfl rfl k) ?_
  show Aw p e below _ T1 m 5 #[rv x1] [(.ref x1), (.ref x2)]
  obtain ⟨T2, X2, e2, st2⟩ := getF X1 hx hZ hown (host := "") (Or.inl (wd_97 hw)) Via.refl e1 P2 (g := (mkF m 5 #[rv x1] [(.ref x1), (.ref x2)])) rfl rfl (hb hby d34_5)
  refine Rch.go st2 ?_
  show Aw p e below _ T2 m 8 #[rv x1] [(.int 2), (.ref x2)]
  obtain ⟨v3, T3, L3, X3, Q3, st3⟩ := callSt X2 hx hZ (m65_copyOf l Z a0 hw x2 x3 kk4 x5 x6 h0 n0 Z0 O0 P3 P4 P5 P6 P7 P8) e2 hown (wd_144 hw) (wd_145 hw) (wd_147 hw) (wd_146 hw) (by decide) (hb hby d34_8) 0 (by decide) (by decide) (by decide) (by decide) (by rw [hml]; rfl) [(.ref x2), (.int 2)] [] rfl (lenOf pd_26 rfl) rfl (Nat.le_of_eq rfl) (Ls := #[rv x1])
  obtain ⟨b3_0, k3_0, rfl, M3, K3, zz3_0, O3_0, F3_0, F3_1⟩ := Q3
  have N3 := Fr.app N0 M3
  refine Rch.go st3 ?_
  have g_b3_0 : n0 ≤ b3_0 := Nat.le_trans Z0 zz3_0
  show Aw p e below _ T3 m 11 #[rv x1] [(.ref b3_0)]
  refine Rch.val X3 hx (t := (.array (.object "java/lang/Object"))) hret hlk rfl (Or.inr (Or.inr (Or.inr (Or.inr ⟨rfl, rfl, rfl⟩)))) (hb hby d34_11) (by decide) (by decide) ?_
  exact ⟨b3_0, k3_0, rfl, N3, ((Keep.refl _ _).trans K3 all0), (Nat.le_trans (Nat.le_refl _) zz3_0), O3_0, F3_0, F3_1⟩
theorem d38_45 : decode jdk_40_method_47_code 45 = .ok (.new 96, 3) := by decide +kernel
theorem d38_48 : decode jdk_40_method_47_code 48 = .ok (.dup, 1) := by decide +kernel
theorem d38_49 : decode jdk_40_method_47_code 49 = .ok (.aload_n 0, 1) := by decide +kernel
theorem d38_50 : decode jdk_40_method_47_code 50 = .ok (.iconst 0, 1) := by decide +kernel
theorem d38_51 : decode jdk_40_method_47_code 51 = .ok (.aaload, 1) := by decide +kernel
theorem d38_52 : decode jdk_40_method_47_code 52 = .ok (.aload_n 0, 1) := by decide +kernel
theorem d38_53 : decode jdk_40_method_47_code 53 = .ok (.iconst 1, 1) := by decide +kernel
theorem d38_54 : decode jdk_40_method_47_code 54 = .ok (.aaload, 1) := by decide +kernel
theorem d38_55 : decode jdk_40_method_47_code 55 = .ok (.invokespecial 100, 3) := by decide +kernel
theorem wd_236 {Z a0} (hw : HW Z a0) : (Cond.methodLink "java/util/List" (100 : Nat) ⟨s3', "<init>", "(Ljava/lang/Object;Ljava/lang/Object;)V"⟩).before a0 Z = true := hw.at 236 rfl
theorem d42_0 : decode jdk_44_method_2_code 0 = .ok (.aload_n 0, 1) := by decide +kernel
theorem d42_1 : decode jdk_44_method_2_code 1 = .ok (.invokespecial 1, 3) := by decide +kernel
theorem d42_4 : decode jdk_44_method_2_code 4 = .ok (.aload_n 0, 1) := by decide +kernel
theorem d42_5 : decode jdk_44_method_2_code 5 = .ok (.aload_n 1, 1) := by decide +kernel
theorem d42_6 : decode jdk_44_method_2_code 6 = .ok (.invokestatic 7, 3) := by decide +kernel
theorem d42_9 : decode jdk_44_method_2_code 9 = .ok (.putfield 13, 3) := by decide +kernel
theorem d42_12 : decode jdk_44_method_2_code 12 = .ok (.aload_n 0, 1) := by decide +kernel
theorem d42_13 : decode jdk_44_method_2_code 13 = .ok (.aload_n 2, 1) := by decide +kernel
theorem d42_14 : decode jdk_44_method_2_code 14 = .ok (.invokestatic 7, 3) := by decide +kernel
theorem d42_17 : decode jdk_44_method_2_code 17 = .ok (.putfield 24, 3) := by decide +kernel
theorem d42_20 : decode jdk_44_method_2_code 20 = .ok (.return_, 1) := by decide +kernel
theorem ef_m69_init (m : MethodId) (x1 x2 x3 : Addr) : entryFrame m #[(.ref x1), (.ref x2), (.ref x3)] 3 = mkF m 0 #[rv x1, rv x2, rv x3] [] := by first | rfl | (simp [entryFrame, mkF, argsToLocals, Value.category]; done)
theorem m69_init (l : Launch) (Z : State) (a0 : Array Value) (hw : HW Z a0) (x1 x2 x3 : Addr) (h0 : Heap) (n0 : Nat) (Z0 : n0 ≤ h0.size) (O0 : Old Z n0 h0) (P1 : Exa Z h0 x1 s3') (P2 : Fld Z h0 x1 s3' "e0" "Ljava/lang/Object;" .null) (P3 : n0 ≤ x1) (P4 : Fld Z h0 x1 s3' "e1" "Ljava/lang/Object;" .null) :
    Ctr l Z [] (⟨s3', "<init>", "(Ljava/lang/Object;Ljava/lang/Object;)V"⟩ : MethodName) jdk_44_method_2_code 3 none #[(.ref x1), (.ref x2), (.ref x3)] h0 ({ frames := 4, cells := 0, slots := 0, locals := 48 } : Room) (fun v h L => v = none ∧ Fr n0 L ∧ Keep h0 h [x1] ∧ Fld Z h x1 s3' "e0" "Ljava/lang/Object;" (.ref x2) ∧ Fld Z h x1 s3' "e1" "Ljava/lang/Object;" (.ref x3)) := by
  refine Ctr.of (plainFor_of_name pn_java_util_ImmutableCollections_List12) (fun m => ef_m69_init m x1 x2 x3) ?_
  intro p e s m below meth c T0 hx hZ hby hml hown hnm hret hlk X0 e0
  have N0 := Fr.nil n0
  show Aw p e below _ T0 m 0 #[rv x1, rv x2, rv x3] []
  refine Rch.go (fun t k => XS.aloadN X0.here hx rfl (hb hby d42_0) rfl rfl k) ?_
  show Aw p e below _ T0 m 1 #[rv x1, rv x2, rv x3] [(.ref x1)]
  obtain ⟨v1, T1, L1, X1, Q1, st1⟩ := callSp X0 hx hZ (m56_init l Z a0 hw x1 h0 n0 Z0 O0 ) e0 hown rfl (wd_176 hw) (wd_177 hw) (wd_181 hw) (wd_180 hw) (by decide) (hb hby d42_1) 0 (by decide) (by decide) (by decide) (by decide) (by rw [hml]; rfl) x1 [] [] rfl (lenOf pd_14 rfl) rfl (Nat.le_of_eq rfl) (Ls := #[rv x1, rv x2, rv x3])
  obtain ⟨rfl, M1, e1⟩ := Q1
  have N1 := Fr.app N0 M1
  refine Rch.go st1 ?_
  show Aw p e below _ T1 m 4 #[rv x1, rv x2, rv x3] []
  refine Rch.go (fun t k => XS.aloadN X1.here hx rfl (hb hby d42_4) rfl rfl (XS.aloadN X1.here hx rfl (hb hby d42_5) rfl rfl k)) ?_
  show Aw p e below _ T1 m 6 #[rv x1, rv x2, rv x3] [(.ref x2), (.ref x1)]
  obtain ⟨v2, T2, L2, X2, Q2, st2⟩ := callSt X1 hx hZ (m4_requireNonNull l Z a0 hw x2 h0 n0 Z0 O0 ) e1 hown (wd_190 hw) (wd_191 hw) (wd_192 hw) (wd_67 hw) (by decide) (hb hby d42_6) 1 (by decide) (by decide) (by decide) (by decide) (by rw [hml]; rfl) [(.ref x2)] [(.ref x1)] rfl (lenOf pd_2 rfl) rfl (Nat.le_of_eq rfl) (Ls := #[rv x1, rv x2, rv x3])
  obtain ⟨rfl, M2, e2⟩ := Q2
  have N2 := Fr.app N1 M2
  refine Rch.go st2 ?_
  show Aw p e below _ T2 m 9 #[rv x1, rv x2, rv x3] [(.ref x2), (.ref x1)]
  obtain ⟨T3, h3, X3, e3, W3, st3⟩ := putF X2 hx hZ hown (host := "") (Or.inl (wd_193 hw)) Via.refl e2 P2 P1 (Or.inr ⟨(wd_194 hw), rfl, hnm⟩) (wd_170 hw) (ty := (.object "java/lang/Object")) (by decide) rfl rfl (g := (mkF m 9 #[rv x1, rv x2, rv x3] [(.ref x2), (.ref x1)])) rfl rfl (hb hby d42_9)
  refine Rch.go st3 ?_
  have F3 := P2.same W3
  have N3 := Fr.snoc X3 N2 P3
  show Aw p e below _ T3 m 12 #[rv x1, rv x2, rv x3] []
  refine Rch.go (fun t k => XS.aloadN X3.here hx rfl (hb hby d42_12) rfl rfl (XS.aloadN X3.here hx rfl (hb hby d42_13) rfl rfl k)) ?_
  show Aw p e below _ T3 m 14 #[rv x1, rv x2, rv x3] [(.ref x3), (.ref x1)]
  have z4 := (Nat.le_trans Z0 (Nat.le_of_eq W3.size.symm))
  have o5 := (O0.wr W3 P3)
  obtain ⟨v6, T6, L6, X6, Q6, st6⟩ := callSt X3 hx hZ (m4_requireNonNull l Z a0 hw x3 h3 n0 z4 o5 ) e3 hown (wd_190 hw) (wd_191 hw) (wd_192 hw) (wd_67 hw) (by decide) (hb hby d42_14) 1 (by decide) (by decide) (by decide) (by decide) (by rw [hml]; rfl) [(.ref x3)] [(.ref x1)] rfl (lenOf pd_2 rfl) rfl (Nat.le_of_eq rfl) (Ls := #[rv x1, rv x2, rv x3])
  obtain ⟨rfl, M6, e6⟩ := Q6
  have N6 := Fr.app N3 M6
  refine Rch.go st6 ?_
  show Aw p e below _ T6 m 17 #[rv x1, rv x2, rv x3] [(.ref x3), (.ref x1)]
  have f8 := (P4.other W3 (Or.inr (slot_ne (Or.inr (wd_197 hw)) (Or.inr (wd_194 hw)) (by decide) (t := (.object "java/lang/Object")) (t' := (.object "java/lang/Object")) (by decide) (by decide))))
  have f9 := (P1.wr W3)
  obtain ⟨T7, h7, X7, e7, W7, st7⟩ := putF X6 hx hZ hown (host := "") (Or.inl (wd_196 hw)) Via.refl e6 f8 f9 (Or.inr ⟨(wd_197 hw), rfl, hnm⟩) (wd_170 hw) (ty := (.object "java/lang/Object")) (by decide) rfl rfl (g := (mkF m 17 #[rv x1, rv x2, rv x3] [(.ref x3), (.ref x1)])) rfl rfl (hb hby d42_17)
  refine Rch.go st7 ?_
  have F7 := f8.same W7
  have N7 := Fr.snoc X7 N6 P3
  show Aw p e below _ T7 m 20 #[rv x1, rv x2, rv x3] []
  have f10 := (F3.other W7 (Or.inr (slot_ne (Or.inr (wd_194 hw)) (Or.inr (wd_197 hw)) (by decide) (t := (.object "java/lang/Object")) (t' := (.object "java/lang/Object")) (by decide) (by decide))))
  refine Rch.void X7 hx hret hlk (hb hby d42_20) (by decide) (by decide) ?_
  try rw [e7]
  exact ⟨rfl, N7, (((Keep.refl _ _).wr W3 (Or.inl (List.mem_of_getElem? (i := 0) rfl))).wr W7 (Or.inl (List.mem_of_getElem? (i := 0) rfl))), f10, F7⟩
theorem wd_238 {Z a0} (hw : HW Z a0) : (Cond.code ⟨s3', "<init>", "(Ljava/lang/Object;Ljava/lang/Object;)V"⟩ jdk_44_method_2_code (3 : Nat) (Option.none : Option FieldType)).before a0 Z = true := hw.at 238 rfl
theorem pd_28 : parseMethodDescriptor "(Ljava/lang/Object;Ljava/lang/Object;)V" = some ⟨[(.object "java/lang/Object"), (.object "java/lang/Object")], none⟩ := by decide +kernel
theorem wd_237 {Z a0} (hw : HW Z a0) : (Cond.instanceMethod ⟨s3', "<init>", "(Ljava/lang/Object;Ljava/lang/Object;)V"⟩).before a0 Z = true := hw.at 237 rfl
theorem d38_58 : decode jdk_40_method_47_code 58 = .ok (.areturn, 1) := by decide +kernel
theorem ef_m68_of (m : MethodId) (x1 : Addr) : entryFrame m #[(.ref x1)] 2 = mkF m 0 #[rv x1, uu] [] := by first | rfl | (simp [entryFrame, mkF, argsToLocals, Value.category]; done)
theorem m68_of (l : Launch) (Z : State) (a0 : Array Value) (hw : HW Z a0) (x1 : Addr) (kk2 : ClassId) (x3 x4 : Addr) (h0 : Heap) (n0 : Nat) (Z0 : n0 ≤ h0.size) (O0 : Old Z n0 h0) (P1 : Ovr Z kk2 "java/lang/Object") (P2 : Arv Z h0 x1 kk2 (.object "java/lang/Object") (2 : Int32) [(.ref x3), (.ref x4)] .null) :
    Ctr l Z [] (⟨"java/util/List", "of", "([Ljava/lang/Object;)Ljava/util/List;"⟩ : MethodName) jdk_40_method_47_code 2 (some (.object "java/util/List")) #[(.ref x1)] h0 ({ frames := 5, cells := 1, slots := 2, locals := 63 } : Room) (fun v h L => ∃ (b2 : Addr), v = some (.ref b2) ∧ Fr n0 L ∧ Keep h0 h [] ∧ h0.size ≤ b2 ∧ Exa Z h b2 s3' ∧ Fld Z h b2 s3' "e0" "Ljava/lang/Object;" (.ref x3) ∧ Fld Z h b2 s3' "e1" "Ljava/lang/Object;" (.ref x4)) := by
  refine Ctr.of (plainFor_of_name pn_java_util_List) (fun m => ef_m68_of m x1) ?_
  intro p e s m below meth c T0 hx hZ hby hml hown hnm hret hlk X0 e0
  have N0 := Fr.nil n0
  show Aw p e below _ T0 m 0 #[rv x1, uu] []
  refine Rch.go (fun t k => XS.aloadN X0.here hx rfl (hb hby d38_0) rfl rfl k) ?_
  show Aw p e below _ T0 m 1 #[rv x1, uu] [(.ref x1)]
  obtain ⟨c1, r1, q1, s1, u1, H1, G1⟩ := id P2
  refine Rch.go (fun t k => X0.arraylength hx (by rw [e0]; exact r1.1) (State.isArrayOf_alike hZ.alike r1.2.1) (g := (mkF m 1 #[rv x1, uu] [(.ref x1)])) rfl rfl (hb hby d38_1) t (by rw [len_of s1 u1]; exact k)) ?_
  show Aw p e below _ T0 m 2 #[rv x1, uu] [(.int 2)]
  refine Rch.go (fun t k => XS.tswIn X0.here hx rfl (pc0 := 2) (pc' := 45) (o := 43) rfl (hb hby d38_2) rfl (by decide) (by decide) (by decide) (by decide) k) ?_
  show Aw p e below _ T0 m 45 #[rv x1, uu] []
  obtain ⟨T2, h2, X2, e2, E2, A2, D2, -, st2⟩ := newO X0 hx hZ hown (wd_169 hw) (wd_170 hw) (wd_171 hw) e0 (g := (mkF m 45 #[rv x1, uu] [])) rfl (hb hby d38_45) (by decide) (by decide)
  obtain ⟨b2, g2⟩ : ∃ z, z = h0.size := ⟨_, rfl⟩
  rw [← g2] at A2 D2 st2
  refine Rch.go st2 ?_
  have g_b2 : n0 ≤ b2 := Nat.le_trans Z0 (Nat.le_of_eq g2.symm)
  have F2_e0 : Fld Z h2 b2 s3' "e0" "Ljava/lang/Object;" .null := (D2 (Or.inr (wd_194 hw)) (ty := (.object "java/lang/Object")) (by decide))
  have F2_e1 : Fld Z h2 b2 s3' "e1" "Ljava/lang/Object;" .null := (D2 (Or.inr (wd_197 hw)) (ty := (.object "java/lang/Object")) (by decide))
  show Aw p e below _ T2 m 48 #[rv x1, uu] [(.ref b2)]
  refine Rch.go (fun t k => XS.dup X2.here hx rfl (hb hby d38_48) rfl rfl (XS.aloadN X2.here hx rfl (hb hby d38_49) rfl rfl (XS.iconst X2.here hx rfl (hb hby d38_50) k))) ?_
  show Aw p e below _ T2 m 51 #[rv x1, uu] [(.int 0), (.ref x1), (.ref b2), (.ref b2)]
  have f3 := (P2.ext E2)
  obtain ⟨c4, r4, q4, s4, u4, H4, G4⟩ := id f3
  refine Rch.go (fun t k => X2.aaload hx (j := (0 : Int32)) (v := (.ref x3)) (by rw [e2]; exact r4.1) (State.isArrayOf_alike hZ.alike r4.2.1) rfl r4.2.2 (inb_of s4 (by decide)) (H4.at (inb_of s4 (by decide)) rfl) (g := (mkF m 51 #[rv x1, uu] [(.int 0), (.ref x1), (.ref b2), (.ref b2)])) rfl rfl (hb hby d38_51) t k) ?_
  show Aw p e below _ T2 m 52 #[rv x1, uu] [(.ref x3), (.ref b2), (.ref b2)]
  refine Rch.go (fun t k => XS.aloadN X2.here hx rfl (hb hby d38_52) rfl rfl (XS.iconst X2.here hx rfl (hb hby d38_53) k)) ?_
  show Aw p e below _ T2 m 54 #[rv x1, uu] [(.int 1), (.ref x1), (.ref x3), (.ref b2), (.ref b2)]
  obtain ⟨c5, r5, q5, s5, u5, H5, G5⟩ := id f3
  refine Rch.go (fun t k => X2.aaload hx (j := (1 : Int32)) (v := (.ref x4)) (by rw [e2]; exact r5.1) (State.isArrayOf_alike hZ.alike r5.2.1) rfl r5.2.2 (inb_of s5 (by decide)) (H5.at (inb_of s5 (by decide)) rfl) (g := (mkF m 54 #[rv x1, uu] [(.int 1), (.ref x1), (.ref x3), (.ref b2), (.ref b2)])) rfl rfl (hb hby d38_54) t k) ?_
  show Aw p e below _ T2 m 55 #[rv x1, uu] [(.ref x4), (.ref x3), (.ref b2), (.ref b2)]
  have z6 := (Nat.le_trans Z0 E2.1)
  have o7 := (O0.ext E2)
  obtain ⟨v8, T8, L8, X8, Q8, st8⟩ := callSp X2 hx hZ (m69_init l Z a0 hw b2 x3 x4 h2 n0 z6 o7 A2 F2_e0 g_b2 F2_e1) e2 hown rfl (wd_236 hw) (wd_237 hw) (wd_238 hw) (wd_171 hw) (by decide) (hb hby d38_55) 1 (by decide) (by decide) (by decide) (by decide) (by rw [hml]; rfl) b2 [(.ref x3), (.ref x4)] [(.ref b2)] rfl (lenOf pd_28 rfl) rfl (Nat.le_of_eq rfl) (Ls := #[rv x1, uu])
  obtain ⟨rfl, M8, K8, F8_0, F8_1⟩ := Q8
  have N8 := Fr.app N0 M8
  refine Rch.go st8 ?_
  show Aw p e below _ T8 m 58 #[rv x1, uu] [(.ref b2)]
  have f9 := (A2.keep K8)
  refine Rch.val X8 hx (t := (.object "java/util/List")) hret hlk rfl (Or.inr (Or.inr (Or.inr (Or.inr ⟨rfl, rfl, rfl⟩)))) (hb hby d38_58) (by decide) (by decide) ?_
  exact ⟨b2, rfl, N8, (((Keep.refl _ _).ext E2).trans K8 (allS (Or.inr (Nat.le_trans (Nat.le_refl _) (Nat.le_of_eq g2.symm))) all0)), (Nat.le_trans (Nat.le_refl _) (Nat.le_of_eq g2.symm)), f9, F8_0, F8_1⟩
theorem ef_m62_listCopy (m : MethodId) (x1 : Addr) : entryFrame m #[(.ref x1)] 2 = mkF m 0 #[rv x1, uu] [] := by first | rfl | (simp [entryFrame, mkF, argsToLocals, Value.category]; done)
theorem m62_listCopy (l : Launch) (Z : State) (a0 : Array Value) (hw : HW Z a0) (x1 x2 x3 : Addr) (kk4 : ClassId) (x5 x6 x7 : Addr) (h0 : Heap) (n0 : Nat) (Z0 : n0 ≤ h0.size) (O0 : Old Z n0 h0) (P1 : Exa Z h0 x1 s1') (P2 : Fld Z h0 x1 s1' "size" "I" (.int 2)) (P3 : Fld Z h0 x1 s1' "elementData" s4' (.ref x2)) (P4 : Exa Z h0 x2 s4') (P5 : MirA Z s4' x3) (P6 : Ovr Z kk4 "java/lang/Object") (P7 : Arv Z h0 x2 kk4 (.object "java/lang/Object") (10 : Int32) [(.ref x5), (.ref x6), .null, .null, .null, .null, .null, .null, .null, .null] .null) (P8 : Exa Z h0 x5 s2') (P9 : Exa Z h0 x6 s2') (P10 : Sta Z Z.heap s5' "EMPTY" "Ljava/lang/Object;" (.ref x7)) :
    Ctr l Z [] (⟨s5', "listCopy", s12'⟩ : MethodName) jdk_56_method_3_code 2 (some (.object "java/util/List")) #[(.ref x1)] h0 ({ frames := 6, cells := 2, slots := 4, locals := 76 } : Room) (fun v h L => ∃ (b7_0 : Addr), v = some (.ref b7_0) ∧ Fr n0 L ∧ Keep h0 h [] ∧ h0.size ≤ b7_0 ∧ Exa Z h b7_0 s3' ∧ Fld Z h b7_0 s3' "e0" "Ljava/lang/Object;" (.ref x5) ∧ Fld Z h b7_0 s3' "e1" "Ljava/lang/Object;" (.ref x6)) := by
  refine Ctr.of (plainFor_of_name pn_java_util_ImmutableCollections) (fun m => ef_m62_listCopy m x1) ?_
  intro p e s m below meth c T0 hx hZ hby hml hown hnm hret hlk X0 e0
  have N0 := Fr.nil n0
  show Aw p e below _ T0 m 0 #[rv x1, uu] []
  refine Rch.go (fun t k => XS.aloadN X0.here hx rfl (hb hby d25_0) rfl rfl k) ?_
  show Aw p e below _ T0 m 1 #[rv x1, uu] [(.ref x1)]
  obtain ⟨T1, X1, e1, st1⟩ := instNo X0 hx hZ hown (wd_82 hw) e0 P1 (own_nsNo (wd_83 hw) (NI.ofInst (wd_170 hw)) (NS.step (wd_83 hw) (NS.step (wd_84 hw) (NS.step (wd_85 hw) (own_nsRoot (wd_86 hw) (NI.ofInst (wd_170 hw)) (by decide)) (by decide)) (by decide)) (by decide)) (by decide)) (g := (mkF m 1 #[rv x1, uu] [(.ref x1)])) rfl rfl (hb hby d25_1)
  refine Rch.go st1 ?_
  show Aw p e below _ T1 m 4 #[rv x1, uu] [(.int 0)]
  refine Rch.go (fun t k => XS.ifNo X1.here hx rfl (hb hby d25_4) rfl (by decide) (XS.aloadN X1.here hx rfl (hb hby d25_7) rfl rfl k)) ?_
  show Aw p e below _ T1 m 8 #[rv x1, uu] [(.ref x1)]
  obtain ⟨T2, X2, e2, st2⟩ := instNo X1 hx hZ hown (wd_87 hw) e1 P1 (own_nsNo (wd_83 hw) (NI.ofSel (wd_269 hw) rfl) (NS.step (wd_83 hw) (NS.step (wd_84 hw) (NS.step (wd_85 hw) (own_nsRoot (wd_86 hw) (NI.ofSel (wd_269 hw) rfl) (by decide)) (by decide)) (by decide)) (by decide)) (by decide)) (g := (mkF m 8 #[rv x1, uu] [(.ref x1)])) rfl rfl (hb hby d25_8)
  refine Rch.go st2 ?_
  show Aw p e below _ T2 m 11 #[rv x1, uu] [(.int 0)]
  refine Rch.go (fun t k => XS.ifYes X2.here hx rfl (pc0 := 11) (pc' := 31) rfl (hb hby d25_11) rfl (by decide) (by decide) (by decide) (XS.aloadN X2.here hx rfl (hb hby d25_31) rfl rfl k)) ?_
  show Aw p e below _ T2 m 32 #[rv x1, uu] [(.ref x1)]
  obtain ⟨v3, T3, L3, X3, Q3, st3⟩ := callIf X2 hx hZ (m63_isEmpty l Z a0 hw x1 h0 n0 Z0 O0 P2) e2 hown (wd_88 hw) (wd_89 hw) (wd_90 hw) (wd_91 hw) (wd_92 hw) (wd_93 hw) (wd_94 hw) (wd_95 hw) (wd_96 hw) (wd_31 hw) (by decide) (hb hby d25_32) 0 (by decide) (by decide) (by decide) (by decide) (by rw [hml]; rfl) x1 P1 [] [] rfl (lenOf pd_5 rfl) rfl (Nat.le_of_eq rfl) (Ls := #[rv x1, uu])
  obtain ⟨rfl, M3, e3⟩ := Q3
  have N3 := Fr.app N0 M3
  refine Rch.go st3 ?_
  show Aw p e below _ T3 m 37 #[rv x1, uu] [(.int 0)]
  refine Rch.go (fun t k => XS.ifYes X3.here hx rfl (pc0 := 37) (pc' := 44) rfl (hb hby d25_37) rfl (by decide) (by decide) (by decide) (XS.aloadN X3.here hx rfl (hb hby d25_44) rfl rfl k)) ?_
  show Aw p e below _ T3 m 45 #[rv x1, uu] [(.ref x1)]
  obtain ⟨v4, T4, L4, X4, Q4, st4⟩ := callIf X3 hx hZ (m64_toArray l Z a0 hw x1 x2 x3 kk4 x5 x6 h0 n0 Z0 O0 P3 P2 P4 P5 P6 P7 P8 P9) e3 hown (wd_136 hw) (wd_137 hw) (wd_138 hw) (wd_139 hw) (wd_140 hw) (wd_141 hw) (wd_142 hw) (wd_95 hw) (wd_143 hw) (wd_31 hw) (by decide) (hb hby d25_45) 0 (by decide) (by decide) (by decide) (by decide) (by rw [hml]; rfl) x1 P1 [] [] rfl (lenOf pd_23 rfl) rfl (Nat.le_of_eq rfl) (Ls := #[rv x1, uu])
  obtain ⟨b4_0, k4_0, rfl, M4, K4, zz4_0, O4_0, F4_0, F4_1⟩ := Q4
  have N4 := Fr.app N3 M4
  refine Rch.go st4 ?_
  have g_b4_0 : n0 ≤ b4_0 := Nat.le_trans Z0 zz4_0
  show Aw p e below _ T4 m 50 #[rv x1, uu] [(.ref b4_0)]
  have z5 := (Nat.le_trans Z0 K4.1)
  have o6 := (O0.keep K4 all0)
  obtain ⟨v7, T7, L7, X7, Q7, st7⟩ := callSt X4 hx hZ (m68_of l Z a0 hw b4_0 k4_0 x5 x6 T4.heap n0 z5 o6 O4_0 F4_1) rfl hown (wd_166 hw) (wd_167 hw) (wd_168 hw) (wd_76 hw) (by decide) (hb hby d25_50) 0 (by decide) (by decide) (by decide) (by decide) (by rw [hml]; rfl) [(.ref b4_0)] [] rfl (lenOf pd_27 rfl) rfl (Nat.le_of_eq rfl) (Ls := #[rv x1, uu])
  obtain ⟨b7_0, rfl, M7, K7, zz7_0, F7_0, F7_1, F7_2⟩ := Q7
  have N7 := Fr.app N4 M7
  refine Rch.go st7 ?_
  have g_b7_0 : n0 ≤ b7_0 := Nat.le_trans z5 zz7_0
  show Aw p e below _ T7 m 53 #[rv x1, uu] [(.ref b7_0)]
  refine Rch.val X7 hx (t := (.object "java/util/List")) hret hlk rfl (Or.inr (Or.inr (Or.inr (Or.inr ⟨rfl, rfl, rfl⟩)))) (hb hby d25_53) (by decide) (by decide) ?_
  exact ⟨b7_0, rfl, N7, (((Keep.refl _ _).trans K4 all0).trans K7 all0), (Nat.le_trans (Nat.le_trans (Nat.le_refl _) K4.1) zz7_0), F7_0, F7_1, F7_2⟩
theorem ef_m61_copyOf (m : MethodId) (x1 : Addr) : entryFrame m #[(.ref x1)] 1 = mkF m 0 #[rv x1] [] := by first | rfl | (simp [entryFrame, mkF, argsToLocals, Value.category]; done)
theorem m61_copyOf (l : Launch) (Z : State) (a0 : Array Value) (hw : HW Z a0) (x1 x2 x3 x4 : Addr) (kk5 : ClassId) (x6 x7 x8 : Addr) (h0 : Heap) (n0 : Nat) (Z0 : n0 ≤ h0.size) (O0 : Old Z n0 h0) (P1 : Exa Z h0 x1 s1') (P2 : Fld Z h0 x1 s1' "size" "I" (.int 2)) (P3 : Sta Z Z.heap s5' "EMPTY_LIST" s10' (.ref x2)) (P4 : Fld Z h0 x1 s1' "elementData" s4' (.ref x3)) (P5 : Exa Z h0 x3 s4') (P6 : MirA Z s4' x4) (P7 : Ovr Z kk5 "java/lang/Object") (P8 : Arv Z h0 x3 kk5 (.object "java/lang/Object") (10 : Int32) [(.ref x6), (.ref x7), .null, .null, .null, .null, .null, .null, .null, .null] .null) (P9 : Exa Z h0 x6 s2') (P10 : Sta Z Z.heap s5' "EMPTY" "Ljava/lang/Object;" (.ref x8)) (P11 : Exa Z h0 x7 s2') :
    Ctr l Z [] (⟨"java/util/List", "copyOf", s12'⟩ : MethodName) jdk_40_method_48_code 1 (some (.object "java/util/List")) #[(.ref x1)] h0 ({ frames := 7, cells := 2, slots := 4, locals := 89 } : Room) (fun v h L => ∃ (b1_0 : Addr), v = some (.ref b1_0) ∧ Fr n0 L ∧ Keep h0 h [] ∧ h0.size ≤ b1_0 ∧ Exa Z h b1_0 s3' ∧ Fld Z h b1_0 s3' "e0" "Ljava/lang/Object;" (.ref x6) ∧ Fld Z h b1_0 s3' "e1" "Ljava/lang/Object;" (.ref x7)) := by
  refine Ctr.of (plainFor_of_name pn_java_util_List) (fun m => ef_m61_copyOf m x1) ?_
  intro p e s m below meth c T0 hx hZ hby hml hown hnm hret hlk X0 e0
  have N0 := Fr.nil n0
  show Aw p e below _ T0 m 0 #[rv x1] []
  refine Rch.go (fun t k => XS.aloadN X0.here hx rfl (hb hby d24_0) rfl rfl k) ?_
  show Aw p e below _ T0 m 1 #[rv x1] [(.ref x1)]
  obtain ⟨v1, T1, L1, X1, Q1, st1⟩ := callSt X0 hx hZ (m62_listCopy l Z a0 hw x1 x3 x4 kk5 x6 x7 x8 h0 n0 Z0 O0 P1 P2 P4 P5 P6 P7 P8 P9 P11 P10) e0 hown (wd_78 hw) (wd_79 hw) (wd_81 hw) (wd_80 hw) (by decide) (hb hby d24_1) 0 (by decide) (by decide) (by decide) (by decide) (by rw [hml]; rfl) [(.ref x1)] [] rfl (lenOf pd_17 rfl) rfl (Nat.le_of_eq rfl) (Ls := #[rv x1])
  obtain ⟨b1_0, rfl, M1, K1, zz1_0, F1_0, F1_1, F1_2⟩ := Q1
  have N1 := Fr.app N0 M1
  refine Rch.go st1 ?_
  have g_b1_0 : n0 ≤ b1_0 := Nat.le_trans Z0 zz1_0
  show Aw p e below _ T1 m 4 #[rv x1] [(.ref b1_0)]
  refine Rch.val X1 hx (t := (.object "java/util/List")) hret hlk rfl (Or.inr (Or.inr (Or.inr (Or.inr ⟨rfl, rfl, rfl⟩)))) (hb hby d24_4) (by decide) (by decide) ?_
  exact ⟨b1_0, rfl, N1, ((Keep.refl _ _).trans K1 all0), (Nat.le_trans (Nat.le_refl _) zz1_0), F1_0, F1_1, F1_2⟩
theorem ef_m60_init (m : MethodId) (x1 x2 x3 : Addr) : entryFrame m #[(.ref x1), (.ref x2), (.ref x3)] 3 = mkF m 0 #[rv x1, rv x2, rv x3] [] := by first | rfl | (simp [entryFrame, mkF, argsToLocals, Value.category]; done)
theorem m60_init (l : Launch) (Z : State) (a0 : Array Value) (hw : HW Z a0) (x1 x2 x3 x4 : Addr) (kk5 : ClassId) (y6 : Int32) (x7 x8 x9 : Addr) (kk10 : ClassId) (x11 x12 x13 : Addr) (h0 : Heap) (n0 : Nat) (Z0 : n0 ≤ h0.size) (O0 : Old Z n0 h0) (P1 : Exa Z h0 x2 "java/lang/String") (P2 : Fld Z h0 x2 "java/lang/String" "value" "[B" (.ref x4)) (P3 : Arv Z h0 x4 kk5 .byte (1 : Int32) [(.int y6)] (.int 0)) (P4 : Exa Z h0 x3 s1') (P5 : Fld Z h0 x3 s1' "size" "I" (.int 2)) (P6 : Sta Z Z.heap s5' "EMPTY_LIST" s10' (.ref x7)) (P7 : Fld Z h0 x3 s1' "elementData" s4' (.ref x8)) (P8 : Exa Z h0 x8 s4') (P9 : MirA Z s4' x9) (P10 : Ovr Z kk10 "java/lang/Object") (P11 : Arv Z h0 x8 kk10 (.object "java/lang/Object") (10 : Int32) [(.ref x11), (.ref x12), .null, .null, .null, .null, .null, .null, .null, .null] .null) (P12 : Exa Z h0 x11 s2') (P13 : Sta Z Z.heap s5' "EMPTY" "Ljava/lang/Object;" (.ref x13)) (P14 : Exa Z h0 x12 s2') (P15 : Exa Z h0 x1 s2') (P16 : Fld Z h0 x1 s2' "value" "Ljava/lang/String;" .null) (P17 : n0 ≤ x1) (P18 : Fld Z h0 x1 s2' "children" "Ljava/util/List;" .null) :
    CtrW l Z [] (⟨s2', "<init>", "(Ljava/lang/String;Ljava/util/List;)V"⟩ : MethodName) prog_9_method_1_code 3 none #[(.ref x1), (.ref x2), (.ref x3)] h0 ({ frames := 8, cells := 4, slots := 28, locals := 101 } : Room) (fun v h L => ∃ (b17_0 : Addr), v = none ∧ Fr n0 L ∧ Keep h0 h [x1] ∧ h0.size ≤ b17_0 ∧ Exa Z h b17_0 s3' ∧ Fld Z h b17_0 s3' "e0" "Ljava/lang/Object;" (.ref x11) ∧ Fld Z h b17_0 s3' "e1" "Ljava/lang/Object;" (.ref x12) ∧ Fld Z h x1 s2' "value" "Ljava/lang/String;" (.ref x2) ∧ Fld Z h x1 s2' "children" "Ljava/util/List;" (.ref b17_0)) := by
  refine CtrW.of (plainFor_of_name pn_com_example_harpocrates_harpocrates_data_Taxonomy) (fun m => ef_m60_init m x1 x2 x3) ?_
  intro p e s vm0 m below meth c T0 hx hZ hby hml hown hnm hret hlk Y0 X0 e0
  have N0 := Fr.nil n0
  show Aw p e below _ T0 m 0 #[rv x1, rv x2, rv x3] []
  refine Rch.go (fun t k => XS.aloadN X0.here hx rfl (hb hby d20_0) rfl rfl k) ?_
  show Aw p e below _ T0 m 1 #[rv x1, rv x2, rv x3] [(.ref x1)]
  obtain ⟨v1, T1, L1, X1, Q1, st1⟩ := callSp X0 hx hZ (m26_init l Z a0 hw x1 h0 n0 Z0 O0 ) e0 hown rfl (wd_56 hw) (wd_57 hw) (wd_60 hw) (wd_59 hw) (by decide) (hb hby d20_1) 0 (by decide) (by decide) (by decide) (by decide) (by rw [hml]; rfl) x1 [] [] rfl (lenOf pd_14 rfl) rfl (Nat.le_of_eq rfl) (Ls := #[rv x1, rv x2, rv x3])
  obtain ⟨rfl, M1, e1⟩ := Q1
  have N1 := Fr.app N0 M1
  refine Rch.go st1 ?_
  show Aw p e below _ T1 m 4 #[rv x1, rv x2, rv x3] []
  refine Rch.go (fun t k => XS.aloadN X1.here hx rfl (hb hby d20_4) rfl rfl k) ?_
  show Aw p e below _ T1 m 5 #[rv x1, rv x2, rv x3] [(.ref x2)]
  obtain ⟨b2, T2, h2, k2, X2, e2, E2, Y2, yk2, hZ2, hown2, st2⟩ := ldcS X1 hx hZ hown (wd_62 hw) (strW hw) e1 Y0 (Nat.le_refl _) (g := (mkF m 5 #[rv x1, rv x2, rv x3] [(.ref x2)])) rfl (hb hby d20_5) (n := 20) (by decide) (by decide) (by decide) (by decide)
  refine Rch.go st2 ?_
  show Aw p e below _ T2 m 7 #[rv x1, rv x2, rv x3] [(.ref b2), (.ref x2)]
  have z3 := (Nat.le_trans Z0 E2.1)
  have o4 := (O0.ext E2)
  obtain ⟨v5, T5, L5, X5, Q5, st5⟩ := callSt X2 hx hZ2 (m27_requireNonNull l Z a0 hw x2 b2 h2 n0 z3 o4 ) e2 hown2 (wd_65 hw) (wd_66 hw) (wd_68 hw) (wd_67 hw) (by decide) (hb hby d20_7) 0 (by decide) (by decide) (by decide) (by decide) (by rw [hml]; rfl) [(.ref x2), (.ref b2)] [] rfl (lenOf pd_15 rfl) rfl (Nat.le_of_eq rfl) (Ls := #[rv x1, rv x2, rv x3])
  obtain ⟨rfl, M5, e5⟩ := Q5
  have N5 := Fr.app N1 M5
  refine Rch.go st5 ?_
  show Aw p e below _ T5 m 10 #[rv x1, rv x2, rv x3] [(.ref x2)]
  refine Rch.go (fun t k => XS.pop X5.here hx rfl (hb hby d20_10) rfl rfl (XS.aloadN X5.here hx rfl (hb hby d20_11) rfl rfl k)) ?_
  show Aw p e below _ T5 m 12 #[rv x1, rv x2, rv x3] [(.ref x2)]
  have f6 := (P2.ext E2)
  have f7 := (P3.ext E2)
  have f9 := (P1.ext E2)
  obtain ⟨v8, T8, L8, X8, Q8, st8⟩ := callVi X5 hx hZ2 (m28_isEmpty l Z a0 hw x2 x4 kk5 y6 h2 n0 z3 o4 f6 f7) e5 hown2 (wd_69 hw) (wd_70 hw) (wd_72 hw) (notFace_of_selects (args := #[]) (mvT hZ2 (wd_72 hw))) (wd_71 hw) (wd_73 hw) (wd_5 hw) (by decide) (hb hby d20_12) 0 (by decide) (by decide) (by decide) (by decide) (by rw [hml]; rfl) x2 f9 [] [] rfl (lenOf pd_5 rfl) rfl (Nat.le_of_eq rfl) (Ls := #[rv x1, rv x2, rv x3])
  obtain ⟨rfl, M8, e8⟩ := Q8
  have N8 := Fr.app N5 M8
  refine Rch.go st8 ?_
  show Aw p e below _ T8 m 15 #[rv x1, rv x2, rv x3] [(.int 0)]
  refine Rch.go (fun t k => XS.ifYes X8.here hx rfl (pc0 := 15) (pc' := 28) rfl (hb hby d20_15) rfl (by decide) (by decide) (by decide) (XS.aloadN X8.here hx rfl (hb hby d20_28) rfl rfl k)) ?_
  show Aw p e below _ T8 m 29 #[rv x1, rv x2, rv x3] [(.ref x3)]
  have f10 := (P4.ext E2)
  have f11 := (P5.ext E2)
  have f12 := (P7.ext E2)
  have f13 := (P8.ext E2)
  have f14 := (P11.ext E2)
  have f15 := (P12.ext E2)
  have f16 := (P14.ext E2)
  obtain ⟨v17, T17, L17, X17, Q17, st17⟩ := callSt X8 hx hZ2 (m61_copyOf l Z a0 hw x3 x7 x8 x9 kk10 x11 x12 x13 h2 n0 z3 o4 f10 f11 P6 f12 f13 P9 P10 f14 f15 P13 f16) e8 hown2 (wd_74 hw) (wd_75 hw) (wd_77 hw) (wd_76 hw) (by decide) (hb hby d20_29) 0 (by decide) (by decide) (by decide) (by decide) (by rw [hml]; rfl) [(.ref x3)] [] rfl (lenOf pd_17 rfl) rfl (Nat.le_of_eq rfl) (Ls := #[rv x1, rv x2, rv x3])
  obtain ⟨b17_0, rfl, M17, K17, zz17_0, F17_0, F17_1, F17_2⟩ := Q17
  have N17 := Fr.app N8 M17
  refine Rch.go st17 ?_
  have g_b17_0 : n0 ≤ b17_0 := Nat.le_trans z3 zz17_0
  show Aw p e below _ T17 m 32 #[rv x1, rv x2, rv x3] [(.ref b17_0)]
  refine Rch.go (fun t k => XS.astoreN X17.here hx rfl (hb hby d20_32) rfl rfl (l' := #[rv x1, rv x2, rv b17_0]) rfl (XS.aloadN X17.here hx rfl (hb hby d20_33) rfl rfl (XS.aloadN X17.here hx rfl (hb hby d20_34) rfl rfl k))) ?_
  show Aw p e below _ T17 m 35 #[rv x1, rv x2, rv b17_0] [(.ref x2), (.ref x1)]
  have f19 := ((P16.ext E2).keep K17 nin0)
  have f20 := ((P15.ext E2).keep K17)
  obtain ⟨T18, h18, X18, e18, W18, st18⟩ := putF X17 hx hZ2 hown2 (host := "") (Or.inl (wd_103 hw)) Via.refl rfl f19 f20 (Or.inr ⟨(wd_104 hw), rfl, hnm⟩) (wd_1 hw) (ty := (.object "java/lang/String")) (by decide) rfl rfl (g := (mkF m 35 #[rv x1, rv x2, rv b17_0] [(.ref x2), (.ref x1)])) rfl rfl (hb hby d20_35)
  refine Rch.go st18 ?_
  have F18 := f19.same W18
  have N18 := Fr.snoc X18 N17 P17
  show Aw p e below _ T18 m 38 #[rv x1, rv x2, rv b17_0] []
  refine Rch.go (fun t k => XS.aloadN X18.here hx rfl (hb hby d20_38) rfl rfl (XS.aloadN X18.here hx rfl (hb hby d20_39) rfl rfl k)) ?_
  show Aw p e below _ T18 m 40 #[rv x1, rv x2, rv b17_0] [(.ref b17_0), (.ref x1)]
  have f22 := (((P18.ext E2).keep K17 nin0).other W18 (Or.inr (slot_ne (Or.inr (wd_106 hw)) (Or.inr (wd_104 hw)) (by decide) (t := (.object "java/util/List")) (t' := (.object "java/lang/String")) (by decide) (by decide))))
  have f23 := (f20.wr W18)
  obtain ⟨T21, h21, X21, e21, W21, st21⟩ := putF X18 hx hZ2 hown2 (host := "") (Or.inl (wd_105 hw)) Via.refl e18 f22 f23 (Or.inr ⟨(wd_106 hw), rfl, hnm⟩) (wd_1 hw) (ty := (.object "java/util/List")) (by decide) rfl rfl (g := (mkF m 40 #[rv x1, rv x2, rv b17_0] [(.ref b17_0), (.ref x1)])) rfl rfl (hb hby d20_40)
  refine Rch.go st21 ?_
  have F21 := f22.same W21
  have N21 := Fr.snoc X21 N18 P17
  show Aw p e below _ T21 m 43 #[rv x1, rv x2, rv b17_0] []
  have f24 := ((F17_0.wr W18).wr W21)
  have lt25 := (Nat.lt_of_lt_of_le P15.lt E2.1)
  have ne26 : x1 ≠ b17_0 := Nat.ne_of_lt (Nat.lt_of_lt_of_le lt25 zz17_0)
  have f27 := ((F17_1.other W18 (Or.inl (Ne.symm ne26))).other W21 (Or.inl (Ne.symm ne26)))
  have f28 := ((F17_2.other W18 (Or.inl (Ne.symm ne26))).other W21 (Or.inl (Ne.symm ne26)))
  have f29 := (F18.other W21 (Or.inr (slot_ne (Or.inr (wd_104 hw)) (Or.inr (wd_106 hw)) (by decide) (t := (.object "java/lang/String")) (t' := (.object "java/util/List")) (by decide) (by decide))))
  refine Rch.voidW X21 hx Y2 e21 (Nat.le_trans (Nat.le_trans (Nat.le_trans yk2 K17.1) (Nat.le_of_eq W18.size.symm)) (Nat.le_of_eq W21.size.symm)) hret hlk (hb hby d20_43) (by decide) (by decide) ?_
  exact ⟨b17_0, rfl, N21, (((((Keep.refl _ _).ext E2).trans K17 all0).wr W18 (Or.inl (List.mem_of_getElem? (i := 0) rfl))).wr W21 (Or.inl (List.mem_of_getElem? (i := 0) rfl))), (Nat.le_trans (Nat.le_trans (Nat.le_refl _) E2.1) zz17_0), f24, f27, f28, f29, F21⟩
theorem pd_35 (l : Launch) (Z : State) (a0 : Array Value) (hw : HW Z a0) (sl1 sl2 sl3 sl4 sl5 sl6 : Slot) (y7 y8 y9 y10 y11 y12 y13 : Int32) (x14 : Addr) (sl15 : Slot) (x16 x17 x18 : Addr) (y19 : Int32) (x20 x21 x22 : Addr) (kk23 : ClassId) (x24 : Addr) (h0 : Heap) (n0 : Nat) (Z0 : n0 ≤ h0.size) (O0 : Old Z n0 h0) (P1 : Sta Z Z.heap s1' "DEFAULTCAPACITY_EMPTY_ELEMENTDATA" s4' (.ref x18)) (P2 : Md y13) (P3 : Sta Z Z.heap "java/lang/String" "COMPACT_STRINGS" "Z" (.int y19)) (P4 : ¬ (y19 = (0 : Int32))) (P5 : ¬ ((255 : Int32) < y7)) (P6 : Sta Z Z.heap s5' "EMPTY_LIST" s10' (.ref x20)) (P7 : Oz Z x20 x21 x22) (P8 : Ltr y7) (P9 : Ch1 Z h0 x16 x14 x20 x21 y12 y8 y9) (P10 : Tn0 Z h0 x17 x20 y10) (P11 : ¬ ((255 : Int32) < y11)) (P12 : Ltr y11) (P13 : Arv Z Z.heap x18 kk23 (.object "java/lang/Object") (0 : Int32) [] .null) (P14 : Exa Z h0 x16 s2') (P15 : MirA Z s4' x24) (P16 : Sta Z Z.heap s5' "EMPTY" "Ljava/lang/Object;" (.ref x21)) (P17 : Exa Z h0 x17 s2') (P18 : x17 ≠ x21) (P19 : x16 ≠ x21) (p : Program) (e : Env) (s : State) (vm0 : Vm) (m : MethodId) (below : List Frame) (meth : Method) (c : Code) (T0 : State) (args : Array Value) (locs : List Loc) (hx : p.tables.exec = Jvm.exec) (hZ : Z.Warmed39 vm0) (hby : c.code = code) (hml : c.maxLocals = 21) (hown : vm0.findClass s7' = some m.cls) (hnm : meth.name = "law") (hret : meth.sig.returnType = some .boolean) (hlk : meth.locks = false) (Y0 : s.Since vm0 h0.size) (X0 : Stand p l e room_1 (s.setVm vm0) m args below meth c T0 locs 30 180) (e0 : T0.heap = h0) (N0 : Fr n0 locs) :
    Rch p e below (LeavesW s room_1.cells room_1.slots (fun v h L => v = some (.int 1) ∧ Fr n0 L)) (T0.setTop (mkF m 149 #[sl1, sl2, sl3, sl4, sl5, sl6, iv y7, iv y8, iv y9, iv y10, iv y11, iv y12, iv y13, rv x14, sl15, rv x16, rv x17, uu, uu, uu, uu] [])) := by
  show Aw p e below _ T0 m 149 #[sl1, sl2, sl3, sl4, sl5, sl6, iv y7, iv y8, iv y9, iv y10, iv y11, iv y12, iv y13, rv x14, sl15, rv x16, rv x17, uu, uu, uu, uu] []
  obtain ⟨T1, h1, X1, e1, E1, A1, D1, -, st1⟩ := newO X0 hx hZ hown (wd_29 hw) (wd_30 hw) (wd_31 hw) e0 (g := (mkF m 149 #[sl1, sl2, sl3, sl4, sl5, sl6, iv y7, iv y8, iv y9, iv y10, iv y11, iv y12, iv y13, rv x14, sl15, rv x16, rv x17, uu, uu, uu, uu] [])) rfl (hb hby at_149) (by decide) (by decide)
  obtain ⟨b1, g1⟩ : ∃ z, z = h0.size := ⟨_, rfl⟩
  rw [← g1] at A1 D1 st1
  refine Rch.go st1 ?_
  have g_b1 : n0 ≤ b1 := Nat.le_trans Z0 (Nat.le_of_eq g1.symm)
  have F1_modCount : Fld Z h1 b1 s6' "modCount" "I" (.int 0) := (D1 (Or.inl (wd_49 hw)) (ty := .int) (by decide))
  have F1_elementData : Fld Z h1 b1 s1' "elementData" s4' .null := (D1 (Or.inl (wd_52 hw)) (ty := (.array (.object "java/lang/Object"))) (by decide))
  have F1_size : Fld Z h1 b1 s1' "size" "I" (.int 0) := (D1 (Or.inl (wd_98 hw)) (ty := .int) (by decide))
  show Aw p e below _ T1 m 152 #[sl1, sl2, sl3, sl4, sl5, sl6, iv y7, iv y8, iv y9, iv y10, iv y11, iv y12, iv y13, rv x14, sl15, rv x16, rv x17, uu, uu, uu, uu] [(.ref b1)]
  refine Rch.go (fun t k => XS.dup X1.here hx rfl (hb hby at_152) rfl rfl k) ?_
  show Aw p e below _ T1 m 153 #[sl1, sl2, sl3, sl4, sl5, sl6, iv y7, iv y8, iv y9, iv y10, iv y11, iv y12, iv y13, rv x14, sl15, rv x16, rv x17, uu, uu, uu, uu] [(.ref b1), (.ref b1)]
  have z2 := (Nat.le_trans Z0 E1.1)
  have o3 := (O0.ext E1)
  obtain ⟨v4, T4, L4, X4, Q4, st4⟩ := callSp X1 hx hZ (m22_init l Z a0 hw b1 x18 h1 n0 z2 o3 A1 F1_modCount g_b1 F1_elementData F1_size P1) e1 hown rfl (wd_32 hw) (wd_33 hw) (wd_34 hw) (wd_31 hw) (by decide) (hb hby at_153) 1 (by decide) (by decide) (by decide) (by decide) (by rw [hml]; rfl) b1 [] [(.ref b1)] rfl (lenOf pd_14 rfl) rfl (Nat.le_of_eq rfl) (Ls := #[sl1, sl2, sl3, sl4, sl5, sl6, iv y7, iv y8, iv y9, iv y10, iv y11, iv y12, iv y13, rv x14, sl15, rv x16, rv x17, uu, uu, uu, uu])
  obtain ⟨rfl, M4, K4, F4_0, F4_1, F4_2⟩ := Q4
  have N4 := Fr.app N0 M4
  refine Rch.go st4 ?_
  show Aw p e below _ T4 m 156 #[sl1, sl2, sl3, sl4, sl5, sl6, iv y7, iv y8, iv y9, iv y10, iv y11, iv y12, iv y13, rv x14, sl15, rv x16, rv x17, uu, uu, uu, uu] [(.ref b1)]
  refine Rch.go (fun t k => XS.astore X4.here hx rfl (hb hby at_156) rfl rfl (l' := #[sl1, sl2, sl3, sl4, sl5, sl6, iv y7, iv y8, iv y9, iv y10, iv y11, iv y12, iv y13, rv x14, sl15, rv x16, rv x17, rv b1, uu, uu, uu]) rfl k) ?_
  show Aw p e below _ T4 m 158 #[sl1, sl2, sl3, sl4, sl5, sl6, iv y7, iv y8, iv y9, iv y10, iv y11, iv y12, iv y13, rv x14, sl15, rv x16, rv x17, rv b1, uu, uu, uu] []
  rcases id P2 with hk | hk | hk | hk | hk
  · show Aw p e below _ T4 m 158 #[sl1, sl2, sl3, sl4, sl5, sl6, iv y7, iv y8, iv y9, iv y10, iv y11, iv y12, iv y13, rv x14, sl15, rv x16, rv x17, rv b1, uu, uu, uu] []
    refine Rch.go (fun t k => XS.iload X4.here hx rfl (hb hby at_158) rfl  (XS.iconst X4.here hx rfl (hb hby at_160) (XS.icmpYes X4.here hx rfl (pc0 := 161) (pc' := 175) rfl (hb hby at_161) rfl (XT.ii_ne_t (by rw [hk]; decide)) (by decide) (by decide) (XS.iload X4.here hx rfl (hb hby at_175) rfl  (XS.iconst X4.here hx rfl (hb hby at_177) (XS.icmpYes X4.here hx rfl (pc0 := 178) (pc' := 192) rfl (hb hby at_178) rfl (XT.ii_ne_t (by rw [hk]; decide)) (by decide) (by decide) (XS.iload X4.here hx rfl (hb hby at_192) rfl  (XS.iconst X4.here hx rfl (hb hby at_194) (XS.icmpYes X4.here hx rfl (pc0 := 195) (pc' := 217) rfl (hb hby at_195) rfl (XT.ii_ne_t (by rw [hk]; decide)) (by decide) (by decide) (XS.iload X4.here hx rfl (hb hby at_217) rfl  (XS.iconst X4.here hx rfl (hb hby at_219) (XS.icmpYes X4.here hx rfl (pc0 := 220) (pc' := 239) rfl (hb hby at_220) rfl (XT.ii_ne_t (by rw [hk]; decide)) (by decide) (by decide) k)))))))))))) ?_
    show Aw p e below _ T4 m 239 #[sl1, sl2, sl3, sl4, sl5, sl6, iv y7, iv y8, iv y9, iv y10, iv y11, iv y12, iv y13, rv x14, sl15, rv x16, rv x17, rv b1, uu, uu, uu] []
    obtain ⟨T5, h5, X5, e5, E5, A5, D5, -, st5⟩ := newO X4 hx hZ hown (wd_0 hw) (wd_1 hw) (wd_2 hw) rfl (g := (mkF m 239 #[sl1, sl2, sl3, sl4, sl5, sl6, iv y7, iv y8, iv y9, iv y10, iv y11, iv y12, iv y13, rv x14, sl15, rv x16, rv x17, rv b1, uu, uu, uu] [])) rfl (hb hby at_239) (by decide) (by decide)
    obtain ⟨b5, g5⟩ : ∃ z, z = T4.heap.size := ⟨_, rfl⟩
    rw [← g5] at A5 D5 st5
    refine Rch.go st5 ?_
    have z6 := (Nat.le_trans z2 K4.1)
    have g_b5 : n0 ≤ b5 := Nat.le_trans z6 (Nat.le_of_eq g5.symm)
    have F5_value : Fld Z h5 b5 s2' "value" "Ljava/lang/String;" .null := (D5 (Or.inr (wd_104 hw)) (ty := (.object "java/lang/String")) (by decide))
    have F5_children : Fld Z h5 b5 s2' "children" "Ljava/util/List;" .null := (D5 (Or.inr (wd_106 hw)) (ty := (.object "java/util/List")) (by decide))
    show Aw p e below _ T5 m 242 #[sl1, sl2, sl3, sl4, sl5, sl6, iv y7, iv y8, iv y9, iv y10, iv y11, iv y12, iv y13, rv x14, sl15, rv x16, rv x17, rv b1, uu, uu, uu] [(.ref b5)]
    refine Rch.go (fun t k => XS.dup X5.here hx rfl (hb hby at_242) rfl rfl (XS.iload X5.here hx rfl (hb hby at_243) rfl  k)) ?_
    show Aw p e below _ T5 m 245 #[sl1, sl2, sl3, sl4, sl5, sl6, iv y7, iv y8, iv y9, iv y10, iv y11, iv y12, iv y13, rv x14, sl15, rv x16, rv x17, rv b1, uu, uu, uu] [(.int y7), (.ref b5), (.ref b5)]
    have z7 := (Nat.le_trans z6 E5.1)
    have o8 := ((o3.keep K4 (allS g_b1 all0)).ext E5)
    obtain ⟨v9, T9, L9, X9, Q9, st9⟩ := callSt X5 hx hZ (m18_valueOf l Z a0 hw y7 y19 h5 n0 z7 o8 P3 P4 P5) e5 hown (wd_3 hw) (wd_4 hw) (wd_6 hw) (wd_5 hw) (by decide) (hb hby at_245) 2 (by decide) (by decide) (by decide) (by decide) (by rw [hml]; rfl) [(.int y7)] [(.ref b5), (.ref b5)] rfl (lenOf pd_13 rfl) rfl (Nat.le_of_eq rfl) (Ls := #[sl1, sl2, sl3, sl4, sl5, sl6, iv y7, iv y8, iv y9, iv y10, iv y11, iv y12, iv y13, rv x14, sl15, rv x16, rv x17, rv b1, uu, uu, uu])
    obtain ⟨b9_0, b9_1, k9_0, rfl, M9, K9, zz9_0, zz9_1, F9_0, F9_1, F9_2, F9_3, F9_4⟩ := Q9
    have N9 := Fr.app N4 M9
    refine Rch.go st9 ?_
    have g_b9_0 : n0 ≤ b9_0 := Nat.le_trans z7 zz9_0
    have g_b9_1 : n0 ≤ b9_1 := Nat.le_trans z7 zz9_1
    show Aw p e below _ T9 m 248 #[sl1, sl2, sl3, sl4, sl5, sl6, iv y7, iv y8, iv y9, iv y10, iv y11, iv y12, iv y13, rv x14, sl15, rv x16, rv x17, rv b1, uu, uu, uu] [(.ref b9_0), (.ref b5), (.ref b5)]
    refine Rch.go (fun t k => XS.aload X9.here hx rfl (hb hby at_248) rfl rfl k) ?_
    show Aw p e below _ T9 m 250 #[sl1, sl2, sl3, sl4, sl5, sl6, iv y7, iv y8, iv y9, iv y10, iv y11, iv y12, iv y13, rv x14, sl15, rv x16, rv x17, rv b1, uu, uu, uu] [(.ref b1), (.ref b9_0), (.ref b5), (.ref b5)]
    have f10 := (((A1.keep K4).ext E5).keep K9)
    have f11 := ((F4_2.ext E5).keep K9 nin0)
    have f12 := (A5.keep K9)
    have f13 := (F5_value.keep K9 nin0)
    have f14 := (F5_children.keep K9 nin0)
    have z15 := (Nat.le_trans z7 K9.1)
    have o16 := (o8.keep K9 all0)
    obtain ⟨v17, T17, L17, X17, Q17, Y17, hZ17, hown17, st17⟩ := callSpW X9 hx hZ Y0 (Nat.le_trans (Nat.le_trans (Nat.le_trans (Nat.le_trans (Nat.le_refl _) E1.1) K4.1) E5.1) K9.1) (m25_init l Z a0 hw b5 b9_0 b1 b9_1 k9_0 (nar .byte (y7.toInt8.toInt32)) x20 T9.heap n0 z15 o16 F9_0 F9_3 F9_2 f10 f11 P6 f12 f13 g_b5 f14) rfl hown rfl (wd_53 hw) (wd_54 hw) (wd_55 hw) (wd_2 hw) (by decide) (hb hby at_250) 1 (by decide) (by decide) (by decide) (by decide) (by rw [hml]; rfl) b5 [(.ref b9_0), (.ref b1)] [(.ref b5)] rfl (lenOf pd_18 rfl) rfl (Nat.le_of_eq rfl) (Ls := #[sl1, sl2, sl3, sl4, sl5, sl6, iv y7, iv y8, iv y9, iv y10, iv y11, iv y12, iv y13, rv x14, sl15, rv x16, rv x17, rv b1, uu, uu, uu])
    obtain ⟨rfl, M17, K17, F17_0, F17_1⟩ := Q17
    have N17 := Fr.app N9 M17
    refine Rch.go st17 ?_
    show Aw p e below _ T17 m 253 #[sl1, sl2, sl3, sl4, sl5, sl6, iv y7, iv y8, iv y9, iv y10, iv y11, iv y12, iv y13, rv x14, sl15, rv x16, rv x17, rv b1, uu, uu, uu] [(.ref b5)]
    refine Rch.go (fun t k => XS.astore X17.here hx rfl (hb hby at_253) rfl rfl (l' := #[sl1, sl2, sl3, sl4, sl5, sl6, iv y7, iv y8, iv y9, iv y10, iv y11, iv y12, iv y13, rv x14, sl15, rv x16, rv x17, rv b1, rv b5, uu, uu]) rfl k) ?_
    show Aw p e below _ T17 m 255 #[sl1, sl2, sl3, sl4, sl5, sl6, iv y7, iv y8, iv y9, iv y10, iv y11, iv y12, iv y13, rv x14, sl15, rv x16, rv x17, rv b1, rv b5, uu, uu] []
    have f18 := (f12.keep K17)
    have f19 := (F9_0.keep K17)
    have lt20 := A5.lt
    have ne21 : b5 ≠ b9_0 := Nat.ne_of_lt (Nat.lt_of_lt_of_le lt20 zz9_0)
    have f22 := (F9_3.keep K17 (ninS (Ne.symm ne21) nin0))
    have f23 := (F9_4.keep K17 (ninS (Ne.symm ne21) nin0))
    have ne24 : b5 ≠ b9_1 := Nat.ne_of_lt (Nat.lt_of_lt_of_le lt20 zz9_1)
    have f25 := (F9_2.keep K17 (ninS (Ne.symm ne24) nin0))
    have z26 := (Nat.le_trans z15 K17.1)
    have o27 := (o16.keep K17 (allS g_b5 all0))
    exact pe_36 l Z a0 hw sl1 sl2 sl3 sl4 sl5 sl6 y7 y8 y9 y10 y11 y12 y13 x14 sl15 x16 x17 (rv b1) b5 x20 x21 x22 y19 T17.heap n0 z26 o27 P7 (show Rt Z T17.heap b5 x16 x17 x20 x21 y13 y7 from (Or.inl ⟨hk, ⟨⟨b9_0, f18, F17_0, ⟨b9_1, k9_0, f19, f22, f23, f25, P8⟩⟩, F17_1⟩⟩)) P3 P4 P11 P12 P2 (P9.keep ((((((Keep.refl _ _).ext E1).trans K4 (allS (Or.inr (Nat.le_trans (Nat.le_refl _) (Nat.le_of_eq g1.symm))) all0)).ext E5).trans K9 all0).trans K17 (allS (Or.inr (Nat.le_trans (Nat.le_trans (Nat.le_trans (Nat.le_refl _) E1.1) K4.1) (Nat.le_of_eq g5.symm))) all0))) (P10.keep ((((((Keep.refl _ _).ext E1).trans K4 (allS (Or.inr (Nat.le_trans (Nat.le_refl _) (Nat.le_of_eq g1.symm))) all0)).ext E5).trans K9 all0).trans K17 (allS (Or.inr (Nat.le_trans (Nat.le_trans (Nat.le_trans (Nat.le_refl _) E1.1) K4.1) (Nat.le_of_eq g5.symm))) all0))) p e s _ m below meth c T17 _ _ hx hZ17 hby hml hown17 hnm hret hlk ⟨Y17.1, Y17.2.mono (Nat.le_refl _)⟩ (X17.mono (by decide) (by decide)) rfl N17
  · show Aw p e below _ T4 m 158 #[sl1, sl2, sl3, sl4, sl5, sl6, iv y7, iv y8, iv y9, iv y10, iv y11, iv y12, iv y13, rv x14, sl15, rv x16, rv x17, rv b1, uu, uu, uu] []
    refine Rch.go (fun t k => XS.iload X4.here hx rfl (hb hby at_158) rfl  (XS.iconst X4.here hx rfl (hb hby at_160) (XS.icmpNo X4.here hx rfl (hb hby at_161) rfl (XT.ii_ne_f hk) (XS.aload X4.here hx rfl (hb hby at_164) rfl rfl (XS.aload X4.here hx rfl (hb hby at_166) rfl rfl k))))) ?_
    show Aw p e below _ T4 m 168 #[sl1, sl2, sl3, sl4, sl5, sl6, iv y7, iv y8, iv y9, iv y10, iv y11, iv y12, iv y13, rv x14, sl15, rv x16, rv x17, rv b1, uu, uu, uu] [(.ref x16), (.ref b1)]
    have f28 := (A1.keep K4)
    have f29 := ((P14.ext E1).keep K4)
    have z30 := (Nat.le_trans z2 K4.1)
    have o31 := (o3.keep K4 (allS g_b1 all0))
    obtain ⟨v32, T32, L32, X32, Q32, st32⟩ := callVi X4 hx hZ (m41_add l Z a0 hw b1 x16 x18 kk23 T4.heap n0 z30 o31 F4_0 f28 g_b1 F4_1 F4_2 P13 P1 f29) rfl hown (wd_107 hw) (wd_108 hw) (wd_110 hw) (notFace_of_selects (args := #[]) (mvT hZ (wd_110 hw))) (wd_109 hw) (wd_111 hw) (wd_31 hw) (by decide) (hb hby at_168) 0 (by decide) (by decide) (by decide) (by decide) (by rw [hml]; rfl) b1 f28 [(.ref x16)] [] rfl (lenOf pd_1 rfl) rfl (Nat.le_of_eq rfl) (Ls := #[sl1, sl2, sl3, sl4, sl5, sl6, iv y7, iv y8, iv y9, iv y10, iv y11, iv y12, iv y13, rv x14, sl15, rv x16, rv x17, rv b1, uu, uu, uu])
    obtain ⟨b32_0, k32_0, rfl, M32, K32, zz32_0, O32_0, F32_0, F32_1, F32_2, F32_3, F32_4⟩ := Q32
    have N32 := Fr.app N4 M32
    refine Rch.go st32 ?_
    have g_b32_0 : n0 ≤ b32_0 := Nat.le_trans z30 zz32_0
    show Aw p e below _ T32 m 171 #[sl1, sl2, sl3, sl4, sl5, sl6, iv y7, iv y8, iv y9, iv y10, iv y11, iv y12, iv y13, rv x14, sl15, rv x16, rv x17, rv b1, uu, uu, uu] [(.int 1)]
    refine Rch.go (fun t k => XS.pop X32.here hx rfl (hb hby at_171) rfl rfl (XS.goto X32.here hx rfl (pc0 := 172) (pc' := 239) rfl (hb hby at_172) (by decide) (by decide) k)) ?_
    show Aw p e below _ T32 m 239 #[sl1, sl2, sl3, sl4, sl5, sl6, iv y7, iv y8, iv y9, iv y10, iv y11, iv y12, iv y13, rv x14, sl15, rv x16, rv x17, rv b1, uu, uu, uu] []
    obtain ⟨T33, h33, X33, e33, E33, A33, D33, -, st33⟩ := newO X32 hx hZ hown (wd_0 hw) (wd_1 hw) (wd_2 hw) rfl (g := (mkF m 239 #[sl1, sl2, sl3, sl4, sl5, sl6, iv y7, iv y8, iv y9, iv y10, iv y11, iv y12, iv y13, rv x14, sl15, rv x16, rv x17, rv b1, uu, uu, uu] [])) rfl (hb hby at_239) (by decide) (by decide)
    obtain ⟨b33, g33⟩ : ∃ z, z = T32.heap.size := ⟨_, rfl⟩
    rw [← g33] at A33 D33 st33
    refine Rch.go st33 ?_
    have z34 := (Nat.le_trans z30 K32.1)
    have g_b33 : n0 ≤ b33 := Nat.le_trans z34 (Nat.le_of_eq g33.symm)
    have F33_value : Fld Z h33 b33 s2' "value" "Ljava/lang/String;" .null := (D33 (Or.inr (wd_104 hw)) (ty := (.object "java/lang/String")) (by decide))
    have F33_children : Fld Z h33 b33 s2' "children" "Ljava/util/List;" .null := (D33 (Or.inr (wd_106 hw)) (ty := (.object "java/util/List")) (by decide))
    show Aw p e below _ T33 m 242 #[sl1, sl2, sl3, sl4, sl5, sl6, iv y7, iv y8, iv y9, iv y10, iv y11, iv y12, iv y13, rv x14, sl15, rv x16, rv x17, rv b1, uu, uu, uu] [(.ref b33)]
    refine Rch.go (fun t k => XS.dup X33.here hx rfl (hb hby at_242) rfl rfl (XS.iload X33.here hx rfl (hb hby at_243) rfl  k)) ?_
    show Aw p e below _ T33 m 245 #[sl1, sl2, sl3, sl4, sl5, sl6, iv y7, iv y8, iv y9, iv y10, iv y11, iv y12, iv y13, rv x14, sl15, rv x16, rv x17, rv b1, uu, uu, uu] [(.int y7), (.ref b33), (.ref b33)]
    have z35 := (Nat.le_trans z34 E33.1)
    have o36 := ((o31.keep K32 (allS g_b1 all0)).ext E33)
    obtain ⟨v37, T37, L37, X37, Q37, st37⟩ := callSt X33 hx hZ (m18_valueOf l Z a0 hw y7 y19 h33 n0 z35 o36 P3 P4 P5) e33 hown (wd_3 hw) (wd_4 hw) (wd_6 hw) (wd_5 hw) (by decide) (hb hby at_245) 2 (by decide) (by decide) (by decide) (by decide) (by rw [hml]; rfl) [(.int y7)] [(.ref b33), (.ref b33)] rfl (lenOf pd_13 rfl) rfl (Nat.le_of_eq rfl) (Ls := #[sl1, sl2, sl3, sl4, sl5, sl6, iv y7, iv y8, iv y9, iv y10, iv y11, iv y12, iv y13, rv x14, sl15, rv x16, rv x17, rv b1, uu, uu, uu])
    obtain ⟨b37_0, b37_1, k37_0, rfl, M37, K37, zz37_0, zz37_1, F37_0, F37_1, F37_2, F37_3, F37_4⟩ := Q37
    have N37 := Fr.app N32 M37
    refine Rch.go st37 ?_
    have g_b37_0 : n0 ≤ b37_0 := Nat.le_trans z35 zz37_0
    have g_b37_1 : n0 ≤ b37_1 := Nat.le_trans z35 zz37_1
    show Aw p e below _ T37 m 248 #[sl1, sl2, sl3, sl4, sl5, sl6, iv y7, iv y8, iv y9, iv y10, iv y11, iv y12, iv y13, rv x14, sl15, rv x16, rv x17, rv b1, uu, uu, uu] [(.ref b37_0), (.ref b33), (.ref b33)]
    refine Rch.go (fun t k => XS.aload X37.here hx rfl (hb hby at_248) rfl rfl k) ?_
    show Aw p e below _ T37 m 250 #[sl1, sl2, sl3, sl4, sl5, sl6, iv y7, iv y8, iv y9, iv y10, iv y11, iv y12, iv y13, rv x14, sl15, rv x16, rv x17, rv b1, uu, uu, uu] [(.ref b1), (.ref b37_0), (.ref b33), (.ref b33)]
    have f38 := (((f28.keep K32).ext E33).keep K37)
    have f39 := ((F32_3.ext E33).keep K37 nin0)
    have f40 := (A33.keep K37)
    have f41 := (F33_value.keep K37 nin0)
    have f42 := (F33_children.keep K37 nin0)
    have f43 := ((F32_0.ext E33).keep K37 nin0)
    have f44 := ((F32_1.ext E33).keep K37)
    have f45 := ((F32_2.ext E33).keep K37 nin0)
    have f46 := (((f29.keep K32).ext E33).keep K37)
    have z47 := (Nat.le_trans z35 K37.1)
    have o48 := (o36.keep K37 all0)
    obtain ⟨v49, T49, L49, X49, Q49, Y49, hZ49, hown49, st49⟩ := callSpW X37 hx hZ Y0 (Nat.le_trans (Nat.le_trans (Nat.le_trans (Nat.le_trans (Nat.le_trans (Nat.le_refl _) E1.1) K4.1) K32.1) E33.1) K37.1) (m46_init l Z a0 hw b33 b37_0 b1 b37_1 k37_0 (nar .byte (y7.toInt8.toInt32)) x20 b32_0 x24 k32_0 x16 x21 T37.heap n0 z47 o48 F37_0 F37_3 F37_2 f38 f39 P6 f43 f44 P15 O32_0 f45 f46 P16 f40 f41 g_b33 f42) rfl hown rfl (wd_53 hw) (wd_54 hw) (wd_55 hw) (wd_2 hw) (by decide) (hb hby at_250) 1 (by decide) (by decide) (by decide) (by decide) (by rw [hml]; rfl) b33 [(.ref b37_0), (.ref b1)] [(.ref b33)] rfl (lenOf pd_18 rfl) rfl (Nat.le_of_eq rfl) (Ls := #[sl1, sl2, sl3, sl4, sl5, sl6, iv y7, iv y8, iv y9, iv y10, iv y11, iv y12, iv y13, rv x14, sl15, rv x16, rv x17, rv b1, uu, uu, uu])
    obtain ⟨b49_0, rfl, M49, K49, zz49_0, F49_0, F49_1, F49_2, F49_3, F49_4⟩ := Q49
    have N49 := Fr.app N37 M49
    refine Rch.go st49 ?_
    have g_b49_0 : n0 ≤ b49_0 := Nat.le_trans z47 zz49_0
    show Aw p e below _ T49 m 253 #[sl1, sl2, sl3, sl4, sl5, sl6, iv y7, iv y8, iv y9, iv y10, iv y11, iv y12, iv y13, rv x14, sl15, rv x16, rv x17, rv b1, uu, uu, uu] [(.ref b33)]
    refine Rch.go (fun t k => XS.astore X49.here hx rfl (hb hby at_253) rfl rfl (l' := #[sl1, sl2, sl3, sl4, sl5, sl6, iv y7, iv y8, iv y9, iv y10, iv y11, iv y12, iv y13, rv x14, sl15, rv x16, rv x17, rv b1, rv b33, uu, uu]) rfl k) ?_
    show Aw p e below _ T49 m 255 #[sl1, sl2, sl3, sl4, sl5, sl6, iv y7, iv y8, iv y9, iv y10, iv y11, iv y12, iv y13, rv x14, sl15, rv x16, rv x17, rv b1, rv b33, uu, uu] []
    have f50 := (f40.keep K49)
    have f51 := (F37_0.keep K49)
    have lt52 := A33.lt
    have ne53 : b33 ≠ b37_0 := Nat.ne_of_lt (Nat.lt_of_lt_of_le lt52 zz37_0)
    have f54 := (F37_3.keep K49 (ninS (Ne.symm ne53) nin0))
    have f55 := (F37_4.keep K49 (ninS (Ne.symm ne53) nin0))
    have ne56 : b33 ≠ b37_1 := Nat.ne_of_lt (Nat.lt_of_lt_of_le lt52 zz37_1)
    have f57 := (F37_2.keep K49 (ninS (Ne.symm ne56) nin0))
    have z58 := (Nat.le_trans z47 K49.1)
    have o59 := (o48.keep K49 (allS g_b33 all0))
    exact pe_36 l Z a0 hw sl1 sl2 sl3 sl4 sl5 sl6 y7 y8 y9 y10 y11 y12 y13 x14 sl15 x16 x17 (rv b1) b33 x20 x21 x22 y19 T49.heap n0 z58 o59 P7 (show Rt Z T49.heap b33 x16 x17 x20 x21 y13 y7 from (Or.inr (Or.inl ⟨hk, ⟨⟨b37_0, f50, F49_3, ⟨b37_1, k37_0, f51, f54, f55, f57, P8⟩⟩, b49_0, F49_4, F49_0, F49_1, F49_2⟩⟩))) P3 P4 P11 P12 P2 (P9.keep (((((((Keep.refl _ _).ext E1).trans K4 (allS (Or.inr (Nat.le_trans (Nat.le_refl _) (Nat.le_of_eq g1.symm))) all0)).trans K32 (allS (Or.inr (Nat.le_trans (Nat.le_refl _) (Nat.le_of_eq g1.symm))) all0)).ext E33).trans K37 all0).trans K49 (allS (Or.inr (Nat.le_trans (Nat.le_trans (Nat.le_trans (Nat.le_trans (Nat.le_refl _) E1.1) K4.1) K32.1) (Nat.le_of_eq g33.symm))) all0))) (P10.keep (((((((Keep.refl _ _).ext E1).trans K4 (allS (Or.inr (Nat.le_trans (Nat.le_refl _) (Nat.le_of_eq g1.symm))) all0)).trans K32 (allS (Or.inr (Nat.le_trans (Nat.le_refl _) (Nat.le_of_eq g1.symm))) all0)).ext E33).trans K37 all0).trans K49 (allS (Or.inr (Nat.le_trans (Nat.le_trans (Nat.le_trans (Nat.le_trans (Nat.le_refl _) E1.1) K4.1) K32.1) (Nat.le_of_eq g33.symm))) all0))) p e s _ m below meth c T49 _ _ hx hZ49 hby hml hown49 hnm hret hlk ⟨Y49.1, Y49.2.mono (Nat.le_refl _)⟩ (X49.mono (by decide) (by decide)) rfl N49
  · show Aw p e below _ T4 m 158 #[sl1, sl2, sl3, sl4, sl5, sl6, iv y7, iv y8, iv y9, iv y10, iv y11, iv y12, iv y13, rv x14, sl15, rv x16, rv x17, rv b1, uu, uu, uu] []
    refine Rch.go (fun t k => XS.iload X4.here hx rfl (hb hby at_158) rfl  (XS.iconst X4.here hx rfl (hb hby at_160) (XS.icmpYes X4.here hx rfl (pc0 := 161) (pc' := 175) rfl (hb hby at_161) rfl (XT.ii_ne_t (by rw [hk]; decide)) (by decide) (by decide) (XS.iload X4.here hx rfl (hb hby at_175) rfl  (XS.iconst X4.here hx rfl (hb hby at_177) (XS.icmpNo X4.here hx rfl (hb hby at_178) rfl (XT.ii_ne_f hk) (XS.aload X4.here hx rfl (hb hby at_181) rfl rfl (XS.aload X4.here hx rfl (hb hby at_183) rfl rfl k)))))))) ?_
    show Aw p e below _ T4 m 185 #[sl1, sl2, sl3, sl4, sl5, sl6, iv y7, iv y8, iv y9, iv y10, iv y11, iv y12, iv y13, rv x14, sl15, rv x16, rv x17, rv b1, uu, uu, uu] [(.ref x17), (.ref b1)]
    have f60 := (A1.keep K4)
    have f61 := ((P17.ext E1).keep K4)
    have z62 := (Nat.le_trans z2 K4.1)
    have o63 := (o3.keep K4 (allS g_b1 all0))
    obtain ⟨v64, T64, L64, X64, Q64, st64⟩ := callVi X4 hx hZ (m41_add l Z a0 hw b1 x17 x18 kk23 T4.heap n0 z62 o63 F4_0 f60 g_b1 F4_1 F4_2 P13 P1 f61) rfl hown (wd_107 hw) (wd_108 hw) (wd_110 hw) (notFace_of_selects (args := #[]) (mvT hZ (wd_110 hw))) (wd_109 hw) (wd_111 hw) (wd_31 hw) (by decide) (hb hby at_185) 0 (by decide) (by decide) (by decide) (by decide) (by rw [hml]; rfl) b1 f60 [(.ref x17)] [] rfl (lenOf pd_1 rfl) rfl (Nat.le_of_eq rfl) (Ls := #[sl1, sl2, sl3, sl4, sl5, sl6, iv y7, iv y8, iv y9, iv y10, iv y11, iv y12, iv y13, rv x14, sl15, rv x16, rv x17, rv b1, uu, uu, uu])
    obtain ⟨b64_0, k64_0, rfl, M64, K64, zz64_0, O64_0, F64_0, F64_1, F64_2, F64_3, F64_4⟩ := Q64
    have N64 := Fr.app N4 M64
    refine Rch.go st64 ?_
    have g_b64_0 : n0 ≤ b64_0 := Nat.le_trans z62 zz64_0
    show Aw p e below _ T64 m 188 #[sl1, sl2, sl3, sl4, sl5, sl6, iv y7, iv y8, iv y9, iv y10, iv y11, iv y12, iv y13, rv x14, sl15, rv x16, rv x17, rv b1, uu, uu, uu] [(.int 1)]
    refine Rch.go (fun t k => XS.pop X64.here hx rfl (hb hby at_188) rfl rfl (XS.goto X64.here hx rfl (pc0 := 189) (pc' := 239) rfl (hb hby at_189) (by decide) (by decide) k)) ?_
    show Aw p e below _ T64 m 239 #[sl1, sl2, sl3, sl4, sl5, sl6, iv y7, iv y8, iv y9, iv y10, iv y11, iv y12, iv y13, rv x14, sl15, rv x16, rv x17, rv b1, uu, uu, uu] []
    obtain ⟨T65, h65, X65, e65, E65, A65, D65, -, st65⟩ := newO X64 hx hZ hown (wd_0 hw) (wd_1 hw) (wd_2 hw) rfl (g := (mkF m 239 #[sl1, sl2, sl3, sl4, sl5, sl6, iv y7, iv y8, iv y9, iv y10, iv y11, iv y12, iv y13, rv x14, sl15, rv x16, rv x17, rv b1, uu, uu, uu] [])) rfl (hb hby at_239) (by decide) (by decide)
    obtain ⟨b65, g65⟩ : ∃ z, z = T64.heap.size := ⟨_, rfl⟩
    rw [← g65] at A65 D65 st65
    refine Rch.go st65 ?_
    have z66 := (Nat.le_trans z62 K64.1)
    have g_b65 : n0 ≤ b65 := Nat.le_trans z66 (Nat.le_of_eq g65.symm)
    have F65_value : Fld Z h65 b65 s2' "value" "Ljava/lang/String;" .null := (D65 (Or.inr (wd_104 hw)) (ty := (.object "java/lang/String")) (by decide))
    have F65_children : Fld Z h65 b65 s2' "children" "Ljava/util/List;" .null := (D65 (Or.inr (wd_106 hw)) (ty := (.object "java/util/List")) (by decide))
    show Aw p e below _ T65 m 242 #[sl1, sl2, sl3, sl4, sl5, sl6, iv y7, iv y8, iv y9, iv y10, iv y11, iv y12, iv y13, rv x14, sl15, rv x16, rv x17, rv b1, uu, uu, uu] [(.ref b65)]
    refine Rch.go (fun t k => XS.dup X65.here hx rfl (hb hby at_242) rfl rfl (XS.iload X65.here hx rfl (hb hby at_243) rfl  k)) ?_
    show Aw p e below _ T65 m 245 #[sl1, sl2, sl3, sl4, sl5, sl6, iv y7, iv y8, iv y9, iv y10, iv y11, iv y12, iv y13, rv x14, sl15, rv x16, rv x17, rv b1, uu, uu, uu] [(.int y7), (.ref b65), (.ref b65)]
    have z67 := (Nat.le_trans z66 E65.1)
    have o68 := ((o63.keep K64 (allS g_b1 all0)).ext E65)
    obtain ⟨v69, T69, L69, X69, Q69, st69⟩ := callSt X65 hx hZ (m18_valueOf l Z a0 hw y7 y19 h65 n0 z67 o68 P3 P4 P5) e65 hown (wd_3 hw) (wd_4 hw) (wd_6 hw) (wd_5 hw) (by decide) (hb hby at_245) 2 (by decide) (by decide) (by decide) (by decide) (by rw [hml]; rfl) [(.int y7)] [(.ref b65), (.ref b65)] rfl (lenOf pd_13 rfl) rfl (Nat.le_of_eq rfl) (Ls := #[sl1, sl2, sl3, sl4, sl5, sl6, iv y7, iv y8, iv y9, iv y10, iv y11, iv y12, iv y13, rv x14, sl15, rv x16, rv x17, rv b1, uu, uu, uu])
    obtain ⟨b69_0, b69_1, k69_0, rfl, M69, K69, zz69_0, zz69_1, F69_0, F69_1, F69_2, F69_3, F69_4⟩ := Q69
    have N69 := Fr.app N64 M69
    refine Rch.go st69 ?_
    have g_b69_0 : n0 ≤ b69_0 := Nat.le_trans z67 zz69_0
    have g_b69_1 : n0 ≤ b69_1 := Nat.le_trans z67 zz69_1
    show Aw p e below _ T69 m 248 #[sl1, sl2, sl3, sl4, sl5, sl6, iv y7, iv y8, iv y9, iv y10, iv y11, iv y12, iv y13, rv x14, sl15, rv x16, rv x17, rv b1, uu, uu, uu] [(.ref b69_0), (.ref b65), (.ref b65)]
    refine Rch.go (fun t k => XS.aload X69.here hx rfl (hb hby at_248) rfl rfl k) ?_
    show Aw p e below _ T69 m 250 #[sl1, sl2, sl3, sl4, sl5, sl6, iv y7, iv y8, iv y9, iv y10, iv y11, iv y12, iv y13, rv x14, sl15, rv x16, rv x17, rv b1, uu, uu, uu] [(.ref b1), (.ref b69_0), (.ref b65), (.ref b65)]
    have f70 := (((f60.keep K64).ext E65).keep K69)
    have f71 := ((F64_3.ext E65).keep K69 nin0)
    have f72 := (A65.keep K69)
    have f73 := (F65_value.keep K69 nin0)
    have f74 := (F65_children.keep K69 nin0)
    have f75 := ((F64_0.ext E65).keep K69 nin0)
    have f76 := ((F64_1.ext E65).keep K69)
    have f77 := ((F64_2.ext E65).keep K69 nin0)
    have f78 := (((f61.keep K64).ext E65).keep K69)
    have z79 := (Nat.le_trans z67 K69.1)
    have o80 := (o68.keep K69 all0)
    obtain ⟨v81, T81, L81, X81, Q81, Y81, hZ81, hown81, st81⟩ := callSpW X69 hx hZ Y0 (Nat.le_trans (Nat.le_trans (Nat.le_trans (Nat.le_trans (Nat.le_trans (Nat.le_refl _) E1.1) K4.1) K64.1) E65.1) K69.1) (m46_init l Z a0 hw b65 b69_0 b1 b69_1 k69_0 (nar .byte (y7.toInt8.toInt32)) x20 b64_0 x24 k64_0 x17 x21 T69.heap n0 z79 o80 F69_0 F69_3 F69_2 f70 f71 P6 f75 f76 P15 O64_0 f77 f78 P16 f72 f73 g_b65 f74) rfl hown rfl (wd_53 hw) (wd_54 hw) (wd_55 hw) (wd_2 hw) (by decide) (hb hby at_250) 1 (by decide) (by decide) (by decide) (by decide) (by rw [hml]; rfl) b65 [(.ref b69_0), (.ref b1)] [(.ref b65)] rfl (lenOf pd_18 rfl) rfl (Nat.le_of_eq rfl) (Ls := #[sl1, sl2, sl3, sl4, sl5, sl6, iv y7, iv y8, iv y9, iv y10, iv y11, iv y12, iv y13, rv x14, sl15, rv x16, rv x17, rv b1, uu, uu, uu])
    obtain ⟨b81_0, rfl, M81, K81, zz81_0, F81_0, F81_1, F81_2, F81_3, F81_4⟩ := Q81
    have N81 := Fr.app N69 M81
    refine Rch.go st81 ?_
    have g_b81_0 : n0 ≤ b81_0 := Nat.le_trans z79 zz81_0
    show Aw p e below _ T81 m 253 #[sl1, sl2, sl3, sl4, sl5, sl6, iv y7, iv y8, iv y9, iv y10, iv y11, iv y12, iv y13, rv x14, sl15, rv x16, rv x17, rv b1, uu, uu, uu] [(.ref b65)]
    refine Rch.go (fun t k => XS.astore X81.here hx rfl (hb hby at_253) rfl rfl (l' := #[sl1, sl2, sl3, sl4, sl5, sl6, iv y7, iv y8, iv y9, iv y10, iv y11, iv y12, iv y13, rv x14, sl15, rv x16, rv x17, rv b1, rv b65, uu, uu]) rfl k) ?_
    show Aw p e below _ T81 m 255 #[sl1, sl2, sl3, sl4, sl5, sl6, iv y7, iv y8, iv y9, iv y10, iv y11, iv y12, iv y13, rv x14, sl15, rv x16, rv x17, rv b1, rv b65, uu, uu] []
    have f82 := (f72.keep K81)
    have f83 := (F69_0.keep K81)
    have lt84 := A65.lt
    have ne85 : b65 ≠ b69_0 := Nat.ne_of_lt (Nat.lt_of_lt_of_le lt84 zz69_0)
    have f86 := (F69_3.keep K81 (ninS (Ne.symm ne85) nin0))
    have f87 := (F69_4.keep K81 (ninS (Ne.symm ne85) nin0))
    have ne88 : b65 ≠ b69_1 := Nat.ne_of_lt (Nat.lt_of_lt_of_le lt84 zz69_1)
    have f89 := (F69_2.keep K81 (ninS (Ne.symm ne88) nin0))
    have z90 := (Nat.le_trans z79 K81.1)
    have o91 := (o80.keep K81 (allS g_b65 all0))
    exact pe_36 l Z a0 hw sl1 sl2 sl3 sl4 sl5 sl6 y7 y8 y9 y10 y11 y12 y13 x14 sl15 x16 x17 (rv b1) b65 x20 x21 x22 y19 T81.heap n0 z90 o91 P7 (show Rt Z T81.heap b65 x16 x17 x20 x21 y13 y7 from (Or.inr (Or.inr (Or.inl ⟨hk, ⟨⟨b69_0, f82, F81_3, ⟨b69_1, k69_0, f83, f86, f87, f89, P8⟩⟩, b81_0, F81_4, F81_0, F81_1, F81_2⟩⟩)))) P3 P4 P11 P12 P2 (P9.keep (((((((Keep.refl _ _).ext E1).trans K4 (allS (Or.inr (Nat.le_trans (Nat.le_refl _) (Nat.le_of_eq g1.symm))) all0)).trans K64 (allS (Or.inr (Nat.le_trans (Nat.le_refl _) (Nat.le_of_eq g1.symm))) all0)).ext E65).trans K69 all0).trans K81 (allS (Or.inr (Nat.le_trans (Nat.le_trans (Nat.le_trans (Nat.le_trans (Nat.le_refl _) E1.1) K4.1) K64.1) (Nat.le_of_eq g65.symm))) all0))) (P10.keep (((((((Keep.refl _ _).ext E1).trans K4 (allS (Or.inr (Nat.le_trans (Nat.le_refl _) (Nat.le_of_eq g1.symm))) all0)).trans K64 (allS (Or.inr (Nat.le_trans (Nat.le_refl _) (Nat.le_of_eq g1.symm))) all0)).ext E65).trans K69 all0).trans K81 (allS (Or.inr (Nat.le_trans (Nat.le_trans (Nat.le_trans (Nat.le_trans (Nat.le_refl _) E1.1) K4.1) K64.1) (Nat.le_of_eq g65.symm))) all0))) p e s _ m below meth c T81 _ _ hx hZ81 hby hml hown81 hnm hret hlk ⟨Y81.1, Y81.2.mono (Nat.le_refl _)⟩ (X81.mono (by decide) (by decide)) rfl N81
  · show Aw p e below _ T4 m 158 #[sl1, sl2, sl3, sl4, sl5, sl6, iv y7, iv y8, iv y9, iv y10, iv y11, iv y12, iv y13, rv x14, sl15, rv x16, rv x17, rv b1, uu, uu, uu] []
    refine Rch.go (fun t k => XS.iload X4.here hx rfl (hb hby at_158) rfl  (XS.iconst X4.here hx rfl (hb hby at_160) (XS.icmpYes X4.here hx rfl (pc0 := 161) (pc' := 175) rfl (hb hby at_161) rfl (XT.ii_ne_t (by rw [hk]; decide)) (by decide) (by decide) (XS.iload X4.here hx rfl (hb hby at_175) rfl  (XS.iconst X4.here hx rfl (hb hby at_177) (XS.icmpYes X4.here hx rfl (pc0 := 178) (pc' := 192) rfl (hb hby at_178) rfl (XT.ii_ne_t (by rw [hk]; decide)) (by decide) (by decide) (XS.iload X4.here hx rfl (hb hby at_192) rfl  (XS.iconst X4.here hx rfl (hb hby at_194) (XS.icmpNo X4.here hx rfl (hb hby at_195) rfl (XT.ii_ne_f hk) (XS.aload X4.here hx rfl (hb hby at_198) rfl rfl (XS.aload X4.here hx rfl (hb hby at_200) rfl rfl k))))))))))) ?_
    show Aw p e below _ T4 m 202 #[sl1, sl2, sl3, sl4, sl5, sl6, iv y7, iv y8, iv y9, iv y10, iv y11, iv y12, iv y13, rv x14, sl15, rv x16, rv x17, rv b1, uu, uu, uu] [(.ref x16), (.ref b1)]
    have f92 := (A1.keep K4)
    have f93 := ((P14.ext E1).keep K4)
    have z94 := (Nat.le_trans z2 K4.1)
    have o95 := (o3.keep K4 (allS g_b1 all0))
    obtain ⟨v96, T96, L96, X96, Q96, st96⟩ := callVi X4 hx hZ (m41_add l Z a0 hw b1 x16 x18 kk23 T4.heap n0 z94 o95 F4_0 f92 g_b1 F4_1 F4_2 P13 P1 f93) rfl hown (wd_107 hw) (wd_108 hw) (wd_110 hw) (notFace_of_selects (args := #[]) (mvT hZ (wd_110 hw))) (wd_109 hw) (wd_111 hw) (wd_31 hw) (by decide) (hb hby at_202) 0 (by decide) (by decide) (by decide) (by decide) (by rw [hml]; rfl) b1 f92 [(.ref x16)] [] rfl (lenOf pd_1 rfl) rfl (Nat.le_of_eq rfl) (Ls := #[sl1, sl2, sl3, sl4, sl5, sl6, iv y7, iv y8, iv y9, iv y10, iv y11, iv y12, iv y13, rv x14, sl15, rv x16, rv x17, rv b1, uu, uu, uu])
    obtain ⟨b96_0, k96_0, rfl, M96, K96, zz96_0, O96_0, F96_0, F96_1, F96_2, F96_3, F96_4⟩ := Q96
    have N96 := Fr.app N4 M96
    refine Rch.go st96 ?_
    have g_b96_0 : n0 ≤ b96_0 := Nat.le_trans z94 zz96_0
    show Aw p e below _ T96 m 205 #[sl1, sl2, sl3, sl4, sl5, sl6, iv y7, iv y8, iv y9, iv y10, iv y11, iv y12, iv y13, rv x14, sl15, rv x16, rv x17, rv b1, uu, uu, uu] [(.int 1)]
    refine Rch.go (fun t k => XS.pop X96.here hx rfl (hb hby at_205) rfl rfl (XS.aload X96.here hx rfl (hb hby at_206) rfl rfl (XS.aload X96.here hx rfl (hb hby at_208) rfl rfl k))) ?_
    show Aw p e below _ T96 m 210 #[sl1, sl2, sl3, sl4, sl5, sl6, iv y7, iv y8, iv y9, iv y10, iv y11, iv y12, iv y13, rv x14, sl15, rv x16, rv x17, rv b1, uu, uu, uu] [(.ref x17), (.ref b1)]
    have f97 := (f92.keep K96)
    have f98 := (((P17.ext E1).keep K4).keep K96)
    have lt99 := (Nat.lt_of_lt_of_le A1.lt K4.1)
    have ne100 : b1 ≠ b96_0 := Nat.ne_of_lt (Nat.lt_of_lt_of_le lt99 zz96_0)
    have z101 := (Nat.le_trans z94 K96.1)
    have o102 := (o95.keep K96 (allS g_b1 all0))
    obtain ⟨v103, T103, L103, X103, Q103, st103⟩ := callVi X96 hx hZ (m58_add l Z a0 hw b1 x17 b96_0 k96_0 x16 T96.heap n0 z101 o102 F96_4 f97 g_b1 F96_0 F96_3 O96_0 F96_2 (Ne.symm ne100) f98 g_b96_0) rfl hown (wd_107 hw) (wd_108 hw) (wd_110 hw) (notFace_of_selects (args := #[]) (mvT hZ (wd_110 hw))) (wd_109 hw) (wd_111 hw) (wd_31 hw) (by decide) (hb hby at_210) 0 (by decide) (by decide) (by decide) (by decide) (by rw [hml]; rfl) b1 f97 [(.ref x17)] [] rfl (lenOf pd_1 rfl) rfl (Nat.le_of_eq rfl) (Ls := #[sl1, sl2, sl3, sl4, sl5, sl6, iv y7, iv y8, iv y9, iv y10, iv y11, iv y12, iv y13, rv x14, sl15, rv x16, rv x17, rv b1, uu, uu, uu])
    obtain ⟨rfl, M103, K103, F103_0, F103_1, F103_2, F103_3⟩ := Q103
    have N103 := Fr.app N96 M103
    refine Rch.go st103 ?_
    show Aw p e below _ T103 m 213 #[sl1, sl2, sl3, sl4, sl5, sl6, iv y7, iv y8, iv y9, iv y10, iv y11, iv y12, iv y13, rv x14, sl15, rv x16, rv x17, rv b1, uu, uu, uu] [(.int 1)]
    refine Rch.go (fun t k => XS.pop X103.here hx rfl (hb hby at_213) rfl rfl (XS.goto X103.here hx rfl (pc0 := 214) (pc' := 239) rfl (hb hby at_214) (by decide) (by decide) k)) ?_
    show Aw p e below _ T103 m 239 #[sl1, sl2, sl3, sl4, sl5, sl6, iv y7, iv y8, iv y9, iv y10, iv y11, iv y12, iv y13, rv x14, sl15, rv x16, rv x17, rv b1, uu, uu, uu] []
    obtain ⟨T104, h104, X104, e104, E104, A104, D104, -, st104⟩ := newO X103 hx hZ hown (wd_0 hw) (wd_1 hw) (wd_2 hw) rfl (g := (mkF m 239 #[sl1, sl2, sl3, sl4, sl5, sl6, iv y7, iv y8, iv y9, iv y10, iv y11, iv y12, iv y13, rv x14, sl15, rv x16, rv x17, rv b1, uu, uu, uu] [])) rfl (hb hby at_239) (by decide) (by decide)
    obtain ⟨b104, g104⟩ : ∃ z, z = T103.heap.size := ⟨_, rfl⟩
    rw [← g104] at A104 D104 st104
    refine Rch.go st104 ?_
    have z105 := (Nat.le_trans z101 K103.1)
    have g_b104 : n0 ≤ b104 := Nat.le_trans z105 (Nat.le_of_eq g104.symm)
    have F104_value : Fld Z h104 b104 s2' "value" "Ljava/lang/String;" .null := (D104 (Or.inr (wd_104 hw)) (ty := (.object "java/lang/String")) (by decide))
    have F104_children : Fld Z h104 b104 s2' "children" "Ljava/util/List;" .null := (D104 (Or.inr (wd_106 hw)) (ty := (.object "java/util/List")) (by decide))
    show Aw p e below _ T104 m 242 #[sl1, sl2, sl3, sl4, sl5, sl6, iv y7, iv y8, iv y9, iv y10, iv y11, iv y12, iv y13, rv x14, sl15, rv x16, rv x17, rv b1, uu, uu, uu] [(.ref b104)]
    refine Rch.go (fun t k => XS.dup X104.here hx rfl (hb hby at_242) rfl rfl (XS.iload X104.here hx rfl (hb hby at_243) rfl  k)) ?_
    show Aw p e below _ T104 m 245 #[sl1, sl2, sl3, sl4, sl5, sl6, iv y7, iv y8, iv y9, iv y10, iv y11, iv y12, iv y13, rv x14, sl15, rv x16, rv x17, rv b1, uu, uu, uu] [(.int y7), (.ref b104), (.ref b104)]
    have z106 := (Nat.le_trans z105 E104.1)
    have o107 := ((o102.keep K103 (allS g_b1 (allS g_b96_0 all0))).ext E104)
    obtain ⟨v108, T108, L108, X108, Q108, st108⟩ := callSt X104 hx hZ (m18_valueOf l Z a0 hw y7 y19 h104 n0 z106 o107 P3 P4 P5) e104 hown (wd_3 hw) (wd_4 hw) (wd_6 hw) (wd_5 hw) (by decide) (hb hby at_245) 2 (by decide) (by decide) (by decide) (by decide) (by rw [hml]; rfl) [(.int y7)] [(.ref b104), (.ref b104)] rfl (lenOf pd_13 rfl) rfl (Nat.le_of_eq rfl) (Ls := #[sl1, sl2, sl3, sl4, sl5, sl6, iv y7, iv y8, iv y9, iv y10, iv y11, iv y12, iv y13, rv x14, sl15, rv x16, rv x17, rv b1, uu, uu, uu])
    obtain ⟨b108_0, b108_1, k108_0, rfl, M108, K108, zz108_0, zz108_1, F108_0, F108_1, F108_2, F108_3, F108_4⟩ := Q108
    have N108 := Fr.app N103 M108
    refine Rch.go st108 ?_
    have g_b108_0 : n0 ≤ b108_0 := Nat.le_trans z106 zz108_0
    have g_b108_1 : n0 ≤ b108_1 := Nat.le_trans z106 zz108_1
    show Aw p e below _ T108 m 248 #[sl1, sl2, sl3, sl4, sl5, sl6, iv y7, iv y8, iv y9, iv y10, iv y11, iv y12, iv y13, rv x14, sl15, rv x16, rv x17, rv b1, uu, uu, uu] [(.ref b108_0), (.ref b104), (.ref b104)]
    refine Rch.go (fun t k => XS.aload X108.here hx rfl (hb hby at_248) rfl rfl k) ?_
    show Aw p e below _ T108 m 250 #[sl1, sl2, sl3, sl4, sl5, sl6, iv y7, iv y8, iv y9, iv y10, iv y11, iv y12, iv y13, rv x14, sl15, rv x16, rv x17, rv b1, uu, uu, uu] [(.ref b1), (.ref b108_0), (.ref b104), (.ref b104)]
    have f109 := (((f97.keep K103).ext E104).keep K108)
    have f110 := ((F103_1.ext E104).keep K108 nin0)
    have f111 := (A104.keep K108)
    have f112 := (F104_value.keep K108 nin0)
    have f113 := (F104_children.keep K108 nin0)
    have f114 := ((F103_3.ext E104).keep K108 nin0)
    have f115 := (((F96_1.keep K103).ext E104).keep K108)
    have f116 := ((F103_0.ext E104).keep K108 nin0)
    have f117 := ((((f93.keep K96).keep K103).ext E104).keep K108)
    have f118 := (((f98.keep K103).ext E104).keep K108)
    have z119 := (Nat.le_trans z106 K108.1)
    have o120 := (o107.keep K108 all0)
    obtain ⟨v121, T121, L121, X121, Q121, Y121, hZ121, hown121, st121⟩ := callSpW X108 hx hZ Y0 (Nat.le_trans (Nat.le_trans (Nat.le_trans (Nat.le_trans (Nat.le_trans (Nat.le_trans (Nat.le_refl _) E1.1) K4.1) K96.1) K103.1) E104.1) K108.1) (m60_init l Z a0 hw b104 b108_0 b1 b108_1 k108_0 (nar .byte (y7.toInt8.toInt32)) x20 b96_0 x24 k96_0 x16 x17 x21 T108.heap n0 z119 o120 F108_0 F108_3 F108_2 f109 f110 P6 f114 f115 P15 O96_0 f116 f117 P16 f118 f111 f112 g_b104 f113) rfl hown rfl (wd_53 hw) (wd_54 hw) (wd_55 hw) (wd_2 hw) (by decide) (hb hby at_250) 1 (by decide) (by decide) (by decide) (by decide) (by rw [hml]; rfl) b104 [(.ref b108_0), (.ref b1)] [(.ref b104)] rfl (lenOf pd_18 rfl) rfl (Nat.le_of_eq rfl) (Ls := #[sl1, sl2, sl3, sl4, sl5, sl6, iv y7, iv y8, iv y9, iv y10, iv y11, iv y12, iv y13, rv x14, sl15, rv x16, rv x17, rv b1, uu, uu, uu])
    obtain ⟨b121_0, rfl, M121, K121, zz121_0, F121_0, F121_1, F121_2, F121_3, F121_4⟩ := Q121
    have N121 := Fr.app N108 M121
    refine Rch.go st121 ?_
    have g_b121_0 : n0 ≤ b121_0 := Nat.le_trans z119 zz121_0
    show Aw p e below _ T121 m 253 #[sl1, sl2, sl3, sl4, sl5, sl6, iv y7, iv y8, iv y9, iv y10, iv y11, iv y12, iv y13, rv x14, sl15, rv x16, rv x17, rv b1, uu, uu, uu] [(.ref b104)]
    refine Rch.go (fun t k => XS.astore X121.here hx rfl (hb hby at_253) rfl rfl (l' := #[sl1, sl2, sl3, sl4, sl5, sl6, iv y7, iv y8, iv y9, iv y10, iv y11, iv y12, iv y13, rv x14, sl15, rv x16, rv x17, rv b1, rv b104, uu, uu]) rfl k) ?_
    show Aw p e below _ T121 m 255 #[sl1, sl2, sl3, sl4, sl5, sl6, iv y7, iv y8, iv y9, iv y10, iv y11, iv y12, iv y13, rv x14, sl15, rv x16, rv x17, rv b1, rv b104, uu, uu] []
    have f122 := (f111.keep K121)
    have f123 := (F108_0.keep K121)
    have lt124 := A104.lt
    have ne125 : b104 ≠ b108_0 := Nat.ne_of_lt (Nat.lt_of_lt_of_le lt124 zz108_0)
    have f126 := (F108_3.keep K121 (ninS (Ne.symm ne125) nin0))
    have f127 := (F108_4.keep K121 (ninS (Ne.symm ne125) nin0))
    have ne128 : b104 ≠ b108_1 := Nat.ne_of_lt (Nat.lt_of_lt_of_le lt124 zz108_1)
    have f129 := (F108_2.keep K121 (ninS (Ne.symm ne128) nin0))
    have z130 := (Nat.le_trans z119 K121.1)
    have o131 := (o120.keep K121 (allS g_b104 all0))
    exact pe_36 l Z a0 hw sl1 sl2 sl3 sl4 sl5 sl6 y7 y8 y9 y10 y11 y12 y13 x14 sl15 x16 x17 (rv b1) b104 x20 x21 x22 y19 T121.heap n0 z130 o131 P7 (show Rt Z T121.heap b104 x16 x17 x20 x21 y13 y7 from (Or.inr (Or.inr (Or.inr (Or.inl ⟨hk, ⟨⟨b108_0, f122, F121_3, ⟨b108_1, k108_0, f123, f126, f127, f129, P8⟩⟩, P18, b121_0, F121_4, F121_0, F121_1, F121_2⟩⟩))))) P3 P4 P11 P12 P2 (P9.keep ((((((((Keep.refl _ _).ext E1).trans K4 (allS (Or.inr (Nat.le_trans (Nat.le_refl _) (Nat.le_of_eq g1.symm))) all0)).trans K96 (allS (Or.inr (Nat.le_trans (Nat.le_refl _) (Nat.le_of_eq g1.symm))) all0)).trans K103 (allS (Or.inr (Nat.le_trans (Nat.le_refl _) (Nat.le_of_eq g1.symm))) (allS (Or.inr (Nat.le_trans (Nat.le_trans (Nat.le_trans (Nat.le_refl _) E1.1) K4.1) zz96_0)) all0))).ext E104).trans K108 all0).trans K121 (allS (Or.inr (Nat.le_trans (Nat.le_trans (Nat.le_trans (Nat.le_trans (Nat.le_trans (Nat.le_refl _) E1.1) K4.1) K96.1) K103.1) (Nat.le_of_eq g104.symm))) all0))) (P10.keep ((((((((Keep.refl _ _).ext E1).trans K4 (allS (Or.inr (Nat.le_trans (Nat.le_refl _) (Nat.le_of_eq g1.symm))) all0)).trans K96 (allS (Or.inr (Nat.le_trans (Nat.le_refl _) (Nat.le_of_eq g1.symm))) all0)).trans K103 (allS (Or.inr (Nat.le_trans (Nat.le_refl _) (Nat.le_of_eq g1.symm))) (allS (Or.inr (Nat.le_trans (Nat.le_trans (Nat.le_trans (Nat.le_refl _) E1.1) K4.1) zz96_0)) all0))).ext E104).trans K108 all0).trans K121 (allS (Or.inr (Nat.le_trans (Nat.le_trans (Nat.le_trans (Nat.le_trans (Nat.le_trans (Nat.le_refl _) E1.1) K4.1) K96.1) K103.1) (Nat.le_of_eq g104.symm))) all0))) p e s _ m below meth c T121 _ _ hx hZ121 hby hml hown121 hnm hret hlk ⟨Y121.1, Y121.2.mono (Nat.le_refl _)⟩ (X121.mono (by decide) (by decide)) rfl N121
  · show Aw p e below _ T4 m 158 #[sl1, sl2, sl3, sl4, sl5, sl6, iv y7, iv y8, iv y9, iv y10, iv y11, iv y12, iv y13, rv x14, sl15, rv x16, rv x17, rv b1, uu, uu, uu] []
    refine Rch.go (fun t k => XS.iload X4.here hx rfl (hb hby at_158) rfl  (XS.iconst X4.here hx rfl (hb hby at_160) (XS.icmpYes X4.here hx rfl (pc0 := 161) (pc' := 175) rfl (hb hby at_161) rfl (XT.ii_ne_t (by rw [hk]; decide)) (by decide) (by decide) (XS.iload X4.here hx rfl (hb hby at_175) rfl  (XS.iconst X4.here hx rfl (hb hby at_177) (XS.icmpYes X4.here hx rfl (pc0 := 178) (pc' := 192) rfl (hb hby at_178) rfl (XT.ii_ne_t (by rw [hk]; decide)) (by decide) (by decide) (XS.iload X4.here hx rfl (hb hby at_192) rfl  (XS.iconst X4.here hx rfl (hb hby at_194) (XS.icmpYes X4.here hx rfl (pc0 := 195) (pc' := 217) rfl (hb hby at_195) rfl (XT.ii_ne_t (by rw [hk]; decide)) (by decide) (by decide) (XS.iload X4.here hx rfl (hb hby at_217) rfl  (XS.iconst X4.here hx rfl (hb hby at_219) (XS.icmpNo X4.here hx rfl (hb hby at_220) rfl (XT.ii_ne_f hk) k)))))))))))) ?_
    show Aw p e below _ T4 m 223 #[sl1, sl2, sl3, sl4, sl5, sl6, iv y7, iv y8, iv y9, iv y10, iv y11, iv y12, iv y13, rv x14, sl15, rv x16, rv x17, rv b1, uu, uu, uu] []
    refine Rch.go (fun t k => XS.aload X4.here hx rfl (hb hby at_223) rfl rfl (XS.aload X4.here hx rfl (hb hby at_225) rfl rfl k)) ?_
    show Aw p e below _ T4 m 227 #[sl1, sl2, sl3, sl4, sl5, sl6, iv y7, iv y8, iv y9, iv y10, iv y11, iv y12, iv y13, rv x14, sl15, rv x16, rv x17, rv b1, uu, uu, uu] [(.ref x17), (.ref b1)]
    have f132 := (A1.keep K4)
    have f133 := ((P17.ext E1).keep K4)
    have z134 := (Nat.le_trans z2 K4.1)
    have o135 := (o3.keep K4 (allS g_b1 all0))
    obtain ⟨v136, T136, L136, X136, Q136, st136⟩ := callVi X4 hx hZ (m41_add l Z a0 hw b1 x17 x18 kk23 T4.heap n0 z134 o135 F4_0 f132 g_b1 F4_1 F4_2 P13 P1 f133) rfl hown (wd_107 hw) (wd_108 hw) (wd_110 hw) (notFace_of_selects (args := #[]) (mvT hZ (wd_110 hw))) (wd_109 hw) (wd_111 hw) (wd_31 hw) (by decide) (hb hby at_227) 0 (by decide) (by decide) (by decide) (by decide) (by rw [hml]; rfl) b1 f132 [(.ref x17)] [] rfl (lenOf pd_1 rfl) rfl (Nat.le_of_eq rfl) (Ls := #[sl1, sl2, sl3, sl4, sl5, sl6, iv y7, iv y8, iv y9, iv y10, iv y11, iv y12, iv y13, rv x14, sl15, rv x16, rv x17, rv b1, uu, uu, uu])
    obtain ⟨b136_0, k136_0, rfl, M136, K136, zz136_0, O136_0, F136_0, F136_1, F136_2, F136_3, F136_4⟩ := Q136
    have N136 := Fr.app N4 M136
    refine Rch.go st136 ?_
    have g_b136_0 : n0 ≤ b136_0 := Nat.le_trans z134 zz136_0
    show Aw p e below _ T136 m 230 #[sl1, sl2, sl3, sl4, sl5, sl6, iv y7, iv y8, iv y9, iv y10, iv y11, iv y12, iv y13, rv x14, sl15, rv x16, rv x17, rv b1, uu, uu, uu] [(.int 1)]
    refine Rch.go (fun t k => XS.pop X136.here hx rfl (hb hby at_230) rfl rfl (XS.aload X136.here hx rfl (hb hby at_231) rfl rfl (XS.aload X136.here hx rfl (hb hby at_233) rfl rfl k))) ?_
    show Aw p e below _ T136 m 235 #[sl1, sl2, sl3, sl4, sl5, sl6, iv y7, iv y8, iv y9, iv y10, iv y11, iv y12, iv y13, rv x14, sl15, rv x16, rv x17, rv b1, uu, uu, uu] [(.ref x16), (.ref b1)]
    have f137 := (f132.keep K136)
    have f138 := (((P14.ext E1).keep K4).keep K136)
    have lt139 := (Nat.lt_of_lt_of_le A1.lt K4.1)
    have ne140 : b1 ≠ b136_0 := Nat.ne_of_lt (Nat.lt_of_lt_of_le lt139 zz136_0)
    have z141 := (Nat.le_trans z134 K136.1)
    have o142 := (o135.keep K136 (allS g_b1 all0))
    obtain ⟨v143, T143, L143, X143, Q143, st143⟩ := callVi X136 hx hZ (m58_add l Z a0 hw b1 x16 b136_0 k136_0 x17 T136.heap n0 z141 o142 F136_4 f137 g_b1 F136_0 F136_3 O136_0 F136_2 (Ne.symm ne140) f138 g_b136_0) rfl hown (wd_107 hw) (wd_108 hw) (wd_110 hw) (notFace_of_selects (args := #[]) (mvT hZ (wd_110 hw))) (wd_109 hw) (wd_111 hw) (wd_31 hw) (by decide) (hb hby at_235) 0 (by decide) (by decide) (by decide) (by decide) (by rw [hml]; rfl) b1 f137 [(.ref x16)] [] rfl (lenOf pd_1 rfl) rfl (Nat.le_of_eq rfl) (Ls := #[sl1, sl2, sl3, sl4, sl5, sl6, iv y7, iv y8, iv y9, iv y10, iv y11, iv y12, iv y13, rv x14, sl15, rv x16, rv x17, rv b1, uu, uu, uu])
    obtain ⟨rfl, M143, K143, F143_0, F143_1, F143_2, F143_3⟩ := Q143
    have N143 := Fr.app N136 M143
    refine Rch.go st143 ?_
    show Aw p e below _ T143 m 238 #[sl1, sl2, sl3, sl4, sl5, sl6, iv y7, iv y8, iv y9, iv y10, iv y11, iv y12, iv y13, rv x14, sl15, rv x16, rv x17, rv b1, uu, uu, uu] [(.int 1)]
    refine Rch.go (fun t k => XS.pop X143.here hx rfl (hb hby at_238) rfl rfl k) ?_
    show Aw p e below _ T143 m 239 #[sl1, sl2, sl3, sl4, sl5, sl6, iv y7, iv y8, iv y9, iv y10, iv y11, iv y12, iv y13, rv x14, sl15, rv x16, rv x17, rv b1, uu, uu, uu] []
    obtain ⟨T144, h144, X144, e144, E144, A144, D144, -, st144⟩ := newO X143 hx hZ hown (wd_0 hw) (wd_1 hw) (wd_2 hw) rfl (g := (mkF m 239 #[sl1, sl2, sl3, sl4, sl5, sl6, iv y7, iv y8, iv y9, iv y10, iv y11, iv y12, iv y13, rv x14, sl15, rv x16, rv x17, rv b1, uu, uu, uu] [])) rfl (hb hby at_239) (by decide) (by decide)
    obtain ⟨b144, g144⟩ : ∃ z, z = T143.heap.size := ⟨_, rfl⟩
    rw [← g144] at A144 D144 st144
    refine Rch.go st144 ?_
    have z145 := (Nat.le_trans z141 K143.1)
    have g_b144 : n0 ≤ b144 := Nat.le_trans z145 (Nat.le_of_eq g144.symm)
    have F144_value : Fld Z h144 b144 s2' "value" "Ljava/lang/String;" .null := (D144 (Or.inr (wd_104 hw)) (ty := (.object "java/lang/String")) (by decide))
    have F144_children : Fld Z h144 b144 s2' "children" "Ljava/util/List;" .null := (D144 (Or.inr (wd_106 hw)) (ty := (.object "java/util/List")) (by decide))
    show Aw p e below _ T144 m 242 #[sl1, sl2, sl3, sl4, sl5, sl6, iv y7, iv y8, iv y9, iv y10, iv y11, iv y12, iv y13, rv x14, sl15, rv x16, rv x17, rv b1, uu, uu, uu] [(.ref b144)]
    refine Rch.go (fun t k => XS.dup X144.here hx rfl (hb hby at_242) rfl rfl (XS.iload X144.here hx rfl (hb hby at_243) rfl  k)) ?_
    show Aw p e below _ T144 m 245 #[sl1, sl2, sl3, sl4, sl5, sl6, iv y7, iv y8, iv y9, iv y10, iv y11, iv y12, iv y13, rv x14, sl15, rv x16, rv x17, rv b1, uu, uu, uu] [(.int y7), (.ref b144), (.ref b144)]
    have z146 := (Nat.le_trans z145 E144.1)
    have o147 := ((o142.keep K143 (allS g_b1 (allS g_b136_0 all0))).ext E144)
    obtain ⟨v148, T148, L148, X148, Q148, st148⟩ := callSt X144 hx hZ (m18_valueOf l Z a0 hw y7 y19 h144 n0 z146 o147 P3 P4 P5) e144 hown (wd_3 hw) (wd_4 hw) (wd_6 hw) (wd_5 hw) (by decide) (hb hby at_245) 2 (by decide) (by decide) (by decide) (by decide) (by rw [hml]; rfl) [(.int y7)] [(.ref b144), (.ref b144)] rfl (lenOf pd_13 rfl) rfl (Nat.le_of_eq rfl) (Ls := #[sl1, sl2, sl3, sl4, sl5, sl6, iv y7, iv y8, iv y9, iv y10, iv y11, iv y12, iv y13, rv x14, sl15, rv x16, rv x17, rv b1, uu, uu, uu])
    obtain ⟨b148_0, b148_1, k148_0, rfl, M148, K148, zz148_0, zz148_1, F148_0, F148_1, F148_2, F148_3, F148_4⟩ := Q148
    have N148 := Fr.app N143 M148
    refine Rch.go st148 ?_
    have g_b148_0 : n0 ≤ b148_0 := Nat.le_trans z146 zz148_0
    have g_b148_1 : n0 ≤ b148_1 := Nat.le_trans z146 zz148_1
    show Aw p e below _ T148 m 248 #[sl1, sl2, sl3, sl4, sl5, sl6, iv y7, iv y8, iv y9, iv y10, iv y11, iv y12, iv y13, rv x14, sl15, rv x16, rv x17, rv b1, uu, uu, uu] [(.ref b148_0), (.ref b144), (.ref b144)]
    refine Rch.go (fun t k => XS.aload X148.here hx rfl (hb hby at_248) rfl rfl k) ?_
    show Aw p e below _ T148 m 250 #[sl1, sl2, sl3, sl4, sl5, sl6, iv y7, iv y8, iv y9, iv y10, iv y11, iv y12, iv y13, rv x14, sl15, rv x16, rv x17, rv b1, uu, uu, uu] [(.ref b1), (.ref b148_0), (.ref b144), (.ref b144)]
    have f149 := (((f137.keep K143).ext E144).keep K148)
    have f150 := ((F143_1.ext E144).keep K148 nin0)
    have f151 := (A144.keep K148)
    have f152 := (F144_value.keep K148 nin0)
    have f153 := (F144_children.keep K148 nin0)
    have f154 := ((F143_3.ext E144).keep K148 nin0)
    have f155 := (((F136_1.keep K143).ext E144).keep K148)
    have f156 := ((F143_0.ext E144).keep K148 nin0)
    have f157 := ((((f133.keep K136).keep K143).ext E144).keep K148)
    have f158 := (((f138.keep K143).ext E144).keep K148)
    have z159 := (Nat.le_trans z146 K148.1)
    have o160 := (o147.keep K148 all0)
    obtain ⟨v161, T161, L161, X161, Q161, Y161, hZ161, hown161, st161⟩ := callSpW X148 hx hZ Y0 (Nat.le_trans (Nat.le_trans (Nat.le_trans (Nat.le_trans (Nat.le_trans (Nat.le_trans (Nat.le_refl _) E1.1) K4.1) K136.1) K143.1) E144.1) K148.1) (m60_init l Z a0 hw b144 b148_0 b1 b148_1 k148_0 (nar .byte (y7.toInt8.toInt32)) x20 b136_0 x24 k136_0 x17 x16 x21 T148.heap n0 z159 o160 F148_0 F148_3 F148_2 f149 f150 P6 f154 f155 P15 O136_0 f156 f157 P16 f158 f151 f152 g_b144 f153) rfl hown rfl (wd_53 hw) (wd_54 hw) (wd_55 hw) (wd_2 hw) (by decide) (hb hby at_250) 1 (by decide) (by decide) (by decide) (by decide) (by rw [hml]; rfl) b144 [(.ref b148_0), (.ref b1)] [(.ref b144)] rfl (lenOf pd_18 rfl) rfl (Nat.le_of_eq rfl) (Ls := #[sl1, sl2, sl3, sl4, sl5, sl6, iv y7, iv y8, iv y9, iv y10, iv y11, iv y12, iv y13, rv x14, sl15, rv x16, rv x17, rv b1, uu, uu, uu])
    obtain ⟨b161_0, rfl, M161, K161, zz161_0, F161_0, F161_1, F161_2, F161_3, F161_4⟩ := Q161
    have N161 := Fr.app N148 M161
    refine Rch.go st161 ?_
    have g_b161_0 : n0 ≤ b161_0 := Nat.le_trans z159 zz161_0
    show Aw p e below _ T161 m 253 #[sl1, sl2, sl3, sl4, sl5, sl6, iv y7, iv y8, iv y9, iv y10, iv y11, iv y12, iv y13, rv x14, sl15, rv x16, rv x17, rv b1, uu, uu, uu] [(.ref b144)]
    refine Rch.go (fun t k => XS.astore X161.here hx rfl (hb hby at_253) rfl rfl (l' := #[sl1, sl2, sl3, sl4, sl5, sl6, iv y7, iv y8, iv y9, iv y10, iv y11, iv y12, iv y13, rv x14, sl15, rv x16, rv x17, rv b1, rv b144, uu, uu]) rfl k) ?_
    show Aw p e below _ T161 m 255 #[sl1, sl2, sl3, sl4, sl5, sl6, iv y7, iv y8, iv y9, iv y10, iv y11, iv y12, iv y13, rv x14, sl15, rv x16, rv x17, rv b1, rv b144, uu, uu] []
    have f162 := (f151.keep K161)
    have f163 := (F148_0.keep K161)
    have lt164 := A144.lt
    have ne165 : b144 ≠ b148_0 := Nat.ne_of_lt (Nat.lt_of_lt_of_le lt164 zz148_0)
    have f166 := (F148_3.keep K161 (ninS (Ne.symm ne165) nin0))
    have f167 := (F148_4.keep K161 (ninS (Ne.symm ne165) nin0))
    have ne168 : b144 ≠ b148_1 := Nat.ne_of_lt (Nat.lt_of_lt_of_le lt164 zz148_1)
    have f169 := (F148_2.keep K161 (ninS (Ne.symm ne168) nin0))
    have z170 := (Nat.le_trans z159 K161.1)
    have o171 := (o160.keep K161 (allS g_b144 all0))
    exact pe_36 l Z a0 hw sl1 sl2 sl3 sl4 sl5 sl6 y7 y8 y9 y10 y11 y12 y13 x14 sl15 x16 x17 (rv b1) b144 x20 x21 x22 y19 T161.heap n0 z170 o171 P7 (show Rt Z T161.heap b144 x16 x17 x20 x21 y13 y7 from (Or.inr (Or.inr (Or.inr (Or.inr ⟨hk, ⟨⟨b148_0, f162, F161_3, ⟨b148_1, k148_0, f163, f166, f167, f169, P8⟩⟩, P19, b161_0, F161_4, F161_0, F161_1, F161_2⟩⟩))))) P3 P4 P11 P12 P2 (P9.keep ((((((((Keep.refl _ _).ext E1).trans K4 (allS (Or.inr (Nat.le_trans (Nat.le_refl _) (Nat.le_of_eq g1.symm))) all0)).trans K136 (allS (Or.inr (Nat.le_trans (Nat.le_refl _) (Nat.le_of_eq g1.symm))) all0)).trans K143 (allS (Or.inr (Nat.le_trans (Nat.le_refl _) (Nat.le_of_eq g1.symm))) (allS (Or.inr (Nat.le_trans (Nat.le_trans (Nat.le_trans (Nat.le_refl _) E1.1) K4.1) zz136_0)) all0))).ext E144).trans K148 all0).trans K161 (allS (Or.inr (Nat.le_trans (Nat.le_trans (Nat.le_trans (Nat.le_trans (Nat.le_trans (Nat.le_refl _) E1.1) K4.1) K136.1) K143.1) (Nat.le_of_eq g144.symm))) all0))) (P10.keep ((((((((Keep.refl _ _).ext E1).trans K4 (allS (Or.inr (Nat.le_trans (Nat.le_refl _) (Nat.le_of_eq g1.symm))) all0)).trans K136 (allS (Or.inr (Nat.le_trans (Nat.le_refl _) (Nat.le_of_eq g1.symm))) all0)).trans K143 (allS (Or.inr (Nat.le_trans (Nat.le_refl _) (Nat.le_of_eq g1.symm))) (allS (Or.inr (Nat.le_trans (Nat.le_trans (Nat.le_trans (Nat.le_refl _) E1.1) K4.1) zz136_0)) all0))).ext E144).trans K148 all0).trans K161 (allS (Or.inr (Nat.le_trans (Nat.le_trans (Nat.le_trans (Nat.le_trans (Nat.le_trans (Nat.le_refl _) E1.1) K4.1) K136.1) K143.1) (Nat.le_of_eq g144.symm))) all0))) p e s _ m below meth c T161 _ _ hx hZ161 hby hml hown161 hnm hret hlk ⟨Y161.1, Y161.2.mono (Nat.le_refl _)⟩ (X161.mono (by decide) (by decide)) rfl N161
theorem pc_34 (l : Launch) (Z : State) (a0 : Array Value) (hw : HW Z a0) (sl1 sl2 sl3 sl4 sl5 sl6 : Slot) (y7 y8 y9 y10 y11 y12 y13 : Int32) (x14 : Addr) (sl15 : Slot) (x16 : Addr) (y17 : Int32) (x18 x19 x20 x21 : Addr) (kk22 : ClassId) (x23 : Addr) (h0 : Heap) (n0 : Nat) (Z0 : n0 ≤ h0.size) (O0 : Old Z n0 h0) (P1 : Sta Z Z.heap "java/lang/String" "COMPACT_STRINGS" "Z" (.int y17)) (P2 : ¬ (y17 = (0 : Int32))) (P3 : ¬ ((255 : Int32) < y10)) (P4 : Sta Z Z.heap s1' "DEFAULTCAPACITY_EMPTY_ELEMENTDATA" s4' (.ref x18)) (P5 : Sta Z Z.heap s5' "EMPTY_LIST" s10' (.ref x19)) (P6 : Oz Z x19 x20 x21) (P7 : Ch1 Z h0 x16 x14 x19 x20 y12 y8 y9) (P8 : Ltr y10) (P9 : Md y13) (P10 : ¬ ((255 : Int32) < y7)) (P11 : Ltr y7) (P12 : ¬ ((255 : Int32) < y11)) (P13 : Ltr y11) (P14 : Arv Z Z.heap x18 kk22 (.object "java/lang/Object") (0 : Int32) [] .null) (P15 : Exa Z h0 x16 s2') (P16 : MirA Z s4' x23) (P17 : Sta Z Z.heap s5' "EMPTY" "Ljava/lang/Object;" (.ref x20)) (P18 : Exa Z Z.heap x20 "java/lang/Object") (P19 : x16 ≠ x20) (p : Program) (e : Env) (s : State) (vm0 : Vm) (m : MethodId) (below : List Frame) (meth : Method) (c : Code) (T0 : State) (args : Array Value) (locs : List Loc) (hx : p.tables.exec = Jvm.exec) (hZ : Z.Warmed39 vm0) (hby : c.code = code) (hml : c.maxLocals = 21) (hown : vm0.findClass s7' = some m.cls) (hnm : meth.name = "law") (hret : meth.sig.returnType = some .boolean) (hlk : meth.locks = false) (Y0 : s.Since vm0 h0.size) (X0 : Stand p l e room_1 (s.setVm vm0) m args below meth c T0 locs 20 120) (e0 : T0.heap = h0) (N0 : Fr n0 locs) :
    Rch p e below (LeavesW s room_1.cells room_1.slots (fun v h L => v = some (.int 1) ∧ Fr n0 L)) (T0.setTop (mkF m 128 #[sl1, sl2, sl3, sl4, sl5, sl6, iv y7, iv y8, iv y9, iv y10, iv y11, iv y12, iv y13, rv x14, sl15, rv x16, uu, uu, uu, uu, uu] [])) := by
  show Aw p e below _ T0 m 128 #[sl1, sl2, sl3, sl4, sl5, sl6, iv y7, iv y8, iv y9, iv y10, iv y11, iv y12, iv y13, rv x14, sl15, rv x16, uu, uu, uu, uu, uu] []
  obtain ⟨T1, h1, X1, e1, E1, A1, D1, -, st1⟩ := newO X0 hx hZ hown (wd_0 hw) (wd_1 hw) (wd_2 hw) e0 (g := (mkF m 128 #[sl1, sl2, sl3, sl4, sl5, sl6, iv y7, iv y8, iv y9, iv y10, iv y11, iv y12, iv y13, rv x14, sl15, rv x16, uu, uu, uu, uu, uu] [])) rfl (hb hby at_128) (by decide) (by decide)
  obtain ⟨b1, g1⟩ : ∃ z, z = h0.size := ⟨_, rfl⟩
  rw [← g1] at A1 D1 st1
  refine Rch.go st1 ?_
  have g_b1 : n0 ≤ b1 := Nat.le_trans Z0 (Nat.le_of_eq g1.symm)
  have F1_value : Fld Z h1 b1 s2' "value" "Ljava/lang/String;" .null := (D1 (Or.inr (wd_104 hw)) (ty := (.object "java/lang/String")) (by decide))
  have F1_children : Fld Z h1 b1 s2' "children" "Ljava/util/List;" .null := (D1 (Or.inr (wd_106 hw)) (ty := (.object "java/util/List")) (by decide))
  show Aw p e below _ T1 m 131 #[sl1, sl2, sl3, sl4, sl5, sl6, iv y7, iv y8, iv y9, iv y10, iv y11, iv y12, iv y13, rv x14, sl15, rv x16, uu, uu, uu, uu, uu] [(.ref b1)]
  refine Rch.go (fun t k => XS.dup X1.here hx rfl (hb hby at_131) rfl rfl (XS.iload X1.here hx rfl (hb hby at_132) rfl  k)) ?_
  show Aw p e below _ T1 m 134 #[sl1, sl2, sl3, sl4, sl5, sl6, iv y7, iv y8, iv y9, iv y10, iv y11, iv y12, iv y13, rv x14, sl15, rv x16, uu, uu, uu, uu, uu] [(.int y10), (.ref b1), (.ref b1)]
  have z2 := (Nat.le_trans Z0 E1.1)
  have o3 := (O0.ext E1)
  obtain ⟨v4, T4, L4, X4, Q4, st4⟩ := callSt X1 hx hZ (m18_valueOf l Z a0 hw y10 y17 h1 n0 z2 o3 P1 P2 P3) e1 hown (wd_3 hw) (wd_4 hw) (wd_6 hw) (wd_5 hw) (by decide) (hb hby at_134) 2 (by decide) (by decide) (by decide) (by decide) (by rw [hml]; rfl) [(.int y10)] [(.ref b1), (.ref b1)] rfl (lenOf pd_13 rfl) rfl (Nat.le_of_eq rfl) (Ls := #[sl1, sl2, sl3, sl4, sl5, sl6, iv y7, iv y8, iv y9, iv y10, iv y11, iv y12, iv y13, rv x14, sl15, rv x16, uu, uu, uu, uu, uu])
  obtain ⟨b4_0, b4_1, k4_0, rfl, M4, K4, zz4_0, zz4_1, F4_0, F4_1, F4_2, F4_3, F4_4⟩ := Q4
  have N4 := Fr.app N0 M4
  refine Rch.go st4 ?_
  have g_b4_0 : n0 ≤ b4_0 := Nat.le_trans z2 zz4_0
  have g_b4_1 : n0 ≤ b4_1 := Nat.le_trans z2 zz4_1
  show Aw p e below _ T4 m 137 #[sl1, sl2, sl3, sl4, sl5, sl6, iv y7, iv y8, iv y9, iv y10, iv y11, iv y12, iv y13, rv x14, sl15, rv x16, uu, uu, uu, uu, uu] [(.ref b4_0), (.ref b1), (.ref b1)]
  obtain ⟨T5, h5, X5, e5, E5, A5, D5, -, st5⟩ := newO X4 hx hZ hown (wd_29 hw) (wd_30 hw) (wd_31 hw) rfl (g := (mkF m 137 #[sl1, sl2, sl3, sl4, sl5, sl6, iv y7, iv y8, iv y9, iv y10, iv y11, iv y12, iv y13, rv x14, sl15, rv x16, uu, uu, uu, uu, uu] [(.ref b4_0), (.ref b1), (.ref b1)])) rfl (hb hby at_137) (by decide) (by decide)
  obtain ⟨b5, g5⟩ : ∃ z, z = T4.heap.size := ⟨_, rfl⟩
  rw [← g5] at A5 D5 st5
  refine Rch.go st5 ?_
  have z6 := (Nat.le_trans z2 K4.1)
  have g_b5 : n0 ≤ b5 := Nat.le_trans z6 (Nat.le_of_eq g5.symm)
  have F5_modCount : Fld Z h5 b5 s6' "modCount" "I" (.int 0) := (D5 (Or.inl (wd_49 hw)) (ty := .int) (by decide))
  have F5_elementData : Fld Z h5 b5 s1' "elementData" s4' .null := (D5 (Or.inl (wd_52 hw)) (ty := (.array (.object "java/lang/Object"))) (by decide))
  have F5_size : Fld Z h5 b5 s1' "size" "I" (.int 0) := (D5 (Or.inl (wd_98 hw)) (ty := .int) (by decide))
  show Aw p e below _ T5 m 140 #[sl1, sl2, sl3, sl4, sl5, sl6, iv y7, iv y8, iv y9, iv y10, iv y11, iv y12, iv y13, rv x14, sl15, rv x16, uu, uu, uu, uu, uu] [(.ref b5), (.ref b4_0), (.ref b1), (.ref b1)]
  refine Rch.go (fun t k => XS.dup X5.here hx rfl (hb hby at_140) rfl rfl k) ?_
  show Aw p e below _ T5 m 141 #[sl1, sl2, sl3, sl4, sl5, sl6, iv y7, iv y8, iv y9, iv y10, iv y11, iv y12, iv y13, rv x14, sl15, rv x16, uu, uu, uu, uu, uu] [(.ref b5), (.ref b5), (.ref b4_0), (.ref b1), (.ref b1)]
  have z7 := (Nat.le_trans z6 E5.1)
  have o8 := ((o3.keep K4 all0).ext E5)
  obtain ⟨v9, T9, L9, X9, Q9, st9⟩ := callSp X5 hx hZ (m22_init l Z a0 hw b5 x18 h5 n0 z7 o8 A5 F5_modCount g_b5 F5_elementData F5_size P4) e5 hown rfl (wd_32 hw) (wd_33 hw) (wd_34 hw) (wd_31 hw) (by decide) (hb hby at_141) 4 (by decide) (by decide) (by decide) (by decide) (by rw [hml]; rfl) b5 [] [(.ref b5), (.ref b4_0), (.ref b1), (.ref b1)] rfl (lenOf pd_14 rfl) rfl (Nat.le_of_eq rfl) (Ls := #[sl1, sl2, sl3, sl4, sl5, sl6, iv y7, iv y8, iv y9, iv y10, iv y11, iv y12, iv y13, rv x14, sl15, rv x16, uu, uu, uu, uu, uu])
  obtain ⟨rfl, M9, K9, F9_0, F9_1, F9_2⟩ := Q9
  have N9 := Fr.app N4 M9
  refine Rch.go st9 ?_
  show Aw p e below _ T9 m 144 #[sl1, sl2, sl3, sl4, sl5, sl6, iv y7, iv y8, iv y9, iv y10, iv y11, iv y12, iv y13, rv x14, sl15, rv x16, uu, uu, uu, uu, uu] [(.ref b5), (.ref b4_0), (.ref b1), (.ref b1)]
  have f10 := ((F4_0.ext E5).keep K9)
  have lt11 := F4_0.lt
  have ne12 : b4_0 ≠ b5 := Nat.ne_of_lt (Nat.lt_of_lt_of_le lt11 (Nat.le_of_eq g5.symm))
  have f13 := ((F4_3.ext E5).keep K9 (ninS ne12 nin0))
  have lt14 := F4_1.lt
  have ne15 : b4_1 ≠ b5 := Nat.ne_of_lt (Nat.lt_of_lt_of_le lt14 (Nat.le_of_eq g5.symm))
  have f16 := ((F4_2.ext E5).keep K9 (ninS ne15 nin0))
  have f17 := (A5.keep K9)
  have f18 := (((A1.keep K4).ext E5).keep K9)
  have lt19 := (Nat.lt_of_lt_of_le A1.lt K4.1)
  have ne20 : b1 ≠ b5 := Nat.ne_of_lt (Nat.lt_of_lt_of_le lt19 (Nat.le_of_eq g5.symm))
  have f21 := (((F1_value.keep K4 nin0).ext E5).keep K9 (ninS ne20 nin0))
  have f22 := (((F1_children.keep K4 nin0).ext E5).keep K9 (ninS ne20 nin0))
  have z23 := (Nat.le_trans z7 K9.1)
  have o24 := (o8.keep K9 (allS g_b5 all0))
  obtain ⟨v25, T25, L25, X25, Q25, Y25, hZ25, hown25, st25⟩ := callSpW X9 hx hZ Y0 (Nat.le_trans (Nat.le_trans (Nat.le_trans (Nat.le_trans (Nat.le_refl _) E1.1) K4.1) E5.1) K9.1) (m25_init l Z a0 hw b1 b4_0 b5 b4_1 k4_0 (nar .byte (y10.toInt8.toInt32)) x19 T9.heap n0 z23 o24 f10 f13 f16 f17 F9_2 P5 f18 f21 g_b1 f22) rfl hown rfl (wd_53 hw) (wd_54 hw) (wd_55 hw) (wd_2 hw) (by decide) (hb hby at_144) 1 (by decide) (by decide) (by decide) (by decide) (by rw [hml]; rfl) b1 [(.ref b4_0), (.ref b5)] [(.ref b1)] rfl (lenOf pd_18 rfl) rfl (Nat.le_of_eq rfl) (Ls := #[sl1, sl2, sl3, sl4, sl5, sl6, iv y7, iv y8, iv y9, iv y10, iv y11, iv y12, iv y13, rv x14, sl15, rv x16, uu, uu, uu, uu, uu])
  obtain ⟨rfl, M25, K25, F25_0, F25_1⟩ := Q25
  have N25 := Fr.app N9 M25
  refine Rch.go st25 ?_
  show Aw p e below _ T25 m 147 #[sl1, sl2, sl3, sl4, sl5, sl6, iv y7, iv y8, iv y9, iv y10, iv y11, iv y12, iv y13, rv x14, sl15, rv x16, uu, uu, uu, uu, uu] [(.ref b1)]
  refine Rch.go (fun t k => XS.astore X25.here hx rfl (hb hby at_147) rfl rfl (l' := #[sl1, sl2, sl3, sl4, sl5, sl6, iv y7, iv y8, iv y9, iv y10, iv y11, iv y12, iv y13, rv x14, sl15, rv x16, rv b1, uu, uu, uu, uu]) rfl k) ?_
  show Aw p e below _ T25 m 149 #[sl1, sl2, sl3, sl4, sl5, sl6, iv y7, iv y8, iv y9, iv y10, iv y11, iv y12, iv y13, rv x14, sl15, rv x16, rv b1, uu, uu, uu, uu] []
  have f26 := (f18.keep K25)
  have f27 := (f10.keep K25)
  have lt28 := A1.lt
  have ne29 : b1 ≠ b4_0 := Nat.ne_of_lt (Nat.lt_of_lt_of_le lt28 zz4_0)
  have f30 := (f13.keep K25 (ninS (Ne.symm ne29) nin0))
  have f31 := (((F4_4.ext E5).keep K9 (ninS ne12 nin0)).keep K25 (ninS (Ne.symm ne29) nin0))
  have ne32 : b1 ≠ b4_1 := Nat.ne_of_lt (Nat.lt_of_lt_of_le lt28 zz4_1)
  have f33 := (f16.keep K25 (ninS (Ne.symm ne32) nin0))
  have f34 := (((((P15.ext E1).keep K4).ext E5).keep K9).keep K25)
  have lt35 := (P18.ext O0.2).lt
  have ne36 : x20 ≠ b1 := Nat.ne_of_lt (Nat.lt_of_lt_of_le lt35 (Nat.le_of_eq g1.symm))
  have z37 := (Nat.le_trans z23 K25.1)
  have o38 := (o24.keep K25 (allS g_b1 all0))
  exact pd_35 l Z a0 hw sl1 sl2 sl3 sl4 sl5 sl6 y7 y8 y9 y10 y11 y12 y13 x14 sl15 x16 b1 x18 y17 x19 x20 x21 kk22 x23 T25.heap n0 z37 o38 P4 P9 P1 P2 P10 P5 P6 P11 (P7.keep ((((((Keep.refl _ _).ext E1).trans K4 all0).ext E5).trans K9 (allS (Or.inr (Nat.le_trans (Nat.le_trans (Nat.le_trans (Nat.le_refl _) E1.1) K4.1) (Nat.le_of_eq g5.symm))) all0)).trans K25 (allS (Or.inr (Nat.le_trans (Nat.le_refl _) (Nat.le_of_eq g1.symm))) all0))) (show Tn0 Z T25.heap b1 x19 y10 from ⟨⟨b4_0, f26, F25_0, ⟨b4_1, k4_0, f27, f30, f31, f33, P8⟩⟩, F25_1⟩) P12 P13 P14 f34 P16 P17 f26 (Ne.symm ne36) P19 p e s _ m below meth c T25 _ _ hx hZ25 hby hml hown25 hnm hret hlk ⟨Y25.1, Y25.2.mono (Nat.le_refl _)⟩ (X25.mono (by decide) (by decide)) rfl N25
theorem pb_33 (l : Launch) (Z : State) (a0 : Array Value) (hw : HW Z a0) (sl1 sl2 sl3 sl4 sl5 sl6 : Slot) (y7 y8 y9 y10 y11 y12 y13 : Int32) (x14 x15 : Addr) (y16 : Int32) (x17 x18 x19 : Addr) (kk20 : ClassId) (x21 : Addr) (h0 : Heap) (n0 : Nat) (Z0 : n0 ≤ h0.size) (O0 : Old Z n0 h0) (P1 : Sta Z Z.heap s1' "DEFAULTCAPACITY_EMPTY_ELEMENTDATA" s4' (.ref x15)) (P2 : Sta Z Z.heap "java/lang/String" "COMPACT_STRINGS" "Z" (.int y16)) (P3 : ¬ (y16 = (0 : Int32))) (P4 : ¬ ((255 : Int32) < y8)) (P5 : Sta Z Z.heap s5' "EMPTY_LIST" s10' (.ref x17)) (P6 : Oz Z x17 x18 x19) (P7 : Ltr y8) (P8 : ¬ ((255 : Int32) < y10)) (P9 : Ltr y10) (P10 : Md y13) (P11 : ¬ ((255 : Int32) < y7)) (P12 : Ltr y7) (P13 : ¬ ((255 : Int32) < y11)) (P14 : Ltr y11) (P15 : Arv Z Z.heap x15 kk20 (.object "java/lang/Object") (0 : Int32) [] .null) (P16 : MirA Z s4' x21) (P17 : Sta Z Z.heap s5' "EMPTY" "Ljava/lang/Object;" (.ref x18)) (P18 : Exa Z Z.heap x18 "java/lang/Object") (P19 : Exa Z h0 x14 s2') (P20 : Tn0 Z h0 x14 x17 y9) (p : Program) (e : Env) (s : State) (vm0 : Vm) (m : MethodId) (below : List Frame) (meth : Method) (c : Code) (T0 : State) (args : Array Value) (locs : List Loc) (hx : p.tables.exec = Jvm.exec) (hZ : Z.Warmed39 vm0) (hby : c.code = code) (hml : c.maxLocals = 21) (hown : vm0.findClass s7' = some m.cls) (hnm : meth.name = "law") (hret : meth.sig.returnType = some .boolean) (hlk : meth.locks = false) (Y0 : s.Since vm0 h0.size) (X0 : Stand p l e room_1 (s.setVm vm0) m args below meth c T0 locs 10 60) (e0 : T0.heap = h0) (N0 : Fr n0 locs) :
    Rch p e below (LeavesW s room_1.cells room_1.slots (fun v h L => v = some (.int 1) ∧ Fr n0 L)) (T0.setTop (mkF m 90 #[sl1, sl2, sl3, sl4, sl5, sl6, iv y7, iv y8, iv y9, iv y10, iv y11, iv y12, iv y13, rv x14, uu, uu, uu, uu, uu, uu, uu] [])) := by
  show Aw p e below _ T0 m 90 #[sl1, sl2, sl3, sl4, sl5, sl6, iv y7, iv y8, iv y9, iv y10, iv y11, iv y12, iv y13, rv x14, uu, uu, uu, uu, uu, uu, uu] []
  obtain ⟨T1, h1, X1, e1, E1, A1, D1, -, st1⟩ := newO X0 hx hZ hown (wd_29 hw) (wd_30 hw) (wd_31 hw) e0 (g := (mkF m 90 #[sl1, sl2, sl3, sl4, sl5, sl6, iv y7, iv y8, iv y9, iv y10, iv y11, iv y12, iv y13, rv x14, uu, uu, uu, uu, uu, uu, uu] [])) rfl (hb hby at_90) (by decide) (by decide)
  obtain ⟨b1, g1⟩ : ∃ z, z = h0.size := ⟨_, rfl⟩
  rw [← g1] at A1 D1 st1
  refine Rch.go st1 ?_
  have g_b1 : n0 ≤ b1 := Nat.le_trans Z0 (Nat.le_of_eq g1.symm)
  have F1_modCount : Fld Z h1 b1 s6' "modCount" "I" (.int 0) := (D1 (Or.inl (wd_49 hw)) (ty := .int) (by decide))
  have F1_elementData : Fld Z h1 b1 s1' "elementData" s4' .null := (D1 (Or.inl (wd_52 hw)) (ty := (.array (.object "java/lang/Object"))) (by decide))
  have F1_size : Fld Z h1 b1 s1' "size" "I" (.int 0) := (D1 (Or.inl (wd_98 hw)) (ty := .int) (by decide))
  show Aw p e below _ T1 m 93 #[sl1, sl2, sl3, sl4, sl5, sl6, iv y7, iv y8, iv y9, iv y10, iv y11, iv y12, iv y13, rv x14, uu, uu, uu, uu, uu, uu, uu] [(.ref b1)]
  refine Rch.go (fun t k => XS.dup X1.here hx rfl (hb hby at_93) rfl rfl k) ?_
  show Aw p e below _ T1 m 94 #[sl1, sl2, sl3, sl4, sl5, sl6, iv y7, iv y8, iv y9, iv y10, iv y11, iv y12, iv y13, rv x14, uu, uu, uu, uu, uu, uu, uu] [(.ref b1), (.ref b1)]
  have z2 := (Nat.le_trans Z0 E1.1)
  have o3 := (O0.ext E1)
  obtain ⟨v4, T4, L4, X4, Q4, st4⟩ := callSp X1 hx hZ (m22_init l Z a0 hw b1 x15 h1 n0 z2 o3 A1 F1_modCount g_b1 F1_elementData F1_size P1) e1 hown rfl (wd_32 hw) (wd_33 hw) (wd_34 hw) (wd_31 hw) (by decide) (hb hby at_94) 1 (by decide) (by decide) (by decide) (by decide) (by rw [hml]; rfl) b1 [] [(.ref b1)] rfl (lenOf pd_14 rfl) rfl (Nat.le_of_eq rfl) (Ls := #[sl1, sl2, sl3, sl4, sl5, sl6, iv y7, iv y8, iv y9, iv y10, iv y11, iv y12, iv y13, rv x14, uu, uu, uu, uu, uu, uu, uu])
  obtain ⟨rfl, M4, K4, F4_0, F4_1, F4_2⟩ := Q4
  have N4 := Fr.app N0 M4
  refine Rch.go st4 ?_
  show Aw p e below _ T4 m 97 #[sl1, sl2, sl3, sl4, sl5, sl6, iv y7, iv y8, iv y9, iv y10, iv y11, iv y12, iv y13, rv x14, uu, uu, uu, uu, uu, uu, uu] [(.ref b1)]
  refine Rch.go (fun t k => XS.astore X4.here hx rfl (hb hby at_97) rfl rfl (l' := #[sl1, sl2, sl3, sl4, sl5, sl6, iv y7, iv y8, iv y9, iv y10, iv y11, iv y12, iv y13, rv x14, rv b1, uu, uu, uu, uu, uu, uu]) rfl (XS.iload X4.here hx rfl (hb hby at_99) rfl  k)) ?_
  show Aw p e below _ T4 m 101 #[sl1, sl2, sl3, sl4, sl5, sl6, iv y7, iv y8, iv y9, iv y10, iv y11, iv y12, iv y13, rv x14, rv b1, uu, uu, uu, uu, uu, uu] [(.int y12)]
  by_cases hf101 : y12 = (0 : Int32)
  · show Aw p e below _ T4 m 101 #[sl1, sl2, sl3, sl4, sl5, sl6, iv y7, iv y8, iv y9, iv y10, iv y11, iv y12, iv y13, rv x14, rv b1, uu, uu, uu, uu, uu, uu] [(.int y12)]
    refine Rch.go (fun t k => XS.ifYes X4.here hx rfl (pc0 := 101) (pc' := 112) rfl (hb hby at_101) rfl (XT.i0_eq_t hf101) (by decide) (by decide) k) ?_
    show Aw p e below _ T4 m 112 #[sl1, sl2, sl3, sl4, sl5, sl6, iv y7, iv y8, iv y9, iv y10, iv y11, iv y12, iv y13, rv x14, rv b1, uu, uu, uu, uu, uu, uu] []
    obtain ⟨T5, h5, X5, e5, E5, A5, D5, -, st5⟩ := newO X4 hx hZ hown (wd_0 hw) (wd_1 hw) (wd_2 hw) rfl (g := (mkF m 112 #[sl1, sl2, sl3, sl4, sl5, sl6, iv y7, iv y8, iv y9, iv y10, iv y11, iv y12, iv y13, rv x14, rv b1, uu, uu, uu, uu, uu, uu] [])) rfl (hb hby at_112) (by decide) (by decide)
    obtain ⟨b5, g5⟩ : ∃ z, z = T4.heap.size := ⟨_, rfl⟩
    rw [← g5] at A5 D5 st5
    refine Rch.go st5 ?_
    have z6 := (Nat.le_trans z2 K4.1)
    have g_b5 : n0 ≤ b5 := Nat.le_trans z6 (Nat.le_of_eq g5.symm)
    have F5_value : Fld Z h5 b5 s2' "value" "Ljava/lang/String;" .null := (D5 (Or.inr (wd_104 hw)) (ty := (.object "java/lang/String")) (by decide))
    have F5_children : Fld Z h5 b5 s2' "children" "Ljava/util/List;" .null := (D5 (Or.inr (wd_106 hw)) (ty := (.object "java/util/List")) (by decide))
    show Aw p e below _ T5 m 115 #[sl1, sl2, sl3, sl4, sl5, sl6, iv y7, iv y8, iv y9, iv y10, iv y11, iv y12, iv y13, rv x14, rv b1, uu, uu, uu, uu, uu, uu] [(.ref b5)]
    refine Rch.go (fun t k => XS.dup X5.here hx rfl (hb hby at_115) rfl rfl (XS.iload X5.here hx rfl (hb hby at_116) rfl  k)) ?_
    show Aw p e below _ T5 m 118 #[sl1, sl2, sl3, sl4, sl5, sl6, iv y7, iv y8, iv y9, iv y10, iv y11, iv y12, iv y13, rv x14, rv b1, uu, uu, uu, uu, uu, uu] [(.int y8), (.ref b5), (.ref b5)]
    have z7 := (Nat.le_trans z6 E5.1)
    have o8 := ((o3.keep K4 (allS g_b1 all0)).ext E5)
    obtain ⟨v9, T9, L9, X9, Q9, st9⟩ := callSt X5 hx hZ (m18_valueOf l Z a0 hw y8 y16 h5 n0 z7 o8 P2 P3 P4) e5 hown (wd_3 hw) (wd_4 hw) (wd_6 hw) (wd_5 hw) (by decide) (hb hby at_118) 2 (by decide) (by decide) (by decide) (by decide) (by rw [hml]; rfl) [(.int y8)] [(.ref b5), (.ref b5)] rfl (lenOf pd_13 rfl) rfl (Nat.le_of_eq rfl) (Ls := #[sl1, sl2, sl3, sl4, sl5, sl6, iv y7, iv y8, iv y9, iv y10, iv y11, iv y12, iv y13, rv x14, rv b1, uu, uu, uu, uu, uu, uu])
    obtain ⟨b9_0, b9_1, k9_0, rfl, M9, K9, zz9_0, zz9_1, F9_0, F9_1, F9_2, F9_3, F9_4⟩ := Q9
    have N9 := Fr.app N4 M9
    refine Rch.go st9 ?_
    have g_b9_0 : n0 ≤ b9_0 := Nat.le_trans z7 zz9_0
    have g_b9_1 : n0 ≤ b9_1 := Nat.le_trans z7 zz9_1
    show Aw p e below _ T9 m 121 #[sl1, sl2, sl3, sl4, sl5, sl6, iv y7, iv y8, iv y9, iv y10, iv y11, iv y12, iv y13, rv x14, rv b1, uu, uu, uu, uu, uu, uu] [(.ref b9_0), (.ref b5), (.ref b5)]
    refine Rch.go (fun t k => XS.aload X9.here hx rfl (hb hby at_121) rfl rfl k) ?_
    show Aw p e below _ T9 m 123 #[sl1, sl2, sl3, sl4, sl5, sl6, iv y7, iv y8, iv y9, iv y10, iv y11, iv y12, iv y13, rv x14, rv b1, uu, uu, uu, uu, uu, uu] [(.ref b1), (.ref b9_0), (.ref b5), (.ref b5)]
    have f10 := (((A1.keep K4).ext E5).keep K9)
    have f11 := ((F4_2.ext E5).keep K9 nin0)
    have f12 := (A5.keep K9)
    have f13 := (F5_value.keep K9 nin0)
    have f14 := (F5_children.keep K9 nin0)
    have z15 := (Nat.le_trans z7 K9.1)
    have o16 := (o8.keep K9 all0)
    obtain ⟨v17, T17, L17, X17, Q17, Y17, hZ17, hown17, st17⟩ := callSpW X9 hx hZ Y0 (Nat.le_trans (Nat.le_trans (Nat.le_trans (Nat.le_trans (Nat.le_refl _) E1.1) K4.1) E5.1) K9.1) (m25_init l Z a0 hw b5 b9_0 b1 b9_1 k9_0 (nar .byte (y8.toInt8.toInt32)) x17 T9.heap n0 z15 o16 F9_0 F9_3 F9_2 f10 f11 P5 f12 f13 g_b5 f14) rfl hown rfl (wd_53 hw) (wd_54 hw) (wd_55 hw) (wd_2 hw) (by decide) (hb hby at_123) 1 (by decide) (by decide) (by decide) (by decide) (by rw [hml]; rfl) b5 [(.ref b9_0), (.ref b1)] [(.ref b5)] rfl (lenOf pd_18 rfl) rfl (Nat.le_of_eq rfl) (Ls := #[sl1, sl2, sl3, sl4, sl5, sl6, iv y7, iv y8, iv y9, iv y10, iv y11, iv y12, iv y13, rv x14, rv b1, uu, uu, uu, uu, uu, uu])
    obtain ⟨rfl, M17, K17, F17_0, F17_1⟩ := Q17
    have N17 := Fr.app N9 M17
    refine Rch.go st17 ?_
    show Aw p e below _ T17 m 126 #[sl1, sl2, sl3, sl4, sl5, sl6, iv y7, iv y8, iv y9, iv y10, iv y11, iv y12, iv y13, rv x14, rv b1, uu, uu, uu, uu, uu, uu] [(.ref b5)]
    refine Rch.go (fun t k => XS.astore X17.here hx rfl (hb hby at_126) rfl rfl (l' := #[sl1, sl2, sl3, sl4, sl5, sl6, iv y7, iv y8, iv y9, iv y10, iv y11, iv y12, iv y13, rv x14, rv b1, rv b5, uu, uu, uu, uu, uu]) rfl k) ?_
    show Aw p e below _ T17 m 128 #[sl1, sl2, sl3, sl4, sl5, sl6, iv y7, iv y8, iv y9, iv y10, iv y11, iv y12, iv y13, rv x14, rv b1, rv b5, uu, uu, uu, uu, uu] []
    have f18 := (f12.keep K17)
    have f19 := (F9_0.keep K17)
    have lt20 := A5.lt
    have ne21 : b5 ≠ b9_0 := Nat.ne_of_lt (Nat.lt_of_lt_of_le lt20 zz9_0)
    have f22 := (F9_3.keep K17 (ninS (Ne.symm ne21) nin0))
    have f23 := (F9_4.keep K17 (ninS (Ne.symm ne21) nin0))
    have ne24 : b5 ≠ b9_1 := Nat.ne_of_lt (Nat.lt_of_lt_of_le lt20 zz9_1)
    have f25 := (F9_2.keep K17 (ninS (Ne.symm ne24) nin0))
    have lt26 := (Nat.lt_of_lt_of_le (Nat.lt_of_lt_of_le (P18.ext O0.2).lt E1.1) K4.1)
    have ne27 : x18 ≠ b5 := Nat.ne_of_lt (Nat.lt_of_lt_of_le lt26 (Nat.le_of_eq g5.symm))
    have z28 := (Nat.le_trans z15 K17.1)
    have o29 := (o16.keep K17 (allS g_b5 all0))
    exact pc_34 l Z a0 hw sl1 sl2 sl3 sl4 sl5 sl6 y7 y8 y9 y10 y11 y12 y13 x14 (rv b1) b5 y16 x15 x17 x18 x19 kk20 x21 T17.heap n0 z28 o29 P2 P3 P8 P1 P5 P6 (show Ch1 Z T17.heap b5 x14 x17 x18 y12 y8 y9 from (Or.inl ⟨hf101, ⟨⟨b9_0, f18, F17_0, ⟨b9_1, k9_0, f19, f22, f23, f25, P7⟩⟩, F17_1⟩⟩)) P9 P10 P11 P12 P13 P14 P15 f18 P16 P17 P18 (Ne.symm ne27) p e s _ m below meth c T17 _ _ hx hZ17 hby hml hown17 hnm hret hlk ⟨Y17.1, Y17.2.mono (Nat.le_refl _)⟩ (X17.mono (by decide) (by decide)) rfl N17
  · show Aw p e below _ T4 m 101 #[sl1, sl2, sl3, sl4, sl5, sl6, iv y7, iv y8, iv y9, iv y10, iv y11, iv y12, iv y13, rv x14, rv b1, uu, uu, uu, uu, uu, uu] [(.int y12)]
    refine Rch.go (fun t k => XS.ifNo X4.here hx rfl (hb hby at_101) rfl (XT.i0_eq_f hf101) (XS.aload X4.here hx rfl (hb hby at_104) rfl rfl (XS.aload X4.here hx rfl (hb hby at_106) rfl rfl k))) ?_
    show Aw p e below _ T4 m 108 #[sl1, sl2, sl3, sl4, sl5, sl6, iv y7, iv y8, iv y9, iv y10, iv y11, iv y12, iv y13, rv x14, rv b1, uu, uu, uu, uu, uu, uu] [(.ref x14), (.ref b1)]
    have f30 := (A1.keep K4)
    have f31 := ((P19.ext E1).keep K4)
    have z32 := (Nat.le_trans z2 K4.1)
    have o33 := (o3.keep K4 (allS g_b1 all0))
    obtain ⟨v34, T34, L34, X34, Q34, st34⟩ := callVi X4 hx hZ (m41_add l Z a0 hw b1 x14 x15 kk20 T4.heap n0 z32 o33 F4_0 f30 g_b1 F4_1 F4_2 P15 P1 f31) rfl hown (wd_107 hw) (wd_108 hw) (wd_110 hw) (notFace_of_selects (args := #[]) (mvT hZ (wd_110 hw))) (wd_109 hw) (wd_111 hw) (wd_31 hw) (by decide) (hb hby at_108) 0 (by decide) (by decide) (by decide) (by decide) (by rw [hml]; rfl) b1 f30 [(.ref x14)] [] rfl (lenOf pd_1 rfl) rfl (Nat.le_of_eq rfl) (Ls := #[sl1, sl2, sl3, sl4, sl5, sl6, iv y7, iv y8, iv y9, iv y10, iv y11, iv y12, iv y13, rv x14, rv b1, uu, uu, uu, uu, uu, uu])
    obtain ⟨b34_0, k34_0, rfl, M34, K34, zz34_0, O34_0, F34_0, F34_1, F34_2, F34_3, F34_4⟩ := Q34
    have N34 := Fr.app N4 M34
    refine Rch.go st34 ?_
    have g_b34_0 : n0 ≤ b34_0 := Nat.le_trans z32 zz34_0
    show Aw p e below _ T34 m 111 #[sl1, sl2, sl3, sl4, sl5, sl6, iv y7, iv y8, iv y9, iv y10, iv y11, iv y12, iv y13, rv x14, rv b1, uu, uu, uu, uu, uu, uu] [(.int 1)]
    refine Rch.go (fun t k => XS.pop X34.here hx rfl (hb hby at_111) rfl rfl k) ?_
    show Aw p e below _ T34 m 112 #[sl1, sl2, sl3, sl4, sl5, sl6, iv y7, iv y8, iv y9, iv y10, iv y11, iv y12, iv y13, rv x14, rv b1, uu, uu, uu, uu, uu, uu] []
    obtain ⟨T35, h35, X35, e35, E35, A35, D35, -, st35⟩ := newO X34 hx hZ hown (wd_0 hw) (wd_1 hw) (wd_2 hw) rfl (g := (mkF m 112 #[sl1, sl2, sl3, sl4, sl5, sl6, iv y7, iv y8, iv y9, iv y10, iv y11, iv y12, iv y13, rv x14, rv b1, uu, uu, uu, uu, uu, uu] [])) rfl (hb hby at_112) (by decide) (by decide)
    obtain ⟨b35, g35⟩ : ∃ z, z = T34.heap.size := ⟨_, rfl⟩
    rw [← g35] at A35 D35 st35
    refine Rch.go st35 ?_
    have z36 := (Nat.le_trans z32 K34.1)
    have g_b35 : n0 ≤ b35 := Nat.le_trans z36 (Nat.le_of_eq g35.symm)
    have F35_value : Fld Z h35 b35 s2' "value" "Ljava/lang/String;" .null := (D35 (Or.inr (wd_104 hw)) (ty := (.object "java/lang/String")) (by decide))
    have F35_children : Fld Z h35 b35 s2' "children" "Ljava/util/List;" .null := (D35 (Or.inr (wd_106 hw)) (ty := (.object "java/util/List")) (by decide))
    show Aw p e below _ T35 m 115 #[sl1, sl2, sl3, sl4, sl5, sl6, iv y7, iv y8, iv y9, iv y10, iv y11, iv y12, iv y13, rv x14, rv b1, uu, uu, uu, uu, uu, uu] [(.ref b35)]
    refine Rch.go (fun t k => XS.dup X35.here hx rfl (hb hby at_115) rfl rfl (XS.iload X35.here hx rfl (hb hby at_116) rfl  k)) ?_
    show Aw p e below _ T35 m 118 #[sl1, sl2, sl3, sl4, sl5, sl6, iv y7, iv y8, iv y9, iv y10, iv y11, iv y12, iv y13, rv x14, rv b1, uu, uu, uu, uu, uu, uu] [(.int y8), (.ref b35), (.ref b35)]
    have z37 := (Nat.le_trans z36 E35.1)
    have o38 := ((o33.keep K34 (allS g_b1 all0)).ext E35)
    obtain ⟨v39, T39, L39, X39, Q39, st39⟩ := callSt X35 hx hZ (m18_valueOf l Z a0 hw y8 y16 h35 n0 z37 o38 P2 P3 P4) e35 hown (wd_3 hw) (wd_4 hw) (wd_6 hw) (wd_5 hw) (by decide) (hb hby at_118) 2 (by decide) (by decide) (by decide) (by decide) (by rw [hml]; rfl) [(.int y8)] [(.ref b35), (.ref b35)] rfl (lenOf pd_13 rfl) rfl (Nat.le_of_eq rfl) (Ls := #[sl1, sl2, sl3, sl4, sl5, sl6, iv y7, iv y8, iv y9, iv y10, iv y11, iv y12, iv y13, rv x14, rv b1, uu, uu, uu, uu, uu, uu])
    obtain ⟨b39_0, b39_1, k39_0, rfl, M39, K39, zz39_0, zz39_1, F39_0, F39_1, F39_2, F39_3, F39_4⟩ := Q39
    have N39 := Fr.app N34 M39
    refine Rch.go st39 ?_
    have g_b39_0 : n0 ≤ b39_0 := Nat.le_trans z37 zz39_0
    have g_b39_1 : n0 ≤ b39_1 := Nat.le_trans z37 zz39_1
    show Aw p e below _ T39 m 121 #[sl1, sl2, sl3, sl4, sl5, sl6, iv y7, iv y8, iv y9, iv y10, iv y11, iv y12, iv y13, rv x14, rv b1, uu, uu, uu, uu, uu, uu] [(.ref b39_0), (.ref b35), (.ref b35)]
    refine Rch.go (fun t k => XS.aload X39.here hx rfl (hb hby at_121) rfl rfl k) ?_
    show Aw p e below _ T39 m 123 #[sl1, sl2, sl3, sl4, sl5, sl6, iv y7, iv y8, iv y9, iv y10, iv y11, iv y12, iv y13, rv x14, rv b1, uu, uu, uu, uu, uu, uu] [(.ref b1), (.ref b39_0), (.ref b35), (.ref b35)]
    have f40 := (((f30.keep K34).ext E35).keep K39)
    have f41 := ((F34_3.ext E35).keep K39 nin0)
    have f42 := (A35.keep K39)
    have f43 := (F35_value.keep K39 nin0)
    have f44 := (F35_children.keep K39 nin0)
    have f45 := ((F34_0.ext E35).keep K39 nin0)
    have f46 := ((F34_1.ext E35).keep K39)
    have f47 := ((F34_2.ext E35).keep K39 nin0)
    have f48 := (((f31.keep K34).ext E35).keep K39)
    have z49 := (Nat.le_trans z37 K39.1)
    have o50 := (o38.keep K39 all0)
    obtain ⟨v51, T51, L51, X51, Q51, Y51, hZ51, hown51, st51⟩ := callSpW X39 hx hZ Y0 (Nat.le_trans (Nat.le_trans (Nat.le_trans (Nat.le_trans (Nat.le_trans (Nat.le_refl _) E1.1) K4.1) K34.1) E35.1) K39.1) (m46_init l Z a0 hw b35 b39_0 b1 b39_1 k39_0 (nar .byte (y8.toInt8.toInt32)) x17 b34_0 x21 k34_0 x14 x18 T39.heap n0 z49 o50 F39_0 F39_3 F39_2 f40 f41 P5 f45 f46 P16 O34_0 f47 f48 P17 f42 f43 g_b35 f44) rfl hown rfl (wd_53 hw) (wd_54 hw) (wd_55 hw) (wd_2 hw) (by decide) (hb hby at_123) 1 (by decide) (by decide) (by decide) (by decide) (by rw [hml]; rfl) b35 [(.ref b39_0), (.ref b1)] [(.ref b35)] rfl (lenOf pd_18 rfl) rfl (Nat.le_of_eq rfl) (Ls := #[sl1, sl2, sl3, sl4, sl5, sl6, iv y7, iv y8, iv y9, iv y10, iv y11, iv y12, iv y13, rv x14, rv b1, uu, uu, uu, uu, uu, uu])
    obtain ⟨b51_0, rfl, M51, K51, zz51_0, F51_0, F51_1, F51_2, F51_3, F51_4⟩ := Q51
    have N51 := Fr.app N39 M51
    refine Rch.go st51 ?_
    have g_b51_0 : n0 ≤ b51_0 := Nat.le_trans z49 zz51_0
    show Aw p e below _ T51 m 126 #[sl1, sl2, sl3, sl4, sl5, sl6, iv y7, iv y8, iv y9, iv y10, iv y11, iv y12, iv y13, rv x14, rv b1, uu, uu, uu, uu, uu, uu] [(.ref b35)]
    refine Rch.go (fun t k => XS.astore X51.here hx rfl (hb hby at_126) rfl rfl (l' := #[sl1, sl2, sl3, sl4, sl5, sl6, iv y7, iv y8, iv y9, iv y10, iv y11, iv y12, iv y13, rv x14, rv b1, rv b35, uu, uu, uu, uu, uu]) rfl k) ?_
    show Aw p e below _ T51 m 128 #[sl1, sl2, sl3, sl4, sl5, sl6, iv y7, iv y8, iv y9, iv y10, iv y11, iv y12, iv y13, rv x14, rv b1, rv b35, uu, uu, uu, uu, uu] []
    have f52 := (f42.keep K51)
    have f53 := (F39_0.keep K51)
    have lt54 := A35.lt
    have ne55 : b35 ≠ b39_0 := Nat.ne_of_lt (Nat.lt_of_lt_of_le lt54 zz39_0)
    have f56 := (F39_3.keep K51 (ninS (Ne.symm ne55) nin0))
    have f57 := (F39_4.keep K51 (ninS (Ne.symm ne55) nin0))
    have ne58 : b35 ≠ b39_1 := Nat.ne_of_lt (Nat.lt_of_lt_of_le lt54 zz39_1)
    have f59 := (F39_2.keep K51 (ninS (Ne.symm ne58) nin0))
    have lt60 := (Nat.lt_of_lt_of_le (Nat.lt_of_lt_of_le (Nat.lt_of_lt_of_le (P18.ext O0.2).lt E1.1) K4.1) K34.1)
    have ne61 : x18 ≠ b35 := Nat.ne_of_lt (Nat.lt_of_lt_of_le lt60 (Nat.le_of_eq g35.symm))
    have z62 := (Nat.le_trans z49 K51.1)
    have o63 := (o50.keep K51 (allS g_b35 all0))
    exact pc_34 l Z a0 hw sl1 sl2 sl3 sl4 sl5 sl6 y7 y8 y9 y10 y11 y12 y13 x14 (rv b1) b35 y16 x15 x17 x18 x19 kk20 x21 T51.heap n0 z62 o63 P2 P3 P8 P1 P5 P6 (show Ch1 Z T51.heap b35 x14 x17 x18 y12 y8 y9 from (Or.inr ⟨hf101, ⟨⟨b39_0, f52, F51_3, ⟨b39_1, k39_0, f53, f56, f57, f59, P7⟩⟩, b51_0, F51_4, F51_0, F51_1, F51_2⟩, (P20.keep (((((((Keep.refl _ _).ext E1).trans K4 (allS (Or.inr (Nat.le_trans (Nat.le_refl _) (Nat.le_of_eq g1.symm))) all0)).trans K34 (allS (Or.inr (Nat.le_trans (Nat.le_refl _) (Nat.le_of_eq g1.symm))) all0)).ext E35).trans K39 all0).trans K51 (allS (Or.inr (Nat.le_trans (Nat.le_trans (Nat.le_trans (Nat.le_trans (Nat.le_refl _) E1.1) K4.1) K34.1) (Nat.le_of_eq g35.symm))) all0)))⟩)) P9 P10 P11 P12 P13 P14 P15 f52 P16 P17 P18 (Ne.symm ne61) p e s _ m below meth c T51 _ _ hx hZ51 hby hml hown51 hnm hret hlk ⟨Y51.1, Y51.2.mono (Nat.le_refl _)⟩ (X51.mono (by decide) (by decide)) rfl N51
theorem pa_17 (l : Launch) (Z : State) (a0 : Array Value) (hw : HW Z a0) (sl1 sl2 sl3 sl4 sl5 sl6 : Slot) (y7 y8 y9 y10 y11 y12 y13 y14 : Int32) (x15 x16 x17 x18 : Addr) (kk19 : ClassId) (x20 : Addr) (h0 : Heap) (n0 : Nat) (Z0 : n0 ≤ h0.size) (O0 : Old Z n0 h0) (P1 : Sta Z Z.heap "java/lang/String" "COMPACT_STRINGS" "Z" (.int y14)) (P2 : ¬ (y14 = (0 : Int32))) (P3 : ¬ ((255 : Int32) < y9)) (P4 : Sta Z Z.heap s1' "DEFAULTCAPACITY_EMPTY_ELEMENTDATA" s4' (.ref x15)) (P5 : Sta Z Z.heap s5' "EMPTY_LIST" s10' (.ref x16)) (P6 : Oz Z x16 x17 x18) (P7 : Ltr y9) (P8 : ¬ ((255 : Int32) < y8)) (P9 : Ltr y8) (P10 : ¬ ((255 : Int32) < y10)) (P11 : Ltr y10) (P12 : Md y13) (P13 : ¬ ((255 : Int32) < y7)) (P14 : Ltr y7) (P15 : ¬ ((255 : Int32) < y11)) (P16 : Ltr y11) (P17 : Arv Z Z.heap x15 kk19 (.object "java/lang/Object") (0 : Int32) [] .null) (P18 : MirA Z s4' x20) (P19 : Sta Z Z.heap s5' "EMPTY" "Ljava/lang/Object;" (.ref x17)) (P20 : Exa Z Z.heap x17 "java/lang/Object") (p : Program) (e : Env) (s : State) (vm0 : Vm) (m : MethodId) (below : List Frame) (meth : Method) (c : Code) (T0 : State) (args : Array Value) (locs : List Loc) (hx : p.tables.exec = Jvm.exec) (hZ : Z.Warmed39 vm0) (hby : c.code = code) (hml : c.maxLocals = 21) (hown : vm0.findClass s7' = some m.cls) (hnm : meth.name = "law") (hret : meth.sig.returnType = some .boolean) (hlk : meth.locks = false) (Y0 : s.Since vm0 h0.size) (X0 : Stand p l e room_1 (s.setVm vm0) m args below meth c T0 locs 0 0) (e0 : T0.heap = h0) (N0 : Fr n0 locs) :
    Rch p e below (LeavesW s room_1.cells room_1.slots (fun v h L => v = some (.int 1) ∧ Fr n0 L)) (T0.setTop (mkF m 69 #[sl1, sl2, sl3, sl4, sl5, sl6, iv y7, iv y8, iv y9, iv y10, iv y11, iv y12, iv y13, uu, uu, uu, uu, uu, uu, uu, uu] [])) := by
  show Aw p e below _ T0 m 69 #[sl1, sl2, sl3, sl4, sl5, sl6, iv y7, iv y8, iv y9, iv y10, iv y11, iv y12, iv y13, uu, uu, uu, uu, uu, uu, uu, uu] []
  obtain ⟨T1, h1, X1, e1, E1, A1, D1, -, st1⟩ := newO X0 hx hZ hown (wd_0 hw) (wd_1 hw) (wd_2 hw) e0 (g := (mkF m 69 #[sl1, sl2, sl3, sl4, sl5, sl6, iv y7, iv y8, iv y9, iv y10, iv y11, iv y12, iv y13, uu, uu, uu, uu, uu, uu, uu, uu] [])) rfl (hb hby at_69) (by decide) (by decide)
  obtain ⟨b1, g1⟩ : ∃ z, z = h0.size := ⟨_, rfl⟩
  rw [← g1] at A1 D1 st1
  refine Rch.go st1 ?_
  have g_b1 : n0 ≤ b1 := Nat.le_trans Z0 (Nat.le_of_eq g1.symm)
  have F1_value : Fld Z h1 b1 s2' "value" "Ljava/lang/String;" .null := (D1 (Or.inr (wd_104 hw)) (ty := (.object "java/lang/String")) (by decide))
  have F1_children : Fld Z h1 b1 s2' "children" "Ljava/util/List;" .null := (D1 (Or.inr (wd_106 hw)) (ty := (.object "java/util/List")) (by decide))
  show Aw p e below _ T1 m 72 #[sl1, sl2, sl3, sl4, sl5, sl6, iv y7, iv y8, iv y9, iv y10, iv y11, iv y12, iv y13, uu, uu, uu, uu, uu, uu, uu, uu] [(.ref b1)]
  refine Rch.go (fun t k => XS.dup X1.here hx rfl (hb hby at_72) rfl rfl (XS.iload X1.here hx rfl (hb hby at_73) rfl  k)) ?_
  show Aw p e below _ T1 m 75 #[sl1, sl2, sl3, sl4, sl5, sl6, iv y7, iv y8, iv y9, iv y10, iv y11, iv y12, iv y13, uu, uu, uu, uu, uu, uu, uu, uu] [(.int y9), (.ref b1), (.ref b1)]
  have z2 := (Nat.le_trans Z0 E1.1)
  have o3 := (O0.ext E1)
  obtain ⟨v4, T4, L4, X4, Q4, st4⟩ := callSt X1 hx hZ (m18_valueOf l Z a0 hw y9 y14 h1 n0 z2 o3 P1 P2 P3) e1 hown (wd_3 hw) (wd_4 hw) (wd_6 hw) (wd_5 hw) (by decide) (hb hby at_75) 2 (by decide) (by decide) (by decide) (by decide) (by rw [hml]; rfl) [(.int y9)] [(.ref b1), (.ref b1)] rfl (lenOf pd_13 rfl) rfl (Nat.le_of_eq rfl) (Ls := #[sl1, sl2, sl3, sl4, sl5, sl6, iv y7, iv y8, iv y9, iv y10, iv y11, iv y12, iv y13, uu, uu, uu, uu, uu, uu, uu, uu])
  obtain ⟨b4_0, b4_1, k4_0, rfl, M4, K4, zz4_0, zz4_1, F4_0, F4_1, F4_2, F4_3, F4_4⟩ := Q4
  have N4 := Fr.app N0 M4
  refine Rch.go st4 ?_
  have g_b4_0 : n0 ≤ b4_0 := Nat.le_trans z2 zz4_0
  have g_b4_1 : n0 ≤ b4_1 := Nat.le_trans z2 zz4_1
  show Aw p e below _ T4 m 78 #[sl1, sl2, sl3, sl4, sl5, sl6, iv y7, iv y8, iv y9, iv y10, iv y11, iv y12, iv y13, uu, uu, uu, uu, uu, uu, uu, uu] [(.ref b4_0), (.ref b1), (.ref b1)]
  obtain ⟨T5, h5, X5, e5, E5, A5, D5, -, st5⟩ := newO X4 hx hZ hown (wd_29 hw) (wd_30 hw) (wd_31 hw) rfl (g := (mkF m 78 #[sl1, sl2, sl3, sl4, sl5, sl6, iv y7, iv y8, iv y9, iv y10, iv y11, iv y12, iv y13, uu, uu, uu, uu, uu, uu, uu, uu] [(.ref b4_0), (.ref b1), (.ref b1)])) rfl (hb hby at_78) (by decide) (by decide)
  obtain ⟨b5, g5⟩ : ∃ z, z = T4.heap.size := ⟨_, rfl⟩
  rw [← g5] at A5 D5 st5
  refine Rch.go st5 ?_
  have z6 := (Nat.le_trans z2 K4.1)
  have g_b5 : n0 ≤ b5 := Nat.le_trans z6 (Nat.le_of_eq g5.symm)
  have F5_modCount : Fld Z h5 b5 s6' "modCount" "I" (.int 0) := (D5 (Or.inl (wd_49 hw)) (ty := .int) (by decide))
  have F5_elementData : Fld Z h5 b5 s1' "elementData" s4' .null := (D5 (Or.inl (wd_52 hw)) (ty := (.array (.object "java/lang/Object"))) (by decide))
  have F5_size : Fld Z h5 b5 s1' "size" "I" (.int 0) := (D5 (Or.inl (wd_98 hw)) (ty := .int) (by decide))
  show Aw p e below _ T5 m 81 #[sl1, sl2, sl3, sl4, sl5, sl6, iv y7, iv y8, iv y9, iv y10, iv y11, iv y12, iv y13, uu, uu, uu, uu, uu, uu, uu, uu] [(.ref b5), (.ref b4_0), (.ref b1), (.ref b1)]
  refine Rch.go (fun t k => XS.dup X5.here hx rfl (hb hby at_81) rfl rfl k) ?_
  show Aw p e below _ T5 m 82 #[sl1, sl2, sl3, sl4, sl5, sl6, iv y7, iv y8, iv y9, iv y10, iv y11, iv y12, iv y13, uu, uu, uu, uu, uu, uu, uu, uu] [(.ref b5), (.ref b5), (.ref b4_0), (.ref b1), (.ref b1)]
  have z7 := (Nat.le_trans z6 E5.1)
  have o8 := ((o3.keep K4 all0).ext E5)
  obtain ⟨v9, T9, L9, X9, Q9, st9⟩ := callSp X5 hx hZ (m22_init l Z a0 hw b5 x15 h5 n0 z7 o8 A5 F5_modCount g_b5 F5_elementData F5_size P4) e5 hown rfl (wd_32 hw) (wd_33 hw) (wd_34 hw) (wd_31 hw) (by decide) (hb hby at_82) 4 (by decide) (by decide) (by decide) (by decide) (by rw [hml]; rfl) b5 [] [(.ref b5), (.ref b4_0), (.ref b1), (.ref b1)] rfl (lenOf pd_14 rfl) rfl (Nat.le_of_eq rfl) (Ls := #[sl1, sl2, sl3, sl4, sl5, sl6, iv y7, iv y8, iv y9, iv y10, iv y11, iv y12, iv y13, uu, uu, uu, uu, uu, uu, uu, uu])
  obtain ⟨rfl, M9, K9, F9_0, F9_1, F9_2⟩ := Q9
  have N9 := Fr.app N4 M9
  refine Rch.go st9 ?_
  show Aw p e below _ T9 m 85 #[sl1, sl2, sl3, sl4, sl5, sl6, iv y7, iv y8, iv y9, iv y10, iv y11, iv y12, iv y13, uu, uu, uu, uu, uu, uu, uu, uu] [(.ref b5), (.ref b4_0), (.ref b1), (.ref b1)]
  have f10 := ((F4_0.ext E5).keep K9)
  have lt11 := F4_0.lt
  have ne12 : b4_0 ≠ b5 := Nat.ne_of_lt (Nat.lt_of_lt_of_le lt11 (Nat.le_of_eq g5.symm))
  have f13 := ((F4_3.ext E5).keep K9 (ninS ne12 nin0))
  have lt14 := F4_1.lt
  have ne15 : b4_1 ≠ b5 := Nat.ne_of_lt (Nat.lt_of_lt_of_le lt14 (Nat.le_of_eq g5.symm))
  have f16 := ((F4_2.ext E5).keep K9 (ninS ne15 nin0))
  have f17 := (A5.keep K9)
  have f18 := (((A1.keep K4).ext E5).keep K9)
  have lt19 := (Nat.lt_of_lt_of_le A1.lt K4.1)
  have ne20 : b1 ≠ b5 := Nat.ne_of_lt (Nat.lt_of_lt_of_le lt19 (Nat.le_of_eq g5.symm))
  have f21 := (((F1_value.keep K4 nin0).ext E5).keep K9 (ninS ne20 nin0))
  have f22 := (((F1_children.keep K4 nin0).ext E5).keep K9 (ninS ne20 nin0))
  have z23 := (Nat.le_trans z7 K9.1)
  have o24 := (o8.keep K9 (allS g_b5 all0))
  obtain ⟨v25, T25, L25, X25, Q25, Y25, hZ25, hown25, st25⟩ := callSpW X9 hx hZ Y0 (Nat.le_trans (Nat.le_trans (Nat.le_trans (Nat.le_trans (Nat.le_refl _) E1.1) K4.1) E5.1) K9.1) (m25_init l Z a0 hw b1 b4_0 b5 b4_1 k4_0 (nar .byte (y9.toInt8.toInt32)) x16 T9.heap n0 z23 o24 f10 f13 f16 f17 F9_2 P5 f18 f21 g_b1 f22) rfl hown rfl (wd_53 hw) (wd_54 hw) (wd_55 hw) (wd_2 hw) (by decide) (hb hby at_85) 1 (by decide) (by decide) (by decide) (by decide) (by rw [hml]; rfl) b1 [(.ref b4_0), (.ref b5)] [(.ref b1)] rfl (lenOf pd_18 rfl) rfl (Nat.le_of_eq rfl) (Ls := #[sl1, sl2, sl3, sl4, sl5, sl6, iv y7, iv y8, iv y9, iv y10, iv y11, iv y12, iv y13, uu, uu, uu, uu, uu, uu, uu, uu])
  obtain ⟨rfl, M25, K25, F25_0, F25_1⟩ := Q25
  have N25 := Fr.app N9 M25
  refine Rch.go st25 ?_
  show Aw p e below _ T25 m 88 #[sl1, sl2, sl3, sl4, sl5, sl6, iv y7, iv y8, iv y9, iv y10, iv y11, iv y12, iv y13, uu, uu, uu, uu, uu, uu, uu, uu] [(.ref b1)]
  refine Rch.go (fun t k => XS.astore X25.here hx rfl (hb hby at_88) rfl rfl (l' := #[sl1, sl2, sl3, sl4, sl5, sl6, iv y7, iv y8, iv y9, iv y10, iv y11, iv y12, iv y13, rv b1, uu, uu, uu, uu, uu, uu, uu]) rfl k) ?_
  show Aw p e below _ T25 m 90 #[sl1, sl2, sl3, sl4, sl5, sl6, iv y7, iv y8, iv y9, iv y10, iv y11, iv y12, iv y13, rv b1, uu, uu, uu, uu, uu, uu, uu] []
  have f26 := (f18.keep K25)
  have f27 := (f10.keep K25)
  have lt28 := A1.lt
  have ne29 : b1 ≠ b4_0 := Nat.ne_of_lt (Nat.lt_of_lt_of_le lt28 zz4_0)
  have f30 := (f13.keep K25 (ninS (Ne.symm ne29) nin0))
  have f31 := (((F4_4.ext E5).keep K9 (ninS ne12 nin0)).keep K25 (ninS (Ne.symm ne29) nin0))
  have ne32 : b1 ≠ b4_1 := Nat.ne_of_lt (Nat.lt_of_lt_of_le lt28 zz4_1)
  have f33 := (f16.keep K25 (ninS (Ne.symm ne32) nin0))
  have z34 := (Nat.le_trans z23 K25.1)
  have o35 := (o24.keep K25 (allS g_b1 all0))
  exact pb_33 l Z a0 hw sl1 sl2 sl3 sl4 sl5 sl6 y7 y8 y9 y10 y11 y12 y13 b1 x15 y14 x16 x17 x18 kk19 x20 T25.heap n0 z34 o35 P4 P1 P2 P8 P5 P6 P9 P10 P11 P12 P13 P14 P15 P16 P17 P18 P19 P20 f26 (show Tn0 Z T25.heap b1 x16 y9 from ⟨⟨b4_0, f26, F25_0, ⟨b4_1, k4_0, f27, f30, f31, f33, P7⟩⟩, F25_1⟩) p e s _ m below meth c T25 _ _ hx hZ25 hby hml hown25 hnm hret hlk ⟨Y25.1, Y25.2.mono (Nat.le_refl _)⟩ (X25.mono (by decide) (by decide)) rfl N25
theorem ef_law_1 (m : MethodId) (p0 p1 p2 p3 p4 p5 : Int32) : entryFrame m #[(.int p0), (.int p1), (.int p2), (.int p3), (.int p4), (.int p5)] maxLocals = mkF m 0 #[iv p0, iv p1, iv p2, iv p3, iv p4, iv p5, uu, uu, uu, uu, uu, uu, uu, uu, uu, uu, uu, uu, uu, uu, uu] [] := by first | (simp [entryFrame, mkF, argsToLocals, Value.category, maxLocals]; done)
theorem law_1 (l : Launch) (Z : State) (a0 : Array Value) (hw : HW Z a0) (p0 p1 p2 p3 p4 p5 : Int32) (ro0 ro1 ro2 ro3 ro4 ro5 : Addr) (ww6 : Int32) (ww7 : Value) (kk_ro0 kk_ro1 kk_ro3 : ClassId) (mr11 : Addr) (h0 : Heap) (n0 : Nat) (Z0 : n0 ≤ h0.size) (O0 : Old Z n0 h0) (G : Olds Z ro0 ro1 ro2 ro3 ro4 ro5 ww6 ww7 kk_ro0 kk_ro1 kk_ro3 mr11) :
    CtrW l Z tables_1 x code maxLocals ret #[(.int p0), (.int p1), (.int p2), (.int p3), (.int p4), (.int p5)] h0 room_1 (fun v h L => v = some (.int 1) ∧ Fr n0 L) := by
  refine CtrW.of (plainFor_of_name pn_com_example_harpocrates_harpocrates_data_TaxonomyFindPinLaw) (fun m => ef_law_1 m p0 p1 p2 p3 p4 p5) ?_
  intro p e s vm0 m below meth c T0 hx hZ hby hml hown hnm hret hlk Y0 X0 e0
  have N0 := Fr.nil n0
  have hret : meth.sig.returnType = some .boolean := hret
  have OZ : Oz Z ro2 ro4 ro5 := ⟨ro3, kk_ro3, ww6, G.2.2.2.2.2.1, G.2.2.2.2.2.2.1, G.2.2.2.2.2.2.2.2.2.2.2.2.2.2.2.2.2.2.2.1, G.2.2.2.2.2.2.2.2.1, G.2.2.2.2.2.2.2.2.2.2.1, G.2.2.2.2.2.2.2.2.2.2.2.1, G.2.2.2.2.2.2.2.2.2.2.2.2.2.2.2.2.1, G.2.2.2.2.2.2.2.2.2.2.2.2.1, G.2.2.2.2.2.2.2.2.2.2.2.2.2.2.2.2.2.2.2.2.2.1⟩
  show Aw p e below _ T0 m 0 #[iv p0, iv p1, iv p2, iv p3, iv p4, iv p5, uu, uu, uu, uu, uu, uu, uu, uu, uu, uu, uu, uu, uu, uu, uu] []
  refine Rch.go (fun t k => XS.bipush X0.here hx rfl (hb hby at_0) k) ?_
  show Aw p e below _ T0 m 2 #[iv p0, iv p1, iv p2, iv p3, iv p4, iv p5, uu, uu, uu, uu, uu, uu, uu, uu, uu, uu, uu, uu, uu, uu, uu] [(.int 97)]
  refine Rch.go (fun t k => XS.iloadN X0.here hx rfl (hb hby at_2) rfl  k) ?_
  show Aw p e below _ T0 m 3 #[iv p0, iv p1, iv p2, iv p3, iv p4, iv p5, uu, uu, uu, uu, uu, uu, uu, uu, uu, uu, uu, uu, uu, uu, uu] [(.int p0), (.int 97)]
  refine Rch.go (fun t k => XS.iconst X0.here hx rfl (hb hby at_3) k) ?_
  show Aw p e below _ T0 m 4 #[iv p0, iv p1, iv p2, iv p3, iv p4, iv p5, uu, uu, uu, uu, uu, uu, uu, uu, uu, uu, uu, uu, uu, uu, uu] [(.int 3), (.int p0), (.int 97)]
  refine Rch.go (fun t k => XS.iand X0.here hx rfl (hb hby at_4) rfl k) ?_
  show Aw p e below _ T0 m 5 #[iv p0, iv p1, iv p2, iv p3, iv p4, iv p5, uu, uu, uu, uu, uu, uu, uu, uu, uu, uu, uu, uu, uu, uu, uu] [(.int (p0 &&& (3 : Int32))), (.int 97)]
  refine Rch.go (fun t k => XS.iadd X0.here hx rfl (hb hby at_5) rfl k) ?_
  show Aw p e below _ T0 m 6 #[iv p0, iv p1, iv p2, iv p3, iv p4, iv p5, uu, uu, uu, uu, uu, uu, uu, uu, uu, uu, uu, uu, uu, uu, uu] [(.int ((97 : Int32) + (p0 &&& (3 : Int32))))]
  refine Rch.go (fun t k => XS.i2c X0.here hx rfl (hb hby at_6) rfl k) ?_
  show Aw p e below _ T0 m 7 #[iv p0, iv p1, iv p2, iv p3, iv p4, iv p5, uu, uu, uu, uu, uu, uu, uu, uu, uu, uu, uu, uu, uu, uu, uu] [(.int (((97 : Int32) + (p0 &&& (3 : Int32))).toUInt32.toUInt16.toUInt32.toInt32))]
  obtain ⟨ch1, he1, hl1⟩ := own_ltr3 p0
  rw [he1]
  show Aw p e below _ T0 m 7 #[iv p0, iv p1, iv p2, iv p3, iv p4, iv p5, uu, uu, uu, uu, uu, uu, uu, uu, uu, uu, uu, uu, uu, uu, uu] [(.int ch1)]
  refine Rch.go (fun t k => XS.istore X0.here hx rfl (hb hby at_7) rfl  (l' := #[iv p0, iv p1, iv p2, iv p3, iv p4, iv p5, iv ch1, uu, uu, uu, uu, uu, uu, uu, uu, uu, uu, uu, uu, uu, uu]) rfl k) ?_
  show Aw p e below _ T0 m 9 #[iv p0, iv p1, iv p2, iv p3, iv p4, iv p5, iv ch1, uu, uu, uu, uu, uu, uu, uu, uu, uu, uu, uu, uu, uu, uu] []
  refine Rch.go (fun t k => XS.bipush X0.here hx rfl (hb hby at_9) k) ?_
  show Aw p e below _ T0 m 11 #[iv p0, iv p1, iv p2, iv p3, iv p4, iv p5, iv ch1, uu, uu, uu, uu, uu, uu, uu, uu, uu, uu, uu, uu, uu, uu] [(.int 97)]
  refine Rch.go (fun t k => XS.iloadN X0.here hx rfl (hb hby at_11) rfl  k) ?_
  show Aw p e below _ T0 m 12 #[iv p0, iv p1, iv p2, iv p3, iv p4, iv p5, iv ch1, uu, uu, uu, uu, uu, uu, uu, uu, uu, uu, uu, uu, uu, uu] [(.int p1), (.int 97)]
  refine Rch.go (fun t k => XS.iconst X0.here hx rfl (hb hby at_12) k) ?_
  show Aw p e below _ T0 m 13 #[iv p0, iv p1, iv p2, iv p3, iv p4, iv p5, iv ch1, uu, uu, uu, uu, uu, uu, uu, uu, uu, uu, uu, uu, uu, uu] [(.int 3), (.int p1), (.int 97)]
  refine Rch.go (fun t k => XS.iand X0.here hx rfl (hb hby at_13) rfl k) ?_
  show Aw p e below _ T0 m 14 #[iv p0, iv p1, iv p2, iv p3, iv p4, iv p5, iv ch1, uu, uu, uu, uu, uu, uu, uu, uu, uu, uu, uu, uu, uu, uu] [(.int (p1 &&& (3 : Int32))), (.int 97)]
  refine Rch.go (fun t k => XS.iadd X0.here hx rfl (hb hby at_14) rfl k) ?_
  show Aw p e below _ T0 m 15 #[iv p0, iv p1, iv p2, iv p3, iv p4, iv p5, iv ch1, uu, uu, uu, uu, uu, uu, uu, uu, uu, uu, uu, uu, uu, uu] [(.int ((97 : Int32) + (p1 &&& (3 : Int32))))]
  refine Rch.go (fun t k => XS.i2c X0.here hx rfl (hb hby at_15) rfl k) ?_
  show Aw p e below _ T0 m 16 #[iv p0, iv p1, iv p2, iv p3, iv p4, iv p5, iv ch1, uu, uu, uu, uu, uu, uu, uu, uu, uu, uu, uu, uu, uu, uu] [(.int (((97 : Int32) + (p1 &&& (3 : Int32))).toUInt32.toUInt16.toUInt32.toInt32))]
  obtain ⟨ch2, he2, hl2⟩ := own_ltr3 p1
  rw [he2]
  show Aw p e below _ T0 m 16 #[iv p0, iv p1, iv p2, iv p3, iv p4, iv p5, iv ch1, uu, uu, uu, uu, uu, uu, uu, uu, uu, uu, uu, uu, uu, uu] [(.int ch2)]
  refine Rch.go (fun t k => XS.istore X0.here hx rfl (hb hby at_16) rfl  (l' := #[iv p0, iv p1, iv p2, iv p3, iv p4, iv p5, iv ch1, iv ch2, uu, uu, uu, uu, uu, uu, uu, uu, uu, uu, uu, uu, uu]) rfl k) ?_
  show Aw p e below _ T0 m 18 #[iv p0, iv p1, iv p2, iv p3, iv p4, iv p5, iv ch1, iv ch2, uu, uu, uu, uu, uu, uu, uu, uu, uu, uu, uu, uu, uu] []
  refine Rch.go (fun t k => XS.bipush X0.here hx rfl (hb hby at_18) k) ?_
  show Aw p e below _ T0 m 20 #[iv p0, iv p1, iv p2, iv p3, iv p4, iv p5, iv ch1, iv ch2, uu, uu, uu, uu, uu, uu, uu, uu, uu, uu, uu, uu, uu] [(.int 97)]
  refine Rch.go (fun t k => XS.iloadN X0.here hx rfl (hb hby at_20) rfl  k) ?_
  show Aw p e below _ T0 m 21 #[iv p0, iv p1, iv p2, iv p3, iv p4, iv p5, iv ch1, iv ch2, uu, uu, uu, uu, uu, uu, uu, uu, uu, uu, uu, uu, uu] [(.int p2), (.int 97)]
  refine Rch.go (fun t k => XS.iconst X0.here hx rfl (hb hby at_21) k) ?_
  show Aw p e below _ T0 m 22 #[iv p0, iv p1, iv p2, iv p3, iv p4, iv p5, iv ch1, iv ch2, uu, uu, uu, uu, uu, uu, uu, uu, uu, uu, uu, uu, uu] [(.int 3), (.int p2), (.int 97)]
  refine Rch.go (fun t k => XS.iand X0.here hx rfl (hb hby at_22) rfl k) ?_
  show Aw p e below _ T0 m 23 #[iv p0, iv p1, iv p2, iv p3, iv p4, iv p5, iv ch1, iv ch2, uu, uu, uu, uu, uu, uu, uu, uu, uu, uu, uu, uu, uu] [(.int (p2 &&& (3 : Int32))), (.int 97)]
  refine Rch.go (fun t k => XS.iadd X0.here hx rfl (hb hby at_23) rfl k) ?_
  show Aw p e below _ T0 m 24 #[iv p0, iv p1, iv p2, iv p3, iv p4, iv p5, iv ch1, iv ch2, uu, uu, uu, uu, uu, uu, uu, uu, uu, uu, uu, uu, uu] [(.int ((97 : Int32) + (p2 &&& (3 : Int32))))]
  refine Rch.go (fun t k => XS.i2c X0.here hx rfl (hb hby at_24) rfl k) ?_
  show Aw p e below _ T0 m 25 #[iv p0, iv p1, iv p2, iv p3, iv p4, iv p5, iv ch1, iv ch2, uu, uu, uu, uu, uu, uu, uu, uu, uu, uu, uu, uu, uu] [(.int (((97 : Int32) + (p2 &&& (3 : Int32))).toUInt32.toUInt16.toUInt32.toInt32))]
  obtain ⟨ch3, he3, hl3⟩ := own_ltr3 p2
  rw [he3]
  show Aw p e below _ T0 m 25 #[iv p0, iv p1, iv p2, iv p3, iv p4, iv p5, iv ch1, iv ch2, uu, uu, uu, uu, uu, uu, uu, uu, uu, uu, uu, uu, uu] [(.int ch3)]
  refine Rch.go (fun t k => XS.istore X0.here hx rfl (hb hby at_25) rfl  (l' := #[iv p0, iv p1, iv p2, iv p3, iv p4, iv p5, iv ch1, iv ch2, iv ch3, uu, uu, uu, uu, uu, uu, uu, uu, uu, uu, uu, uu]) rfl k) ?_
  show Aw p e below _ T0 m 27 #[iv p0, iv p1, iv p2, iv p3, iv p4, iv p5, iv ch1, iv ch2, iv ch3, uu, uu, uu, uu, uu, uu, uu, uu, uu, uu, uu, uu] []
  refine Rch.go (fun t k => XS.bipush X0.here hx rfl (hb hby at_27) k) ?_
  show Aw p e below _ T0 m 29 #[iv p0, iv p1, iv p2, iv p3, iv p4, iv p5, iv ch1, iv ch2, iv ch3, uu, uu, uu, uu, uu, uu, uu, uu, uu, uu, uu, uu] [(.int 97)]
  refine Rch.go (fun t k => XS.iloadN X0.here hx rfl (hb hby at_29) rfl  k) ?_
  show Aw p e below _ T0 m 30 #[iv p0, iv p1, iv p2, iv p3, iv p4, iv p5, iv ch1, iv ch2, iv ch3, uu, uu, uu, uu, uu, uu, uu, uu, uu, uu, uu, uu] [(.int p3), (.int 97)]
  refine Rch.go (fun t k => XS.iconst X0.here hx rfl (hb hby at_30) k) ?_
  show Aw p e below _ T0 m 31 #[iv p0, iv p1, iv p2, iv p3, iv p4, iv p5, iv ch1, iv ch2, iv ch3, uu, uu, uu, uu, uu, uu, uu, uu, uu, uu, uu, uu] [(.int 3), (.int p3), (.int 97)]
  refine Rch.go (fun t k => XS.iand X0.here hx rfl (hb hby at_31) rfl k) ?_
  show Aw p e below _ T0 m 32 #[iv p0, iv p1, iv p2, iv p3, iv p4, iv p5, iv ch1, iv ch2, iv ch3, uu, uu, uu, uu, uu, uu, uu, uu, uu, uu, uu, uu] [(.int (p3 &&& (3 : Int32))), (.int 97)]
  refine Rch.go (fun t k => XS.iadd X0.here hx rfl (hb hby at_32) rfl k) ?_
  show Aw p e below _ T0 m 33 #[iv p0, iv p1, iv p2, iv p3, iv p4, iv p5, iv ch1, iv ch2, iv ch3, uu, uu, uu, uu, uu, uu, uu, uu, uu, uu, uu, uu] [(.int ((97 : Int32) + (p3 &&& (3 : Int32))))]
  refine Rch.go (fun t k => XS.i2c X0.here hx rfl (hb hby at_33) rfl k) ?_
  show Aw p e below _ T0 m 34 #[iv p0, iv p1, iv p2, iv p3, iv p4, iv p5, iv ch1, iv ch2, iv ch3, uu, uu, uu, uu, uu, uu, uu, uu, uu, uu, uu, uu] [(.int (((97 : Int32) + (p3 &&& (3 : Int32))).toUInt32.toUInt16.toUInt32.toInt32))]
  obtain ⟨ch4, he4, hl4⟩ := own_ltr3 p3
  rw [he4]
  show Aw p e below _ T0 m 34 #[iv p0, iv p1, iv p2, iv p3, iv p4, iv p5, iv ch1, iv ch2, iv ch3, uu, uu, uu, uu, uu, uu, uu, uu, uu, uu, uu, uu] [(.int ch4)]
  refine Rch.go (fun t k => XS.istore X0.here hx rfl (hb hby at_34) rfl  (l' := #[iv p0, iv p1, iv p2, iv p3, iv p4, iv p5, iv ch1, iv ch2, iv ch3, iv ch4, uu, uu, uu, uu, uu, uu, uu, uu, uu, uu, uu]) rfl k) ?_
  show Aw p e below _ T0 m 36 #[iv p0, iv p1, iv p2, iv p3, iv p4, iv p5, iv ch1, iv ch2, iv ch3, iv ch4, uu, uu, uu, uu, uu, uu, uu, uu, uu, uu, uu] []
  refine Rch.go (fun t k => XS.bipush X0.here hx rfl (hb hby at_36) k) ?_
  show Aw p e below _ T0 m 38 #[iv p0, iv p1, iv p2, iv p3, iv p4, iv p5, iv ch1, iv ch2, iv ch3, iv ch4, uu, uu, uu, uu, uu, uu, uu, uu, uu, uu, uu] [(.int 97)]
  refine Rch.go (fun t k => XS.iload X0.here hx rfl (hb hby at_38) rfl  k) ?_
  show Aw p e below _ T0 m 40 #[iv p0, iv p1, iv p2, iv p3, iv p4, iv p5, iv ch1, iv ch2, iv ch3, iv ch4, uu, uu, uu, uu, uu, uu, uu, uu, uu, uu, uu] [(.int p4), (.int 97)]
  refine Rch.go (fun t k => XS.bipush X0.here hx rfl (hb hby at_40) k) ?_
  show Aw p e below _ T0 m 42 #[iv p0, iv p1, iv p2, iv p3, iv p4, iv p5, iv ch1, iv ch2, iv ch3, iv ch4, uu, uu, uu, uu, uu, uu, uu, uu, uu, uu, uu] [(.int 7), (.int p4), (.int 97)]
  refine Rch.go (fun t k => XS.iand X0.here hx rfl (hb hby at_42) rfl k) ?_
  show Aw p e below _ T0 m 43 #[iv p0, iv p1, iv p2, iv p3, iv p4, iv p5, iv ch1, iv ch2, iv ch3, iv ch4, uu, uu, uu, uu, uu, uu, uu, uu, uu, uu, uu] [(.int (p4 &&& (7 : Int32))), (.int 97)]
  refine Rch.go (fun t k => XS.iadd X0.here hx rfl (hb hby at_43) rfl k) ?_
  show Aw p e below _ T0 m 44 #[iv p0, iv p1, iv p2, iv p3, iv p4, iv p5, iv ch1, iv ch2, iv ch3, iv ch4, uu, uu, uu, uu, uu, uu, uu, uu, uu, uu, uu] [(.int ((97 : Int32) + (p4 &&& (7 : Int32))))]
  refine Rch.go (fun t k => XS.i2c X0.here hx rfl (hb hby at_44) rfl k) ?_
  show Aw p e below _ T0 m 45 #[iv p0, iv p1, iv p2, iv p3, iv p4, iv p5, iv ch1, iv ch2, iv ch3, iv ch4, uu, uu, uu, uu, uu, uu, uu, uu, uu, uu, uu] [(.int (((97 : Int32) + (p4 &&& (7 : Int32))).toUInt32.toUInt16.toUInt32.toInt32))]
  obtain ⟨ch5, he5, hl5⟩ := own_ltr7 p4
  rw [he5]
  show Aw p e below _ T0 m 45 #[iv p0, iv p1, iv p2, iv p3, iv p4, iv p5, iv ch1, iv ch2, iv ch3, iv ch4, uu, uu, uu, uu, uu, uu, uu, uu, uu, uu, uu] [(.int ch5)]
  refine Rch.go (fun t k => XS.istore X0.here hx rfl (hb hby at_45) rfl  (l' := #[iv p0, iv p1, iv p2, iv p3, iv p4, iv p5, iv ch1, iv ch2, iv ch3, iv ch4, iv ch5, uu, uu, uu, uu, uu, uu, uu, uu, uu, uu]) rfl k) ?_
  show Aw p e below _ T0 m 47 #[iv p0, iv p1, iv p2, iv p3, iv p4, iv p5, iv ch1, iv ch2, iv ch3, iv ch4, iv ch5, uu, uu, uu, uu, uu, uu, uu, uu, uu, uu] []
  refine Rch.go (fun t k => XS.iload X0.here hx rfl (hb hby at_47) rfl  k) ?_
  show Aw p e below _ T0 m 49 #[iv p0, iv p1, iv p2, iv p3, iv p4, iv p5, iv ch1, iv ch2, iv ch3, iv ch4, iv ch5, uu, uu, uu, uu, uu, uu, uu, uu, uu, uu] [(.int p5)]
  refine Rch.go (fun t k => XS.iconst X0.here hx rfl (hb hby at_49) k) ?_
  show Aw p e below _ T0 m 50 #[iv p0, iv p1, iv p2, iv p3, iv p4, iv p5, iv ch1, iv ch2, iv ch3, iv ch4, iv ch5, uu, uu, uu, uu, uu, uu, uu, uu, uu, uu] [(.int 1), (.int p5)]
  refine Rch.go (fun t k => XS.iand X0.here hx rfl (hb hby at_50) rfl k) ?_
  show Aw p e below _ T0 m 51 #[iv p0, iv p1, iv p2, iv p3, iv p4, iv p5, iv ch1, iv ch2, iv ch3, iv ch4, iv ch5, uu, uu, uu, uu, uu, uu, uu, uu, uu, uu] [(.int (p5 &&& (1 : Int32)))]
  by_cases hf51 : (p5 &&& (1 : Int32)) = (0 : Int32)
  · show Aw p e below _ T0 m 51 #[iv p0, iv p1, iv p2, iv p3, iv p4, iv p5, iv ch1, iv ch2, iv ch3, iv ch4, iv ch5, uu, uu, uu, uu, uu, uu, uu, uu, uu, uu] [(.int (p5 &&& (1 : Int32)))]
    refine Rch.go (fun t k => XS.ifYes X0.here hx rfl (pc0 := 51) (pc' := 58) rfl (hb hby at_51) rfl (XT.i0_eq_t hf51) (by decide) (by decide) k) ?_
    show Aw p e below _ T0 m 58 #[iv p0, iv p1, iv p2, iv p3, iv p4, iv p5, iv ch1, iv ch2, iv ch3, iv ch4, iv ch5, uu, uu, uu, uu, uu, uu, uu, uu, uu, uu] []
    refine Rch.go (fun t k => XS.iconst X0.here hx rfl (hb hby at_58) k) ?_
    show Aw p e below _ T0 m 59 #[iv p0, iv p1, iv p2, iv p3, iv p4, iv p5, iv ch1, iv ch2, iv ch3, iv ch4, iv ch5, uu, uu, uu, uu, uu, uu, uu, uu, uu, uu] [(.int 0)]
    obtain ⟨bo6, he6, hb6⟩ : ∃ z : Int32, [Value.int (0 : Int32)] = [Value.int z] ∧ Boo z := ⟨_, rfl, Or.inl rfl⟩
    rw [he6]
    show Aw p e below _ T0 m 59 #[iv p0, iv p1, iv p2, iv p3, iv p4, iv p5, iv ch1, iv ch2, iv ch3, iv ch4, iv ch5, uu, uu, uu, uu, uu, uu, uu, uu, uu, uu] [(.int bo6)]
    refine Rch.go (fun t k => XS.istore X0.here hx rfl (hb hby at_59) rfl  (l' := #[iv p0, iv p1, iv p2, iv p3, iv p4, iv p5, iv ch1, iv ch2, iv ch3, iv ch4, iv ch5, iv bo6, uu, uu, uu, uu, uu, uu, uu, uu, uu]) rfl k) ?_
    show Aw p e below _ T0 m 61 #[iv p0, iv p1, iv p2, iv p3, iv p4, iv p5, iv ch1, iv ch2, iv ch3, iv ch4, iv ch5, iv bo6, uu, uu, uu, uu, uu, uu, uu, uu, uu] []
    refine Rch.go (fun t k => XS.iload X0.here hx rfl (hb hby at_61) rfl  k) ?_
    show Aw p e below _ T0 m 63 #[iv p0, iv p1, iv p2, iv p3, iv p4, iv p5, iv ch1, iv ch2, iv ch3, iv ch4, iv ch5, iv bo6, uu, uu, uu, uu, uu, uu, uu, uu, uu] [(.int p5)]
    refine Rch.go (fun t k => XS.iconst X0.here hx rfl (hb hby at_63) k) ?_
    show Aw p e below _ T0 m 64 #[iv p0, iv p1, iv p2, iv p3, iv p4, iv p5, iv ch1, iv ch2, iv ch3, iv ch4, iv ch5, iv bo6, uu, uu, uu, uu, uu, uu, uu, uu, uu] [(.int 1), (.int p5)]
    refine Rch.go (fun t k => XS.iushr X0.here hx rfl (hb hby at_64) rfl k) ?_
    show Aw p e below _ T0 m 65 #[iv p0, iv p1, iv p2, iv p3, iv p4, iv p5, iv ch1, iv ch2, iv ch3, iv ch4, iv ch5, iv bo6, uu, uu, uu, uu, uu, uu, uu, uu, uu] [(.int ((p5.toUInt32 >>> ((1 : Int32) &&& 31).toUInt32).toInt32))]
    refine Rch.go (fun t k => XS.iconst X0.here hx rfl (hb hby at_65) k) ?_
    show Aw p e below _ T0 m 66 #[iv p0, iv p1, iv p2, iv p3, iv p4, iv p5, iv ch1, iv ch2, iv ch3, iv ch4, iv ch5, iv bo6, uu, uu, uu, uu, uu, uu, uu, uu, uu] [(.int 5), (.int ((p5.toUInt32 >>> ((1 : Int32) &&& 31).toUInt32).toInt32))]
    refine Rch.go (fun t k => iremM X0 hx rfl (hb hby at_66) rfl (by decide) k) ?_
    show Aw p e below _ T0 m 67 #[iv p0, iv p1, iv p2, iv p3, iv p4, iv p5, iv ch1, iv ch2, iv ch3, iv ch4, iv ch5, iv bo6, uu, uu, uu, uu, uu, uu, uu, uu, uu] [(.int (((p5.toUInt32 >>> ((1 : Int32) &&& 31).toUInt32).toInt32) % (5 : Int32)))]
    obtain ⟨md, he67, hmd⟩ := own_mod5 p5
    rw [he67]
    show Aw p e below _ T0 m 67 #[iv p0, iv p1, iv p2, iv p3, iv p4, iv p5, iv ch1, iv ch2, iv ch3, iv ch4, iv ch5, iv bo6, uu, uu, uu, uu, uu, uu, uu, uu, uu] [(.int md)]
    refine Rch.go (fun t k => XS.istore X0.here hx rfl (hb hby at_67) rfl  (l' := #[iv p0, iv p1, iv p2, iv p3, iv p4, iv p5, iv ch1, iv ch2, iv ch3, iv ch4, iv ch5, iv bo6, iv md, uu, uu, uu, uu, uu, uu, uu, uu]) rfl k) ?_
    show Aw p e below _ T0 m 69 #[iv p0, iv p1, iv p2, iv p3, iv p4, iv p5, iv ch1, iv ch2, iv ch3, iv ch4, iv ch5, iv bo6, iv md, uu, uu, uu, uu, uu, uu, uu, uu] []
    exact pa_17 l Z a0 hw (iv p0) (iv p1) (iv p2) (iv p3) (iv p4) (iv p5) ch1 ch2 ch3 ch4 ch5 bo6 md ww6 ro1 ro2 ro4 ro5 kk_ro1 mr11 h0 n0 Z0 O0 G.2.2.2.2.2.2.2.2.2.2.2.2.1 G.2.2.2.2.2.2.2.2.2.2.2.2.2.2.2.2.2.2.2.2.2.1 hl3.1 G.2.2.1 G.2.2.2.2.1 OZ hl3 hl2.1 hl2 hl4.1 hl4 hmd hl1.1 hl1 hl5.1 hl5 G.2.2.2.2.2.2.2.2.2.2.2.2.2.2.2.2.2.2.1 G.2.2.2.2.2.2.2.2.2.2.2.2.2.2.2.2.2.2.2.2.1 G.2.2.2.2.2.2.2.2.1 G.2.2.2.2.2.2.2.2.2.1 p e s _ m below meth c T0 _ _ hx hZ hby hml hown hnm hret hlk ⟨Y0.1, Y0.2.mono (Nat.le_refl _)⟩ (X0.mono (by decide) (by decide)) e0 N0
  · show Aw p e below _ T0 m 51 #[iv p0, iv p1, iv p2, iv p3, iv p4, iv p5, iv ch1, iv ch2, iv ch3, iv ch4, iv ch5, uu, uu, uu, uu, uu, uu, uu, uu, uu, uu] [(.int (p5 &&& (1 : Int32)))]
    refine Rch.go (fun t k => XS.ifNo X0.here hx rfl (hb hby at_51) rfl (XT.i0_eq_f hf51) k) ?_
    show Aw p e below _ T0 m 54 #[iv p0, iv p1, iv p2, iv p3, iv p4, iv p5, iv ch1, iv ch2, iv ch3, iv ch4, iv ch5, uu, uu, uu, uu, uu, uu, uu, uu, uu, uu] []
    refine Rch.go (fun t k => XS.iconst X0.here hx rfl (hb hby at_54) k) ?_
    show Aw p e below _ T0 m 55 #[iv p0, iv p1, iv p2, iv p3, iv p4, iv p5, iv ch1, iv ch2, iv ch3, iv ch4, iv ch5, uu, uu, uu, uu, uu, uu, uu, uu, uu, uu] [(.int 1)]
    refine Rch.go (fun t k => XS.goto X0.here hx rfl (pc0 := 55) (pc' := 59) rfl (hb hby at_55) (by decide) (by decide) k) ?_
    show Aw p e below _ T0 m 59 #[iv p0, iv p1, iv p2, iv p3, iv p4, iv p5, iv ch1, iv ch2, iv ch3, iv ch4, iv ch5, uu, uu, uu, uu, uu, uu, uu, uu, uu, uu] [(.int 1)]
    obtain ⟨bo7, he7, hb7⟩ : ∃ z : Int32, [Value.int (1 : Int32)] = [Value.int z] ∧ Boo z := ⟨_, rfl, Or.inr rfl⟩
    rw [he7]
    show Aw p e below _ T0 m 59 #[iv p0, iv p1, iv p2, iv p3, iv p4, iv p5, iv ch1, iv ch2, iv ch3, iv ch4, iv ch5, uu, uu, uu, uu, uu, uu, uu, uu, uu, uu] [(.int bo7)]
    refine Rch.go (fun t k => XS.istore X0.here hx rfl (hb hby at_59) rfl  (l' := #[iv p0, iv p1, iv p2, iv p3, iv p4, iv p5, iv ch1, iv ch2, iv ch3, iv ch4, iv ch5, iv bo7, uu, uu, uu, uu, uu, uu, uu, uu, uu]) rfl k) ?_
    show Aw p e below _ T0 m 61 #[iv p0, iv p1, iv p2, iv p3, iv p4, iv p5, iv ch1, iv ch2, iv ch3, iv ch4, iv ch5, iv bo7, uu, uu, uu, uu, uu, uu, uu, uu, uu] []
    refine Rch.go (fun t k => XS.iload X0.here hx rfl (hb hby at_61) rfl  k) ?_
    show Aw p e below _ T0 m 63 #[iv p0, iv p1, iv p2, iv p3, iv p4, iv p5, iv ch1, iv ch2, iv ch3, iv ch4, iv ch5, iv bo7, uu, uu, uu, uu, uu, uu, uu, uu, uu] [(.int p5)]
    refine Rch.go (fun t k => XS.iconst X0.here hx rfl (hb hby at_63) k) ?_
    show Aw p e below _ T0 m 64 #[iv p0, iv p1, iv p2, iv p3, iv p4, iv p5, iv ch1, iv ch2, iv ch3, iv ch4, iv ch5, iv bo7, uu, uu, uu, uu, uu, uu, uu, uu, uu] [(.int 1), (.int p5)]
    refine Rch.go (fun t k => XS.iushr X0.here hx rfl (hb hby at_64) rfl k) ?_
    show Aw p e below _ T0 m 65 #[iv p0, iv p1, iv p2, iv p3, iv p4, iv p5, iv ch1, iv ch2, iv ch3, iv ch4, iv ch5, iv bo7, uu, uu, uu, uu, uu, uu, uu, uu, uu] [(.int ((p5.toUInt32 >>> ((1 : Int32) &&& 31).toUInt32).toInt32))]
    refine Rch.go (fun t k => XS.iconst X0.here hx rfl (hb hby at_65) k) ?_
    show Aw p e below _ T0 m 66 #[iv p0, iv p1, iv p2, iv p3, iv p4, iv p5, iv ch1, iv ch2, iv ch3, iv ch4, iv ch5, iv bo7, uu, uu, uu, uu, uu, uu, uu, uu, uu] [(.int 5), (.int ((p5.toUInt32 >>> ((1 : Int32) &&& 31).toUInt32).toInt32))]
    refine Rch.go (fun t k => iremM X0 hx rfl (hb hby at_66) rfl (by decide) k) ?_
    show Aw p e below _ T0 m 67 #[iv p0, iv p1, iv p2, iv p3, iv p4, iv p5, iv ch1, iv ch2, iv ch3, iv ch4, iv ch5, iv bo7, uu, uu, uu, uu, uu, uu, uu, uu, uu] [(.int (((p5.toUInt32 >>> ((1 : Int32) &&& 31).toUInt32).toInt32) % (5 : Int32)))]
    obtain ⟨md, he67, hmd⟩ := own_mod5 p5
    rw [he67]
    show Aw p e below _ T0 m 67 #[iv p0, iv p1, iv p2, iv p3, iv p4, iv p5, iv ch1, iv ch2, iv ch3, iv ch4, iv ch5, iv bo7, uu, uu, uu, uu, uu, uu, uu, uu, uu] [(.int md)]
    refine Rch.go (fun t k => XS.istore X0.here hx rfl (hb hby at_67) rfl  (l' := #[iv p0, iv p1, iv p2, iv p3, iv p4, iv p5, iv ch1, iv ch2, iv ch3, iv ch4, iv ch5, iv bo7, iv md, uu, uu, uu, uu, uu, uu, uu, uu]) rfl k) ?_
    show Aw p e below _ T0 m 69 #[iv p0, iv p1, iv p2, iv p3, iv p4, iv p5, iv ch1, iv ch2, iv ch3, iv ch4, iv ch5, iv bo7, iv md, uu, uu, uu, uu, uu, uu, uu, uu] []
    exact pa_17 l Z a0 hw (iv p0) (iv p1) (iv p2) (iv p3) (iv p4) (iv p5) ch1 ch2 ch3 ch4 ch5 bo7 md ww6 ro1 ro2 ro4 ro5 kk_ro1 mr11 h0 n0 Z0 O0 G.2.2.2.2.2.2.2.2.2.2.2.2.1 G.2.2.2.2.2.2.2.2.2.2.2.2.2.2.2.2.2.2.2.2.2.1 hl3.1 G.2.2.1 G.2.2.2.2.1 OZ hl3 hl2.1 hl2 hl4.1 hl4 hmd hl1.1 hl1 hl5.1 hl5 G.2.2.2.2.2.2.2.2.2.2.2.2.2.2.2.2.2.2.1 G.2.2.2.2.2.2.2.2.2.2.2.2.2.2.2.2.2.2.2.2.1 G.2.2.2.2.2.2.2.2.1 G.2.2.2.2.2.2.2.2.2.1 p e s _ m below meth c T0 _ _ hx hZ hby hml hown hnm hret hlk ⟨Y0.1, Y0.2.mono (Nat.le_refl _)⟩ (X0.mono (by decide) (by decide)) e0 N0
theorem comes_1 {Post : Tables → Env → Array Value → State → Outcome → State → Prop} (hpost : ∀ tb e args s v u, (limb_1_1.after args s (.returned v) u = true ∧ limb_1_2.after args s (.returned v) u = true ∧ True) → ReturnedEndW s (.returned v) u (Jvm.fieldLocs frame_1_writes args s ++ Jvm.arrayLocs frame_1_arrays args s ++ Jvm.staticLocs frame_1_statics s) 64 1280 → Post tb e args s (.returned v) u) :
    ArmFor flags0 classFile x code maxLocals ret World_1 tables_1 room_1 Calls_1 rest_1 Pre_1 Post := by
  intro l hfl _ _ p e ha hc hk s m args below hf hA hF happ hP
  obtain ⟨hcalls, hrest, hpre⟩ := hP
  obtain ⟨-, -, -, hnamed, -, -, -, hat⟩ := (Spec.applies_iff hf).mp happ
  obtain ⟨hg, hn⟩ := and_e (Cond.before_iff.mp (show (Jvm.Cond.and given_1 narrow_1).before args s = true from hpre))
  obtain ⟨gv0, hg⟩ := and_e hg
  obtain ⟨gv1, hg⟩ := and_e hg
  obtain ⟨gv2, hg⟩ := and_e hg
  obtain ⟨gv3, hg⟩ := and_e hg
  obtain ⟨gv4, hg⟩ := and_e hg
  obtain ⟨gv5, hg⟩ := and_e hg
  have gv6 := hg
  obtain ⟨w0, w1, w2, w3, w4, w5, rfl⟩ : ∃ w0 w1 w2 w3 w4 w5 : Value, args = #[w0, w1, w2, w3, w4, w5] := by
    have hs : args.size = 6 := by simpa [Cond.value, given_1] using gv0
    obtain ⟨L⟩ := args
    match L, hs with
    | [w0, w1, w2, w3, w4, w5], _ => exact ⟨w0, w1, w2, w3, w4, w5, rfl⟩
  have hw : HW s _ := fun d (hd : d ∈ tables_1) => atoms_spec (ws := Jvm.Cond.code x code maxLocals ret :: tables_1) hat d (List.mem_cons_of_mem _ hd)
  have hfit : Fit s := fun {y c} hc i hi => by
    obtain ⟨ha, rfl⟩ := Array.getElem?_eq_some_iff.mp hc
    have q := List.all_eq_true.mp ((Array.all_eq_true_iff_forall_mem.mp hF) _ (Array.getElem_mem ha)) i (List.mem_range.mpr hi)
    simpa [Array.getElem?_eq_getElem hi] using q
  obtain ⟨i0, ei0⟩ := is_v gv1
  obtain rfl : w0 = (.int i0) := Option.some.inj ei0
  obtain ⟨i1, ei1⟩ := is_v gv2
  obtain rfl : w1 = (.int i1) := Option.some.inj ei1
  obtain ⟨i2, ei2⟩ := is_v gv3
  obtain rfl : w2 = (.int i2) := Option.some.inj ei2
  obtain ⟨i3, ei3⟩ := is_v gv4
  obtain rfl : w3 = (.int i3) := Option.some.inj ei3
  obtain ⟨i4, ei4⟩ := is_v gv5
  obtain rfl : w4 = (.int i4) := Option.some.inj ei4
  obtain ⟨i5, ei5⟩ := is_v gv6
  obtain rfl : w5 = (.int i5) := Option.some.inj ei5
  obtain ⟨hsets, hown0⟩ := atoms_of _ (rest_1_c_eq ▸ (show rest_1_c.before _ s = true from hrest))
  obtain ⟨ro0, ev_ro0⟩ := arr_v (Cond.before_iff.mp (hsets _ (List.mem_of_getElem? (i := 12) rfl)))
  obtain ⟨ro1, ev_ro1⟩ := arr_v (Cond.before_iff.mp (hsets _ (List.mem_of_getElem? (i := 15) rfl)))
  obtain ⟨ro2, ev_ro2⟩ := exa_v (Cond.before_iff.mp (hsets _ (List.mem_of_getElem? (i := 20) rfl)))
  obtain ⟨ro3, ev_ro3⟩ := arr_v (Cond.before_iff.mp (hsets _ (List.mem_of_getElem? (i := 21) rfl)))
  obtain ⟨ro4, ev_ro4⟩ := exa_v (Cond.before_iff.mp (hsets _ (List.mem_of_getElem? (i := 27) rfl)))
  obtain ⟨ro5, ev_ro5⟩ := exa_v (Cond.before_iff.mp (hsets _ (List.mem_of_getElem? (i := 36) rfl)))
  obtain ⟨ww6, ev_ww6⟩ := is_v (Cond.before_iff.mp (hsets _ (List.mem_of_getElem? (i := 1) rfl)))
  obtain ⟨ww7, ev_ww7, rf_ww7⟩ := isR_v (Cond.before_iff.mp (hsets _ (List.mem_of_getElem? (i := 8) rfl)))
  have ev_8 := own_eqI (Cond.before_iff.mp (hsets _ (List.mem_of_getElem? (i := 24) rfl)))
  have ev_9 := own_eqI (Cond.before_iff.mp (hsets _ (List.mem_of_getElem? (i := 30) rfl)))
  have ev_10 := null_v (Cond.before_iff.mp (hsets _ (List.mem_of_getElem? (i := 37) rfl)))
  obtain ⟨cl_ro0, ar_ro0, sz_ro0, le_ro0⟩ := own_len ev_ro0 (Cond.before_iff.mp (hsets _ (List.mem_of_getElem? (i := 12) rfl))) (Cond.before_iff.mp (hsets _ (List.mem_of_getElem? (i := 14) rfl)))
  obtain ⟨kk_ro0, q_ro0⟩ : ∃ z, z = cl_ro0.cls := ⟨_, rfl⟩
  obtain ⟨cl_ro1, ar_ro1, sz_ro1, le_ro1⟩ := own_len ev_ro1 (Cond.before_iff.mp (hsets _ (List.mem_of_getElem? (i := 15) rfl))) (Cond.before_iff.mp (hsets _ (List.mem_of_getElem? (i := 17) rfl)))
  obtain ⟨kk_ro1, q_ro1⟩ : ∃ z, z = cl_ro1.cls := ⟨_, rfl⟩
  obtain ⟨cl_ro3, ar_ro3, sz_ro3, le_ro3⟩ := own_len ev_ro3 (Cond.before_iff.mp (hsets _ (List.mem_of_getElem? (i := 21) rfl))) (Cond.before_iff.mp (hsets _ (List.mem_of_getElem? (i := 23) rfl)))
  obtain ⟨kk_ro3, q_ro3⟩ : ∃ z, z = cl_ro3.cls := ⟨_, rfl⟩
  obtain ⟨mr11, mi_mr11⟩ := own_mir (hcalls.1)
  have G : Olds s ro0 ro1 ro2 ro3 ro4 ro5 ww6 ww7 kk_ro0 kk_ro1 kk_ro3 mr11 := ⟨(Sta.start ev_ro0 (Or.inl (((hsets _ (List.mem_of_getElem? (i := 10) rfl)))))), (Exa.start ev_ro0 (Cond.before_iff.mp (hsets _ (List.mem_of_getElem? (i := 13) rfl)))), (Sta.start ev_ro1 (Or.inr ⟨(wd_31 hw), ((hsets _ (List.mem_of_getElem? (i := 11) rfl)))⟩)), (Exa.start ev_ro1 (Cond.before_iff.mp (hsets _ (List.mem_of_getElem? (i := 16) rfl)))), (Sta.start ev_ro2 (Or.inl (((hsets _ (List.mem_of_getElem? (i := 19) rfl)))))), (Exa.start ev_ro2 (Cond.before_iff.mp (hsets _ (List.mem_of_getElem? (i := 20) rfl)))), (own_fldV ev_ro2 ev_ro3), (Exa.start ev_ro3 (Cond.before_iff.mp (hsets _ (List.mem_of_getElem? (i := 22) rfl)))), (Sta.start ev_ro4 (Or.inl (((hsets _ (List.mem_of_getElem? (i := 26) rfl)))))), (Exa.start ev_ro4 (Cond.before_iff.mp (hsets _ (List.mem_of_getElem? (i := 27) rfl)))), (Sta.start ev_ro5 (Or.inl (((hsets _ (List.mem_of_getElem? (i := 35) rfl)))))), (Exa.start ev_ro5 (Cond.before_iff.mp (hsets _ (List.mem_of_getElem? (i := 36) rfl)))), (Sta.start ev_ww6 (Or.inl (((hsets _ (List.mem_of_getElem? (i := 0) rfl)))))), (Sta.start ev_ww7 (Or.inl (((hsets _ (List.mem_of_getElem? (i := 7) rfl)))))), (own_fldV ev_ro2 ev_8), (Sta.start ev_9 (Or.inl (((hsets _ (List.mem_of_getElem? (i := 29) rfl)))))), (own_fldV ev_ro5 ev_10), (q_ro0 ▸ Arv.start hfit ar_ro0 sz_ro0 le_ro0 (by decide) (by first | decide | rfl) trivial), (q_ro1 ▸ Arv.start hfit ar_ro1 sz_ro1 le_ro1 (by decide) (by first | decide | rfl) trivial), (q_ro3 ▸ Arv.start hfit ar_ro3 sz_ro3 le_ro3 (by decide) (by first | decide | rfl) trivial), mi_mr11, (own_neI ev_ww6 (Cond.before_iff.mp (hsets _ (List.mem_of_getElem? (i := 2) rfl)))), (rf_ww7)⟩
  obtain ⟨n, o, h1, h2, h3, _, L, rfl, ⟨rfl, N⟩, hq⟩ := law_1 l s _ hw i0 i1 i2 i3 i4 i5 ro0 ro1 ro2 ro3 ro4 ro5 ww6 ww7 kk_ro0 kk_ro1 kk_ro3 mr11 s.heap s.heap.size (Nat.le_refl _) (Old.start s) G p e ha hc hk s m _ below hf ((Spec.applies_iff_loose hf).mp happ).1 ⟨rfl, State.Warmed39.refl s, rfl⟩ trivial
  refine ⟨n, _, h1, h2, h3, hpost _ _ _ _ _ _ ⟨Cond.after_iff.mpr rfl, Cond.after_iff.mpr (eq_i res_at (Term.int_eval (1)) rfl), trivial⟩ ⟨hq.1, hq.2.1, hq.2.2.1, (hq.2.2.2.sift fun y hy => Or.inr (N y hy)).mono (by decide) (by decide)⟩⟩
theorem main_1_1 : Claimed_1_1 := comes_1 fun _ _ _ _ _ _ h hF => ⟨h.1, hF⟩
theorem main_1_2 : Claimed_1_2 := comes_1 fun _ _ _ _ _ _ h hF => ⟨h.2.1, hF⟩
end Jvm.Pilot.@@N@@
namespace Jvm.Pilot.@@N@@
open Jvm Jvm.ClassFile Sem Op Lib Jvm.Free Jvm.Stand Jvm.Pilot.@@N@@.Jvm.D
/-! MADE BY PROGRAM (witnessworld.py) out of the Statement's table words and the real class files: 38 classes; the members and pool entries that the words name. The judged class is class 1, her method 3. -/
namespace start1
open Jvm.ClassFile
def u (s : String) : CpInfo := .utf8 (stringToUtf16 s)
/-- a pool by its gaps: so many unusable entries, then the entry; so many at the end -/
def gap : Nat → List CpInfo → List CpInfo
  | 0, r => r
  | n + 1, r => .unusable :: gap n r
def poolList (es : List (Nat × CpInfo)) (last : Nat) : List CpInfo := es.foldr (fun e r => gap e.1 (e.2 :: r)) (gap last [])
def pool (es : List (Nat × CpInfo)) (last : Nat) : Array CpInfo := ⟨poolList es last⟩
def fileOf (pool : Array CpInfo) (this : Nat) (attrs : Array Attribute := #[]) (ms : Array MethodInfo := #[]) (fl : Nat := 33) (sup : Nat := 0) (ifs : Array Nat := #[]) (fds : Array FieldInfo := #[]) : ClassFile where
  minorVersion := 0
  majorVersion := 65
  constantPool := pool
  accessFlags := fl
  thisClass := this
  superClass := sup
  interfaces := ifs
  fields := fds
  methods := ms
  attributes := attrs
def plain (name : String) (sup : Option ClassId) : Class where
  name := name
  kind := .ordinary
  loader := none
  accessFlags := 33
  super := sup
  interfaces := #[]
  cf := none
  fields := #[]
  methods := #[]
  instanceTypes := #[]
  staticTypes := #[]
  resolved := #[]
  callSites := []
  init := .initialized
  statics := none
  mirror := none

def pool0 : Array CpInfo := pool [(5, u "<init>"), (0, u "()V"), (1, .class_ 10), (1, u "java/lang/Object"), (0, u "getClass"), (0, u "()Ljava/lang/Class;")] 111

def k0c0 : Code := { maxStack := 0, maxLocals := 1, code := object_method_1_code, exceptionTable := #[], attributes := #[] }
def k0m0 : Method := { name := "<init>", desc := "()V", sig := { parameters := [], returnType := none }, accessFlags := 1, code := some k0c0 }
def k0m1 : Method := { name := "getClass", desc := "()Ljava/lang/Class;", sig := { parameters := [], returnType := some (.object "java/lang/Class") }, accessFlags := 273, code := none }
/-- java/lang/Object -/
def k0 : Class := { plain "java/lang/Object" none with
  accessFlags := 33
  interfaces := #[]
  cf := some (fileOf pool0 8 #[] #[{ accessFlags := 1, nameIndex := 5, descriptorIndex := 6, attributes := #[] }, { accessFlags := 273, nameIndex := 11, descriptorIndex := 12, attributes := #[] }] 33 0 #[] #[])
  fields := #[]
  methods := #[k0m0, k0m1]
  instanceTypes := #[]
  staticTypes := #[]
  resolved := Array.replicate 124 none
  statics := none }

def pool1 : Array CpInfo := pool [(2, .class_ 4), (0, .nameAndType 5 6), (0, u "java/lang/Object"), (0, u "<init>"), (0, u "()V"), (0, .class_ 8), (0, u "com/example/harpocrates/harpocrates/data/Taxonomy"), (0, .methodref 10 11), (0, .class_ 12), (0, .nameAndType 13 14), (0, u "java/lang/String"), (0, u "valueOf"), (0, u "(C)Ljava/lang/String;"), (0, .class_ 16), (0, u "java/util/ArrayList"), (0, .methodref 15 3), (0, .methodref 7 19), (0, .nameAndType 5 20), (0, u "(Ljava/lang/String;Ljava/util/List;)V"), (0, .methodref 15 22), (0, .nameAndType 23 24), (0, u "add"), (0, u "(Ljava/lang/Object;)Z"), (0, .methodref 26 27), (0, .class_ 28), (0, .nameAndType 29 30), (0, u "com/example/harpocrates/harpocrates/data/TaxonomyFindPinLaw"), (0, u "inC1"), (0, u "(Lcom/example/harpocrates/harpocrates/data/Taxonomy;Lcom/example/harpocrates/harpocrates/data/Taxonomy;ZCCC)Lcom/example/harpocrates/harpocrates/data/Taxonomy;"), (0, .methodref 26 32), (0, .nameAndType 33 34), (0, u "inC2"), (0, u "(Lcom/example/harpocrates/harpocrates/data/Taxonomy;CC)Lcom/example/harpocrates/harpocrates/data/Taxonomy;"), (0, .methodref 7 36), (0, .nameAndType 37 38), (0, u "find"), (0, u "(Ljava/lang/String;)Ljava/util/Optional;"), (0, .methodref 40 41), (0, .class_ 42), (0, .nameAndType 43 44), (0, u "java/util/Optional"), (0, u "orElse"), (0, u "(Ljava/lang/Object;)Ljava/lang/Object;"), (3, u "law"), (0, u "(IIIIII)Z")] 2

def k1m0 : Method := { name := "<init>", desc := "()V", sig := { parameters := [], returnType := none }, accessFlags := 1, code := none }
def k1c1 : Code := { maxStack := 2, maxLocals := 6, code := method_2_code, exceptionTable := #[], attributes := #[] }
def k1m1 : Method := { name := "inC1", desc := "(Lcom/example/harpocrates/harpocrates/data/Taxonomy;Lcom/example/harpocrates/harpocrates/data/Taxonomy;ZCCC)Lcom/example/harpocrates/harpocrates/data/Taxonomy;", sig := { parameters := [(.object "com/example/harpocrates/harpocrates/data/Taxonomy"), (.object "com/example/harpocrates/harpocrates/data/Taxonomy"), .boolean, .char, .char, .char], returnType := some (.object "com/example/harpocrates/harpocrates/data/Taxonomy") }, accessFlags := 10, code := some k1c1 }
def k1c2 : Code := { maxStack := 2, maxLocals := 3, code := method_3_code, exceptionTable := #[], attributes := #[] }
def k1m2 : Method := { name := "inC2", desc := "(Lcom/example/harpocrates/harpocrates/data/Taxonomy;CC)Lcom/example/harpocrates/harpocrates/data/Taxonomy;", sig := { parameters := [(.object "com/example/harpocrates/harpocrates/data/Taxonomy"), .char, .char], returnType := some (.object "com/example/harpocrates/harpocrates/data/Taxonomy") }, accessFlags := 10, code := some k1c2 }
def k1c3 : Code := { maxStack := 6, maxLocals := 21, code := code, exceptionTable := #[], attributes := #[] }
def k1m3 : Method := { name := "law", desc := "(IIIIII)Z", sig := { parameters := [.int, .int, .int, .int, .int, .int], returnType := some .boolean }, accessFlags := 9, code := some k1c3 }
/-- com/example/harpocrates/harpocrates/data/TaxonomyFindPinLaw -/
def k1 : Class := { plain "com/example/harpocrates/harpocrates/data/TaxonomyFindPinLaw" (some 0) with
  accessFlags := 49
  interfaces := #[]
  cf := some (fileOf pool1 26 #[] #[{ accessFlags := 1, nameIndex := 5, descriptorIndex := 6, attributes := #[] }, { accessFlags := 10, nameIndex := 29, descriptorIndex := 30, attributes := #[] }, { accessFlags := 10, nameIndex := 33, descriptorIndex := 34, attributes := #[] }, { accessFlags := 9, nameIndex := 48, descriptorIndex := 49, attributes := #[] }] 49 2 #[] #[])
  fields := #[]
  methods := #[k1m0, k1m1, k1m2, k1m3]
  instanceTypes := #[]
  staticTypes := #[]
  resolved := Array.replicate 52 none
  statics := none }

def pool2 : Array CpInfo := pool [(1, .methodref 2 3), (0, .class_ 4), (0, .nameAndType 5 6), (0, u "java/lang/Object"), (0, u "<init>"), (0, u "()V"), (0, .class_ 8), (0, u "java/lang/Record")] 13

def k2c0 : Code := { maxStack := 1, maxLocals := 1, code := jdk_30_method_1_code, exceptionTable := #[], attributes := #[] }
def k2m0 : Method := { name := "<init>", desc := "()V", sig := { parameters := [], returnType := none }, accessFlags := 4, code := some k2c0 }
/-- java/lang/Record -/
def k2 : Class := { plain "java/lang/Record" (some 0) with
  accessFlags := 1057
  interfaces := #[]
  cf := some (fileOf pool2 7 #[] #[{ accessFlags := 4, nameIndex := 5, descriptorIndex := 6, attributes := #[] }] 1057 2 #[] #[])
  fields := #[]
  methods := #[k2m0]
  instanceTypes := #[]
  staticTypes := #[]
  resolved := Array.replicate 22 none
  statics := none }

def pool3 : Array CpInfo := pool [(1, .methodref 2 3), (0, .class_ 4), (0, .nameAndType 5 6), (0, u "java/lang/Record"), (0, u "<init>"), (0, u "()V"), (0, .string 8), (0, u "value"), (0, .methodref 10 11), (0, .class_ 12), (0, .nameAndType 13 14), (0, u "java/util/Objects"), (0, u "requireNonNull"), (0, u "(Ljava/lang/Object;Ljava/lang/String;)Ljava/lang/Object;"), (0, .methodref 16 17), (0, .class_ 18), (0, .nameAndType 19 20), (0, u "java/lang/String"), (0, u "isEmpty"), (0, u "()Z"), (7, .interfaceMethodref 29 30), (0, .class_ 31), (0, .nameAndType 32 33), (0, u "java/util/List"), (0, u "copyOf"), (0, u "(Ljava/util/Collection;)Ljava/util/List;"), (0, .fieldref 35 36), (0, .class_ 37), (0, .nameAndType 8 38), (0, u "com/example/harpocrates/harpocrates/data/Taxonomy"), (0, u "Ljava/lang/String;"), (0, .fieldref 35 40), (0, .nameAndType 41 42), (0, u "children"), (0, u "Ljava/util/List;"), (2, u "of"), (3, u "(Ljava/lang/String;Ljava/util/List;)V"), (11, .methodref 16 62), (0, .nameAndType 63 64), (0, u "equals"), (0, u "(Ljava/lang/Object;)Z"), (0, .methodref 66 67), (0, .class_ 68), (0, .nameAndType 45 69), (0, u "java/util/Optional"), (0, u "(Ljava/lang/Object;)Ljava/util/Optional;"), (0, .methodref 66 71), (0, .nameAndType 72 73), (0, u "empty"), (0, u "()Ljava/util/Optional;"), (0, .methodref 66 17), (0, .interfaceMethodref 29 76), (0, .nameAndType 77 78), (0, u "size"), (0, u "()I"), (0, .interfaceMethodref 29 80), (0, .nameAndType 81 82), (0, u "get"), (0, u "(I)Ljava/lang/Object;"), (0, .methodref 35 84), (0, .nameAndType 85 86), (0, u "find"), (0, u "(Ljava/lang/String;)Ljava/util/Optional;")] 67

def k3c0 : Code := { maxStack := 3, maxLocals := 3, code := prog_9_method_1_code, exceptionTable := #[], attributes := #[] }
def k3m0 : Method := { name := "<init>", desc := "(Ljava/lang/String;Ljava/util/List;)V", sig := { parameters := [(.object "java/lang/String"), (.object "java/util/List")], returnType := none }, accessFlags := 1, code := some k3c0 }
def k3c1 : Code := { maxStack := 2, maxLocals := 4, code := prog_9_method_6_code, exceptionTable := #[], attributes := #[] }
def k3m1 : Method := { name := "find", desc := "(Ljava/lang/String;)Ljava/util/Optional;", sig := { parameters := [(.object "java/lang/String")], returnType := some (.object "java/util/Optional") }, accessFlags := 1, code := some k3c1 }
/-- com/example/harpocrates/harpocrates/data/Taxonomy -/
def k3 : Class := { plain "com/example/harpocrates/harpocrates/data/Taxonomy" (some 2) with
  accessFlags := 49
  interfaces := #[]
  cf := some (fileOf pool3 35 #[] #[{ accessFlags := 1, nameIndex := 5, descriptorIndex := 49, attributes := #[] }, { accessFlags := 1, nameIndex := 85, descriptorIndex := 86, attributes := #[] }] 49 2 #[] #[{ accessFlags := 18, nameIndex := 8, descriptorIndex := 38, attributes := #[] }, { accessFlags := 18, nameIndex := 41, descriptorIndex := 42, attributes := #[] }])
  fields := #[{ name := "value", type := (.object "java/lang/String"), accessFlags := 18, slot := 0, constantValue := 0 }, { name := "children", type := (.object "java/util/List"), accessFlags := 18, slot := 1, constantValue := 0 }]
  methods := #[k3m0, k3m1]
  instanceTypes := #[(.object "java/lang/String"), (.object "java/util/List")]
  staticTypes := #[]
  resolved := Array.replicate 154 none
  statics := none }

def pool4 : Array CpInfo := pool [(1, .class_ 2), (0, u "java/io/Serializable"), (0, .class_ 4), (0, u "java/lang/Object")] 2

/-- java/io/Serializable -/
def k4 : Class := { plain "java/io/Serializable" (some 0) with
  accessFlags := 1537
  interfaces := #[]
  cf := some (fileOf pool4 1 #[] #[] 1537 3 #[] #[])
  fields := #[]
  methods := #[]
  instanceTypes := #[]
  staticTypes := #[]
  resolved := Array.replicate 7 none
  statics := none }

def pool5 : Array CpInfo := pool [(1, .class_ 2), (0, u "java/lang/Comparable"), (0, .class_ 4), (0, u "java/lang/Object")] 7

/-- java/lang/Comparable -/
def k5 : Class := { plain "java/lang/Comparable" (some 0) with
  accessFlags := 1537
  interfaces := #[]
  cf := some (fileOf pool5 1 #[] #[] 1537 3 #[] #[])
  fields := #[]
  methods := #[]
  instanceTypes := #[]
  staticTypes := #[]
  resolved := Array.replicate 12 none
  statics := none }

def pool6 : Array CpInfo := pool [(2, .class_ 4), (1, u "java/lang/CharSequence"), (42, .class_ 48), (0, u "java/lang/CharSequence$1CodePointIterator"), (10, .class_ 60), (0, u "java/lang/CharSequence$1CharIterator"), (5, .class_ 67), (0, u "java/lang/Object")] 63

/-- java/lang/CharSequence -/
def k6 : Class := { plain "java/lang/CharSequence" (some 0) with
  accessFlags := 1537
  interfaces := #[]
  cf := some (fileOf pool6 2 #[.nestMembers #[47, 59]] #[] 1537 66 #[] #[])
  fields := #[]
  methods := #[]
  instanceTypes := #[]
  staticTypes := #[]
  resolved := Array.replicate 131 none
  statics := none }

def pool7 : Array CpInfo := pool [(1, .class_ 2), (0, u "java/lang/constant/Constable"), (0, .class_ 4), (0, u "java/lang/Object")] 6

/-- java/lang/constant/Constable -/
def k7 : Class := { plain "java/lang/constant/Constable" (some 0) with
  accessFlags := 1537
  interfaces := #[]
  cf := some (fileOf pool7 1 #[] #[] 1537 3 #[] #[])
  fields := #[]
  methods := #[]
  instanceTypes := #[]
  staticTypes := #[]
  resolved := Array.replicate 11 none
  statics := none }

def pool8 : Array CpInfo := pool [(1, .class_ 2), (0, u "java/lang/constant/ConstantDesc"), (0, .class_ 4), (0, u "java/lang/Object")] 32

/-- java/lang/constant/ConstantDesc -/
def k8 : Class := { plain "java/lang/constant/ConstantDesc" (some 0) with
  accessFlags := 1537
  interfaces := #[]
  cf := some (fileOf pool8 1 #[] #[] 1537 3 #[] #[])
  fields := #[]
  methods := #[]
  instanceTypes := #[]
  staticTypes := #[]
  resolved := Array.replicate 37 none
  statics := none }

def pool9 : Array CpInfo := pool [(1, .methodref 2 3), (0, .class_ 4), (0, .nameAndType 5 6), (0, u "java/lang/Object"), (0, u "<init>"), (0, u "()V"), (2, .fieldref 10 11), (0, .class_ 12), (0, .nameAndType 13 14), (0, u "java/lang/String"), (0, u "value"), (0, u "[B"), (0, .fieldref 10 16), (0, .nameAndType 17 18), (0, u "coder"), (0, u "B"), (2, u "hash"), (0, u "I"), (2, u "hashIsZero"), (0, u "Z"), (11, .fieldref 10 39), (0, .nameAndType 40 26), (0, u "COMPACT_STRINGS"), (12, u "toBytes"), (53, .class_ 109), (1, u "java/lang/StringLatin1"), (32, u "()Z"), (66, .methodref 10 210), (0, .nameAndType 5 211), (0, u "([BB)V"), (157, u "(C)Z"), (171, .methodref 107 542), (0, .nameAndType 543 544), (0, u "equals"), (0, u "([B[B)Z"), (28, u "(Ljava/lang/Object;)Z"), (1, .class_ 576), (0, u "java/lang/CharSequence"), (22, u "CASE_INSENSITIVE_ORDER"), (0, u "Ljava/util/Comparator;"), (91, u "isEmpty"), (89, u "valueOf"), (0, u "(C)Ljava/lang/String;"), (231, .methodref 107 1016), (0, .nameAndType 1017 369), (0, u "canEncode"), (0, .methodref 107 1019), (0, .nameAndType 53 1020), (0, u "(C)[B"), (80, u "serialPersistentFields"), (0, u "[Ljava/io/ObjectStreamField;"), (0, .class_ 1104), (0, u "java/lang/String$CaseInsensitiveComparator"), (1, .class_ 1107), (0, u "java/io/Serializable"), (0, .class_ 1109), (0, u "java/lang/Comparable"), (0, .class_ 1111), (0, u "java/lang/constant/Constable"), (0, .class_ 1113), (0, u "java/lang/constant/ConstantDesc"), (2, u "serialVersionUID"), (0, u "J"), (3, u "REPL"), (0, u "C"), (2, u "LATIN1"), (1, u "UTF16")] 323

def k9m0 : Method := { name := "<init>", desc := "()V", sig := { parameters := [], returnType := none }, accessFlags := 1, code := none }
def k9c1 : Code := { maxStack := 1, maxLocals := 1, code := jdk_42_method_55_code, exceptionTable := #[], attributes := #[] }
def k9m1 : Method := { name := "isEmpty", desc := "()Z", sig := { parameters := [], returnType := some .boolean }, accessFlags := 1, code := some k9c1 }
def k9c2 : Code := { maxStack := 2, maxLocals := 3, code := jdk_42_method_66_code, exceptionTable := #[], attributes := #[] }
def k9m2 : Method := { name := "equals", desc := "(Ljava/lang/Object;)Z", sig := { parameters := [(.object "java/lang/Object")], returnType := some .boolean }, accessFlags := 1, code := some k9c2 }
def k9c3 : Code := { maxStack := 4, maxLocals := 1, code := jdk_42_method_139_code, exceptionTable := #[], attributes := #[] }
def k9m3 : Method := { name := "valueOf", desc := "(C)Ljava/lang/String;", sig := { parameters := [.char], returnType := some (.object "java/lang/String") }, accessFlags := 9, code := some k9c3 }
def k9c4 : Code := { maxStack := 2, maxLocals := 3, code := jdk_42_method_151_code, exceptionTable := #[], attributes := #[] }
def k9m4 : Method := { name := "<init>", desc := "([BB)V", sig := { parameters := [(.array .byte), .byte], returnType := none }, accessFlags := 0, code := some k9c4 }
/-- java/lang/String -/
def k9 : Class := { plain "java/lang/String" (some 0) with
  accessFlags := 49
  interfaces := #[4, 5, 6, 7, 8]
  cf := some (fileOf pool9 10 #[.nestMembers #[1103]] #[{ accessFlags := 1, nameIndex := 5, descriptorIndex := 6, attributes := #[] }, { accessFlags := 1, nameIndex := 692, descriptorIndex := 142, attributes := #[] }, { accessFlags := 1, nameIndex := 543, descriptorIndex := 573, attributes := #[] }, { accessFlags := 9, nameIndex := 782, descriptorIndex := 783, attributes := #[] }, { accessFlags := 0, nameIndex := 5, descriptorIndex := 211, attributes := #[] }] 49 2 #[1106, 1108, 575, 1110, 1112] #[{ accessFlags := 18, nameIndex := 13, descriptorIndex := 14, attributes := #[] }, { accessFlags := 18, nameIndex := 17, descriptorIndex := 18, attributes := #[] }, { accessFlags := 2, nameIndex := 21, descriptorIndex := 22, attributes := #[] }, { accessFlags := 2, nameIndex := 25, descriptorIndex := 26, attributes := #[] }, { accessFlags := 26, nameIndex := 1116, descriptorIndex := 1117, attributes := #[] }, { accessFlags := 24, nameIndex := 40, descriptorIndex := 26, attributes := #[] }, { accessFlags := 26, nameIndex := 1101, descriptorIndex := 1102, attributes := #[] }, { accessFlags := 26, nameIndex := 1121, descriptorIndex := 1122, attributes := #[] }, { accessFlags := 25, nameIndex := 599, descriptorIndex := 600, attributes := #[] }, { accessFlags := 24, nameIndex := 1125, descriptorIndex := 18, attributes := #[] }, { accessFlags := 24, nameIndex := 1127, descriptorIndex := 18, attributes := #[] }])
  fields := #[{ name := "value", type := (.array .byte), accessFlags := 18, slot := 0, constantValue := 0 }, { name := "coder", type := .byte, accessFlags := 18, slot := 1, constantValue := 0 }, { name := "hash", type := .int, accessFlags := 2, slot := 2, constantValue := 0 }, { name := "hashIsZero", type := .boolean, accessFlags := 2, slot := 3, constantValue := 0 }, { name := "serialVersionUID", type := .long, accessFlags := 26, slot := 0, constantValue := 0 }, { name := "COMPACT_STRINGS", type := .boolean, accessFlags := 24, slot := 1, constantValue := 0 }, { name := "serialPersistentFields", type := (.array (.object "java/io/ObjectStreamField")), accessFlags := 26, slot := 2, constantValue := 0 }, { name := "REPL", type := .char, accessFlags := 26, slot := 3, constantValue := 0 }, { name := "CASE_INSENSITIVE_ORDER", type := (.object "java/util/Comparator"), accessFlags := 25, slot := 4, constantValue := 0 }, { name := "LATIN1", type := .byte, accessFlags := 24, slot := 5, constantValue := 0 }, { name := "UTF16", type := .byte, accessFlags := 24, slot := 6, constantValue := 0 }]
  methods := #[k9m0, k9m1, k9m2, k9m3, k9m4]
  instanceTypes := #[(.array .byte), .byte, .int, .boolean]
  staticTypes := #[.long, .boolean, (.array (.object "java/io/ObjectStreamField")), .char, (.object "java/util/Comparator"), .byte, .byte]
  resolved := Array.replicate 1451 none
  statics := some 0 }

def pool10 : Array CpInfo := pool [(4, .class_ 6), (1, u "java/lang/Object"), (0, u "<init>"), (0, u "()V"), (5, .class_ 16), (1, u "java/lang/StringLatin1"), (73, u "canEncode"), (14, u "(C)Z"), (15, u "$assertionsDisabled"), (0, u "Z"), (98, .class_ 223), (1, u "java/lang/StringLatin1$LinesSpliterator"), (57, u "equals"), (0, u "([B[B)Z"), (97, u "toBytes"), (1, u "(C)[B"), (7, .class_ 391), (0, u "java/lang/StringLatin1$CharsSpliterator")] 3

def k10m0 : Method := { name := "<init>", desc := "()V", sig := { parameters := [], returnType := none }, accessFlags := 0, code := none }
def k10c1 : Code := { maxStack := 2, maxLocals := 1, code := jdk_43_method_3_code, exceptionTable := #[], attributes := #[] }
def k10m1 : Method := { name := "canEncode", desc := "(C)Z", sig := { parameters := [.char], returnType := some .boolean }, accessFlags := 9, code := some k10c1 }
def k10c2 : Code := { maxStack := 3, maxLocals := 3, code := jdk_43_method_13_code, exceptionTable := #[], attributes := #[] }
def k10m2 : Method := { name := "equals", desc := "([B[B)Z", sig := { parameters := [(.array .byte), (.array .byte)], returnType := some .boolean }, accessFlags := 9, code := some k10c2 }
def k10c3 : Code := { maxStack := 4, maxLocals := 1, code := jdk_43_method_46_code, exceptionTable := #[], attributes := #[] }
def k10m3 : Method := { name := "toBytes", desc := "(C)[B", sig := { parameters := [.char], returnType := some (.array .byte) }, accessFlags := 9, code := some k10c3 }
/-- java/lang/StringLatin1 -/
def k10 : Class := { plain "java/lang/StringLatin1" (some 0) with
  accessFlags := 48
  interfaces := #[]
  cf := some (fileOf pool10 14 #[.nestMembers #[390, 221]] #[{ accessFlags := 0, nameIndex := 7, descriptorIndex := 8, attributes := #[] }, { accessFlags := 9, nameIndex := 90, descriptorIndex := 105, attributes := #[] }, { accessFlags := 9, nameIndex := 281, descriptorIndex := 282, attributes := #[] }, { accessFlags := 9, nameIndex := 380, descriptorIndex := 382, attributes := #[] }] 48 4 #[] #[{ accessFlags := 4120, nameIndex := 121, descriptorIndex := 122, attributes := #[] }])
  fields := #[{ name := "$assertionsDisabled", type := .boolean, accessFlags := 4120, slot := 0, constantValue := 0 }]
  methods := #[k10m0, k10m1, k10m2, k10m3]
  instanceTypes := #[]
  staticTypes := #[.boolean]
  resolved := Array.replicate 395 none
  statics := none }

def pool11 : Array CpInfo := pool [(8, .class_ 10), (1, u "java/lang/Iterable"), (24, .class_ 36), (0, u "java/lang/Object")] 25

/-- java/lang/Iterable -/
def k11 : Class := { plain "java/lang/Iterable" (some 0) with
  accessFlags := 1537
  interfaces := #[]
  cf := some (fileOf pool11 8 #[] #[] 1537 35 #[] #[])
  fields := #[]
  methods := #[]
  instanceTypes := #[]
  staticTypes := #[]
  resolved := Array.replicate 62 none
  statics := none }

def pool12 : Array CpInfo := pool [(10, .class_ 12), (1, u "java/util/Collection"), (0, u "toArray"), (16, u "()Z"), (29, .class_ 61), (0, u "java/lang/Object"), (0, .class_ 63), (0, u "java/lang/Iterable"), (2, u "isEmpty"), (3, u "()[Ljava/lang/Object;")] 44

def k12m0 : Method := { name := "isEmpty", desc := "()Z", sig := { parameters := [], returnType := some .boolean }, accessFlags := 1025, code := none }
def k12m1 : Method := { name := "toArray", desc := "()[Ljava/lang/Object;", sig := { parameters := [], returnType := some (.array (.object "java/lang/Object")) }, accessFlags := 1025, code := none }
/-- java/util/Collection -/
def k12 : Class := { plain "java/util/Collection" (some 0) with
  accessFlags := 1537
  interfaces := #[11]
  cf := some (fileOf pool12 10 #[] #[{ accessFlags := 1025, nameIndex := 66, descriptorIndex := 30, attributes := #[] }, { accessFlags := 1025, nameIndex := 13, descriptorIndex := 70, attributes := #[] }] 1537 60 #[62] #[])
  fields := #[]
  methods := #[k12m0, k12m1]
  instanceTypes := #[]
  staticTypes := #[]
  resolved := Array.replicate 115 none
  statics := none }

def pool13 : Array CpInfo := pool [(1, .methodref 2 3), (0, .class_ 4), (0, .nameAndType 5 6), (0, u "java/lang/Object"), (0, u "<init>"), (0, u "()V"), (1, .class_ 10), (1, u "java/util/AbstractCollection"), (66, .class_ 78), (0, u "java/util/Collection")] 81

def k13c0 : Code := { maxStack := 1, maxLocals := 1, code := jdk_22_method_1_code, exceptionTable := #[], attributes := #[] }
def k13m0 : Method := { name := "<init>", desc := "()V", sig := { parameters := [], returnType := none }, accessFlags := 4, code := some k13c0 }
/-- java/util/AbstractCollection -/
def k13 : Class := { plain "java/util/AbstractCollection" (some 0) with
  accessFlags := 1057
  interfaces := #[12]
  cf := some (fileOf pool13 8 #[] #[{ accessFlags := 4, nameIndex := 5, descriptorIndex := 6, attributes := #[] }] 1057 2 #[77] #[])
  fields := #[]
  methods := #[k13m0]
  instanceTypes := #[]
  staticTypes := #[]
  resolved := Array.replicate 160 none
  statics := none }

def pool14 : Array CpInfo := pool [(8, .class_ 10), (1, u "java/util/SequencedCollection"), (15, .class_ 27), (0, u "java/lang/Object"), (0, .class_ 29), (0, u "java/util/Collection")] 27

/-- java/util/SequencedCollection -/
def k14 : Class := { plain "java/util/SequencedCollection" (some 0) with
  accessFlags := 1537
  interfaces := #[12]
  cf := some (fileOf pool14 8 #[] #[] 1537 26 #[28] #[])
  fields := #[]
  methods := #[]
  instanceTypes := #[]
  staticTypes := #[]
  resolved := Array.replicate 57 none
  statics := none }

def pool15 : Array CpInfo := pool [(8, .class_ 10), (1, u "java/util/List"), (20, u "(Ljava/lang/Object;)V"), (16, u "<init>"), (26, u "get"), (0, u "(I)Ljava/lang/Object;"), (2, u "size"), (0, u "()I"), (7, u "of"), (1, .fieldref 91 92), (0, .class_ 93), (0, .nameAndType 94 95), (0, u "java/util/ImmutableCollections"), (0, u "EMPTY_LIST"), (0, u "Ljava/util/ImmutableCollections$ListN;"), (0, .class_ 97), (0, u "java/util/ImmutableCollections$List12"), (0, .methodref 96 99), (0, .nameAndType 48 31), (0, .methodref 96 101), (0, .nameAndType 48 102), (0, u "(Ljava/lang/Object;Ljava/lang/Object;)V"), (0, .class_ 104), (0, u "java/lang/Object"), (3, u "([Ljava/lang/Object;)Ljava/util/List;"), (3, .methodref 91 113), (0, .nameAndType 114 115), (0, u "listCopy"), (0, u "(Ljava/util/Collection;)Ljava/util/List;"), (3, u "()Ljava/util/List;"), (0, .class_ 121), (0, u "java/util/SequencedCollection"), (112, u "copyOf")] 16

def k15m0 : Method := { name := "size", desc := "()I", sig := { parameters := [], returnType := some .int }, accessFlags := 1025, code := none }
def k15m1 : Method := { name := "get", desc := "(I)Ljava/lang/Object;", sig := { parameters := [.int], returnType := some (.object "java/lang/Object") }, accessFlags := 1025, code := none }
def k15c2 : Code := { maxStack := 1, maxLocals := 0, code := jdk_40_method_36_code, exceptionTable := #[], attributes := #[] }
def k15m2 : Method := { name := "of", desc := "()Ljava/util/List;", sig := { parameters := [], returnType := some (.object "java/util/List") }, accessFlags := 9, code := some k15c2 }
def k15c3 : Code := { maxStack := 5, maxLocals := 2, code := jdk_40_method_47_code, exceptionTable := #[], attributes := #[] }
def k15m3 : Method := { name := "of", desc := "([Ljava/lang/Object;)Ljava/util/List;", sig := { parameters := [(.array (.object "java/lang/Object"))], returnType := some (.object "java/util/List") }, accessFlags := 137, code := some k15c3 }
def k15c4 : Code := { maxStack := 1, maxLocals := 1, code := jdk_40_method_48_code, exceptionTable := #[], attributes := #[] }
def k15m4 : Method := { name := "copyOf", desc := "(Ljava/util/Collection;)Ljava/util/List;", sig := { parameters := [(.object "java/util/Collection")], returnType := some (.object "java/util/List") }, accessFlags := 9, code := some k15c4 }
/-- java/util/List -/
def k15 : Class := { plain "java/util/List" (some 0) with
  accessFlags := 1537
  interfaces := #[14]
  cf := some (fileOf pool15 8 #[] #[{ accessFlags := 1025, nameIndex := 79, descriptorIndex := 80, attributes := #[] }, { accessFlags := 1025, nameIndex := 75, descriptorIndex := 76, attributes := #[] }, { accessFlags := 9, nameIndex := 88, descriptorIndex := 119, attributes := #[] }, { accessFlags := 137, nameIndex := 88, descriptorIndex := 108, attributes := #[] }, { accessFlags := 9, nameIndex := 234, descriptorIndex := 115, attributes := #[] }] 1537 103 #[120] #[])
  fields := #[]
  methods := #[k15m0, k15m1, k15m2, k15m3, k15m4]
  instanceTypes := #[]
  staticTypes := #[]
  resolved := Array.replicate 251 none
  statics := none }

def pool16 : Array CpInfo := pool [(1, .methodref 2 3), (0, .class_ 4), (0, .nameAndType 5 6), (0, u "java/util/AbstractCollection"), (0, u "<init>"), (0, u "()V"), (0, .fieldref 8 9), (0, .class_ 10), (0, .nameAndType 11 12), (0, u "java/util/AbstractList"), (0, u "modCount"), (0, u "I"), (64, .class_ 78), (0, u "java/util/AbstractList$Itr"), (3, .class_ 83), (0, u "java/util/AbstractList$ListItr"), (9, .class_ 94), (0, u "java/util/AbstractList$RandomAccessSubList"), (3, .class_ 99), (0, u "java/util/AbstractList$SubList"), (33, .class_ 134), (0, u "java/util/List"), (73, .class_ 209), (0, u "java/util/AbstractList$SubList$1"), (0, .class_ 211), (0, u "java/util/AbstractList$RandomAccessSpliterator")] 6

def k16c0 : Code := { maxStack := 2, maxLocals := 1, code := jdk_39_method_1_code, exceptionTable := #[], attributes := #[] }
def k16m0 : Method := { name := "<init>", desc := "()V", sig := { parameters := [], returnType := none }, accessFlags := 4, code := some k16c0 }
/-- java/util/AbstractList -/
def k16 : Class := { plain "java/util/AbstractList" (some 13) with
  accessFlags := 1057
  interfaces := #[15]
  cf := some (fileOf pool16 8 #[.nestMembers #[93, 98, 208, 210, 82, 77]] #[{ accessFlags := 4, nameIndex := 5, descriptorIndex := 6, attributes := #[] }] 1057 2 #[133] #[{ accessFlags := 132, nameIndex := 11, descriptorIndex := 12, attributes := #[] }])
  fields := #[{ name := "modCount", type := .int, accessFlags := 132, slot := 0, constantValue := 0 }]
  methods := #[k16m0]
  instanceTypes := #[.int]
  staticTypes := #[]
  resolved := Array.replicate 218 none
  statics := none }

def pool17 : Array CpInfo := pool [(1, .class_ 2), (0, u "java/util/RandomAccess"), (0, .class_ 4), (0, u "java/lang/Object")] 2

/-- java/util/RandomAccess -/
def k17 : Class := { plain "java/util/RandomAccess" (some 0) with
  accessFlags := 1537
  interfaces := #[]
  cf := some (fileOf pool17 1 #[] #[] 1537 3 #[] #[])
  fields := #[]
  methods := #[]
  instanceTypes := #[]
  staticTypes := #[]
  resolved := Array.replicate 7 none
  statics := none }

def pool18 : Array CpInfo := pool [(1, .class_ 2), (0, u "java/lang/Cloneable"), (0, .class_ 4), (0, u "java/lang/Object")] 2

/-- java/lang/Cloneable -/
def k18 : Class := { plain "java/lang/Cloneable" (some 0) with
  accessFlags := 1537
  interfaces := #[]
  cf := some (fileOf pool18 1 #[] #[] 1537 3 #[] #[])
  fields := #[]
  methods := #[]
  instanceTypes := #[]
  staticTypes := #[]
  resolved := Array.replicate 7 none
  statics := none }

def pool19 : Array CpInfo := pool [(1, .methodref 2 3), (0, .class_ 4), (0, .nameAndType 5 6), (0, u "java/util/AbstractList"), (0, u "<init>"), (0, u "()V"), (0, .class_ 8), (0, u "java/lang/Object"), (0, .fieldref 10 11), (0, .class_ 12), (0, .nameAndType 13 14), (0, u "java/util/ArrayList"), (0, u "elementData"), (0, u "[Ljava/lang/Object;"), (2, u "EMPTY_ELEMENTDATA"), (21, .fieldref 10 40), (0, .nameAndType 41 14), (0, u "DEFAULTCAPACITY_EMPTY_ELEMENTDATA"), (4, u "toArray"), (0, u "()[Ljava/lang/Object;"), (0, .fieldref 10 49), (0, .nameAndType 50 51), (0, u "size"), (0, u "I"), (6, .class_ 60), (1, u "java/util/Arrays"), (0, u "copyOf"), (1, .fieldref 10 64), (0, .nameAndType 65 51), (0, u "modCount"), (0, .methodref 58 67), (0, .nameAndType 61 68), (0, u "([Ljava/lang/Object;I)[Ljava/lang/Object;"), (0, .methodref 10 70), (0, .nameAndType 71 72), (0, u "grow"), (0, u "(I)[Ljava/lang/Object;"), (6, .methodref 80 81), (0, .class_ 82), (0, .nameAndType 83 84), (0, u "java/lang/Math"), (0, u "max"), (0, u "(II)I"), (11, u "(Ljava/lang/Object;)Z"), (32, .methodref 10 130), (0, .nameAndType 71 47), (0, .methodref 10 132), (0, .nameAndType 133 134), (0, u "add"), (0, u "(Ljava/lang/Object;[Ljava/lang/Object;I)V"), (13, .class_ 149), (0, u "java/util/List"), (23, u "()Z"), (88, .class_ 263), (0, u "java/util/ArrayList$ListItr"), (3, .class_ 268), (0, u "java/util/ArrayList$Itr"), (7, .class_ 277), (0, u "java/util/ArrayList$SubList"), (12, .class_ 291), (0, u "java/util/ArrayList$ArrayListSpliterator"), (37, .class_ 330), (0, u "java/util/RandomAccess"), (0, .class_ 332), (0, u "java/lang/Cloneable"), (0, .class_ 334), (0, u "java/io/Serializable"), (0, u "serialVersionUID"), (0, u "J"), (3, u "DEFAULT_CAPACITY"), (22, u "isEmpty"), (136, .class_ 501), (0, u "java/util/ArrayList$SubList$2"), (0, .class_ 503), (0, u "java/util/ArrayList$SubList$1")] 5

def k19c0 : Code := { maxStack := 2, maxLocals := 1, code := jdk_38_method_2_code, exceptionTable := #[], attributes := #[] }
def k19m0 : Method := { name := "<init>", desc := "()V", sig := { parameters := [], returnType := none }, accessFlags := 1, code := some k19c0 }
def k19c1 : Code := { maxStack := 4, maxLocals := 4, code := jdk_38_method_6_code, exceptionTable := #[], attributes := #[] }
def k19m1 : Method := { name := "grow", desc := "(I)[Ljava/lang/Object;", sig := { parameters := [.int], returnType := some (.array (.object "java/lang/Object")) }, accessFlags := 2, code := some k19c1 }
def k19c2 : Code := { maxStack := 3, maxLocals := 1, code := jdk_38_method_7_code, exceptionTable := #[], attributes := #[] }
def k19m2 : Method := { name := "grow", desc := "()[Ljava/lang/Object;", sig := { parameters := [], returnType := some (.array (.object "java/lang/Object")) }, accessFlags := 2, code := some k19c2 }
def k19c3 : Code := { maxStack := 1, maxLocals := 1, code := jdk_38_method_9_code, exceptionTable := #[], attributes := #[] }
def k19m3 : Method := { name := "isEmpty", desc := "()Z", sig := { parameters := [], returnType := some .boolean }, accessFlags := 1, code := some k19c3 }
def k19c4 : Code := { maxStack := 2, maxLocals := 1, code := jdk_38_method_16_code, exceptionTable := #[], attributes := #[] }
def k19m4 : Method := { name := "toArray", desc := "()[Ljava/lang/Object;", sig := { parameters := [], returnType := some (.array (.object "java/lang/Object")) }, accessFlags := 1, code := some k19c4 }
def k19c5 : Code := { maxStack := 3, maxLocals := 4, code := jdk_38_method_24_code, exceptionTable := #[], attributes := #[] }
def k19m5 : Method := { name := "add", desc := "(Ljava/lang/Object;[Ljava/lang/Object;I)V", sig := { parameters := [(.object "java/lang/Object"), (.array (.object "java/lang/Object")), .int], returnType := none }, accessFlags := 2, code := some k19c5 }
def k19c6 : Code := { maxStack := 4, maxLocals := 2, code := jdk_38_method_25_code, exceptionTable := #[], attributes := #[] }
def k19m6 : Method := { name := "add", desc := "(Ljava/lang/Object;)Z", sig := { parameters := [(.object "java/lang/Object")], returnType := some .boolean }, accessFlags := 1, code := some k19c6 }
/-- java/util/ArrayList -/
def k19 : Class := { plain "java/util/ArrayList" (some 16) with
  accessFlags := 33
  interfaces := #[15, 17, 18, 4]
  cf := some (fileOf pool19 10 #[.nestMembers #[290, 276, 500, 502, 262, 267]] #[{ accessFlags := 1, nameIndex := 5, descriptorIndex := 6, attributes := #[] }, { accessFlags := 2, nameIndex := 71, descriptorIndex := 72, attributes := #[] }, { accessFlags := 2, nameIndex := 71, descriptorIndex := 47, attributes := #[] }, { accessFlags := 1, nameIndex := 363, descriptorIndex := 173, attributes := #[] }, { accessFlags := 1, nameIndex := 46, descriptorIndex := 47, attributes := #[] }, { accessFlags := 2, nameIndex := 133, descriptorIndex := 134, attributes := #[] }, { accessFlags := 1, nameIndex := 133, descriptorIndex := 96, attributes := #[] }] 33 2 #[148, 329, 331, 333] #[{ accessFlags := 26, nameIndex := 335, descriptorIndex := 336, attributes := #[] }, { accessFlags := 26, nameIndex := 340, descriptorIndex := 51, attributes := #[] }, { accessFlags := 26, nameIndex := 17, descriptorIndex := 14, attributes := #[] }, { accessFlags := 26, nameIndex := 41, descriptorIndex := 14, attributes := #[] }, { accessFlags := 128, nameIndex := 13, descriptorIndex := 14, attributes := #[] }, { accessFlags := 2, nameIndex := 50, descriptorIndex := 51, attributes := #[] }])
  fields := #[{ name := "serialVersionUID", type := .long, accessFlags := 26, slot := 0, constantValue := 0 }, { name := "DEFAULT_CAPACITY", type := .int, accessFlags := 26, slot := 1, constantValue := 0 }, { name := "EMPTY_ELEMENTDATA", type := (.array (.object "java/lang/Object")), accessFlags := 26, slot := 2, constantValue := 0 }, { name := "DEFAULTCAPACITY_EMPTY_ELEMENTDATA", type := (.array (.object "java/lang/Object")), accessFlags := 26, slot := 3, constantValue := 0 }, { name := "elementData", type := (.array (.object "java/lang/Object")), accessFlags := 128, slot := 1, constantValue := 0 }, { name := "size", type := .int, accessFlags := 2, slot := 2, constantValue := 0 }]
  methods := #[k19m0, k19m1, k19m2, k19m3, k19m4, k19m5, k19m6]
  instanceTypes := #[.int, (.array (.object "java/lang/Object")), .int]
  staticTypes := #[.long, .int, (.array (.object "java/lang/Object")), (.array (.object "java/lang/Object"))]
  resolved := Array.replicate 509 none
  statics := some 1 }

def pool20 : Array CpInfo := pool [(2, .class_ 4), (1, u "java/lang/Object"), (0, u "<init>"), (0, u "()V"), (35, .class_ 44), (1, u "java/util/Objects"), (0, u "requireNonNull"), (0, u "(Ljava/lang/Object;)Ljava/lang/Object;"), (47, u "(Ljava/lang/Object;Ljava/lang/String;)Ljava/lang/Object;")] 89

def k20m0 : Method := { name := "<init>", desc := "()V", sig := { parameters := [], returnType := none }, accessFlags := 2, code := none }
def k20c1 : Code := { maxStack := 2, maxLocals := 1, code := jdk_31_method_10_code, exceptionTable := #[], attributes := #[] }
def k20m1 : Method := { name := "requireNonNull", desc := "(Ljava/lang/Object;)Ljava/lang/Object;", sig := { parameters := [(.object "java/lang/Object")], returnType := some (.object "java/lang/Object") }, accessFlags := 9, code := some k20c1 }
def k20c2 : Code := { maxStack := 3, maxLocals := 2, code := jdk_31_method_11_code, exceptionTable := #[], attributes := #[] }
def k20m2 : Method := { name := "requireNonNull", desc := "(Ljava/lang/Object;Ljava/lang/String;)Ljava/lang/Object;", sig := { parameters := [(.object "java/lang/Object"), (.object "java/lang/String")], returnType := some (.object "java/lang/Object") }, accessFlags := 9, code := some k20c2 }
/-- java/util/Objects -/
def k20 : Class := { plain "java/util/Objects" (some 0) with
  accessFlags := 49
  interfaces := #[]
  cf := some (fileOf pool20 42 #[] #[{ accessFlags := 2, nameIndex := 5, descriptorIndex := 6, attributes := #[] }, { accessFlags := 9, nameIndex := 45, descriptorIndex := 46, attributes := #[] }, { accessFlags := 9, nameIndex := 45, descriptorIndex := 94, attributes := #[] }] 49 2 #[] #[])
  fields := #[]
  methods := #[k20m0, k20m1, k20m2]
  instanceTypes := #[]
  staticTypes := #[]
  resolved := Array.replicate 184 none
  statics := none }

def pool21 : Array CpInfo := pool [(2, .class_ 4), (1, u "java/lang/Object"), (0, u "<init>"), (0, u "()V"), (3, .class_ 11), (0, u "java/util/ImmutableCollections$List12"), (0, .class_ 13), (0, u "java/util/ImmutableCollections$ListN"), (3, u "Z"), (0, .class_ 19), (0, u "java/util/List"), (0, .interfaceMethodref 21 22), (0, .class_ 23), (0, .nameAndType 24 25), (0, u "java/util/Collection"), (0, u "isEmpty"), (0, u "()Z"), (0, .interfaceMethodref 18 27), (0, .nameAndType 28 29), (0, u "of"), (0, u "()Ljava/util/List;"), (0, .interfaceMethodref 21 31), (0, .nameAndType 32 33), (0, u "toArray"), (0, u "()[Ljava/lang/Object;"), (0, .interfaceMethodref 18 35), (0, .nameAndType 28 36), (0, u "([Ljava/lang/Object;)Ljava/util/List;"), (10, .class_ 49), (1, u "java/util/ImmutableCollections"), (0, u "$assertionsDisabled"), (5, u "[Ljava/lang/Object;"), (5, u "EMPTY_LIST"), (0, u "Ljava/util/ImmutableCollections$ListN;"), (8, u "EMPTY_LIST_NULLS"), (22, u "SALT32L"), (0, u "J"), (2, u "REVERSE"), (6, u "archivedObjects"), (2, u "EMPTY"), (0, u "Ljava/lang/Object;"), (0, .class_ 112), (0, u "java/util/ImmutableCollections$SetN"), (5, u "EMPTY_SET"), (0, u "Ljava/util/ImmutableCollections$SetN;"), (0, .class_ 121), (0, u "java/util/ImmutableCollections$MapN"), (3, u "EMPTY_MAP"), (0, u "Ljava/util/ImmutableCollections$MapN;"), (4, u "EXPAND_FACTOR"), (0, u "I"), (9, u "listCopy"), (0, u "(Ljava/util/Collection;)Ljava/util/List;"), (25, .class_ 170), (0, u "java/util/ImmutableCollections$MapN$MapNIterator"), (0, .class_ 172), (0, u "java/util/ImmutableCollections$MapN$1"), (0, .class_ 174), (0, u "java/util/ImmutableCollections$Map1"), (0, .class_ 176), (0, u "java/util/ImmutableCollections$AbstractImmutableMap"), (0, .class_ 178), (0, u "java/util/ImmutableCollections$SetN$SetNIterator"), (0, .class_ 180), (0, u "java/util/ImmutableCollections$Set12"), (0, .class_ 182), (0, u "java/util/ImmutableCollections$Set12$1"), (0, .class_ 184), (0, u "java/util/ImmutableCollections$AbstractImmutableSet"), (0, .class_ 186), (0, u "java/util/ImmutableCollections$SubList"), (0, .class_ 188), (0, u "java/util/ImmutableCollections$ListItr"), (0, .class_ 190), (0, u "java/util/ImmutableCollections$AbstractImmutableList"), (0, .class_ 192), (0, u "java/util/ImmutableCollections$AbstractImmutableCollection"), (0, .class_ 194), (0, u "java/util/ImmutableCollections$Access"), (0, .class_ 196), (0, u "java/util/ImmutableCollections$Access$1")] 16

def k21m0 : Method := { name := "<init>", desc := "()V", sig := { parameters := [], returnType := none }, accessFlags := 2, code := none }
def k21c1 : Code := { maxStack := 1, maxLocals := 2, code := jdk_56_method_3_code, exceptionTable := #[], attributes := #[] }
def k21m1 : Method := { name := "listCopy", desc := "(Ljava/util/Collection;)Ljava/util/List;", sig := { parameters := [(.object "java/util/Collection")], returnType := some (.object "java/util/List") }, accessFlags := 8, code := some k21c1 }
/-- java/util/ImmutableCollections -/
def k21 : Class := { plain "java/util/ImmutableCollections" (some 0) with
  accessFlags := 32
  interfaces := #[]
  cf := some (fileOf pool21 47 #[.nestMembers #[120, 169, 171, 173, 175, 111, 177, 179, 181, 183, 12, 10, 185, 187, 189, 191, 193, 195]] #[{ accessFlags := 2, nameIndex := 5, descriptorIndex := 6, attributes := #[] }, { accessFlags := 8, nameIndex := 142, descriptorIndex := 143, attributes := #[] }] 32 2 #[] #[{ accessFlags := 26, nameIndex := 95, descriptorIndex := 96, attributes := #[] }, { accessFlags := 26, nameIndex := 99, descriptorIndex := 17, attributes := #[] }, { accessFlags := 10, nameIndex := 106, descriptorIndex := 56, attributes := #[] }, { accessFlags := 26, nameIndex := 109, descriptorIndex := 110, attributes := #[] }, { accessFlags := 24, nameIndex := 62, descriptorIndex := 63, attributes := #[] }, { accessFlags := 24, nameIndex := 72, descriptorIndex := 63, attributes := #[] }, { accessFlags := 24, nameIndex := 118, descriptorIndex := 119, attributes := #[] }, { accessFlags := 24, nameIndex := 125, descriptorIndex := 126, attributes := #[] }, { accessFlags := 24, nameIndex := 131, descriptorIndex := 132, attributes := #[] }, { accessFlags := 4120, nameIndex := 50, descriptorIndex := 17, attributes := #[] }])
  fields := #[{ name := "SALT32L", type := .long, accessFlags := 26, slot := 0, constantValue := 0 }, { name := "REVERSE", type := .boolean, accessFlags := 26, slot := 1, constantValue := 0 }, { name := "archivedObjects", type := (.array (.object "java/lang/Object")), accessFlags := 10, slot := 2, constantValue := 0 }, { name := "EMPTY", type := (.object "java/lang/Object"), accessFlags := 26, slot := 3, constantValue := 0 }, { name := "EMPTY_LIST", type := (.object "java/util/ImmutableCollections$ListN"), accessFlags := 24, slot := 4, constantValue := 0 }, { name := "EMPTY_LIST_NULLS", type := (.object "java/util/ImmutableCollections$ListN"), accessFlags := 24, slot := 5, constantValue := 0 }, { name := "EMPTY_SET", type := (.object "java/util/ImmutableCollections$SetN"), accessFlags := 24, slot := 6, constantValue := 0 }, { name := "EMPTY_MAP", type := (.object "java/util/ImmutableCollections$MapN"), accessFlags := 24, slot := 7, constantValue := 0 }, { name := "EXPAND_FACTOR", type := .int, accessFlags := 24, slot := 8, constantValue := 0 }, { name := "$assertionsDisabled", type := .boolean, accessFlags := 4120, slot := 9, constantValue := 0 }]
  methods := #[k21m0, k21m1]
  instanceTypes := #[]
  staticTypes := #[.long, .boolean, (.array (.object "java/lang/Object")), (.object "java/lang/Object"), (.object "java/util/ImmutableCollections$ListN"), (.object "java/util/ImmutableCollections$ListN"), (.object "java/util/ImmutableCollections$SetN"), (.object "java/util/ImmutableCollections$MapN"), .int, .boolean]
  resolved := Array.replicate 213 none
  statics := some 2 }

def pool22 : Array CpInfo := pool [(1, .methodref 2 3), (0, .class_ 4), (0, .nameAndType 5 6), (0, u "java/util/AbstractCollection"), (0, u "<init>"), (0, u "()V"), (1, .class_ 10), (1, u "java/util/ImmutableCollections"), (2, .class_ 14), (0, u "java/util/ImmutableCollections$AbstractImmutableCollection")] 41

def k22c0 : Code := { maxStack := 1, maxLocals := 1, code := jdk_47_method_1_code, exceptionTable := #[], attributes := #[] }
def k22m0 : Method := { name := "<init>", desc := "()V", sig := { parameters := [], returnType := none }, accessFlags := 0, code := some k22c0 }
/-- java/util/ImmutableCollections$AbstractImmutableCollection -/
def k22 : Class := { plain "java/util/ImmutableCollections$AbstractImmutableCollection" (some 13) with
  accessFlags := 1056
  interfaces := #[]
  cf := some (fileOf pool22 13 #[.nestHost 8] #[{ accessFlags := 0, nameIndex := 5, descriptorIndex := 6, attributes := #[] }] 1056 2 #[] #[])
  fields := #[]
  methods := #[k22m0]
  instanceTypes := #[]
  staticTypes := #[]
  resolved := Array.replicate 56 none
  statics := none }

def pool23 : Array CpInfo := pool [(1, .methodref 2 3), (0, .class_ 4), (0, .nameAndType 5 6), (0, u "java/util/ImmutableCollections$AbstractImmutableCollection"), (0, u "<init>"), (0, u "()V"), (1, .class_ 10), (1, u "java/util/ImmutableCollections"), (3, .class_ 16), (1, u "java/util/ImmutableCollections$AbstractImmutableList"), (60, .class_ 78), (0, u "java/util/List"), (45, .class_ 125), (0, u "java/util/RandomAccess")] 70

def k23c0 : Code := { maxStack := 1, maxLocals := 1, code := jdk_46_method_1_code, exceptionTable := #[], attributes := #[] }
def k23m0 : Method := { name := "<init>", desc := "()V", sig := { parameters := [], returnType := none }, accessFlags := 0, code := some k23c0 }
/-- java/util/ImmutableCollections$AbstractImmutableList -/
def k23 : Class := { plain "java/util/ImmutableCollections$AbstractImmutableList" (some 22) with
  accessFlags := 1056
  interfaces := #[15, 17]
  cf := some (fileOf pool23 14 #[.nestHost 8] #[{ accessFlags := 0, nameIndex := 5, descriptorIndex := 6, attributes := #[] }] 1056 2 #[77, 124] #[])
  fields := #[]
  methods := #[k23m0]
  instanceTypes := #[]
  staticTypes := #[]
  resolved := Array.replicate 196 none
  statics := none }

def pool24 : Array CpInfo := pool [(1, .methodref 2 3), (0, .class_ 4), (0, .nameAndType 5 6), (0, u "java/util/ImmutableCollections$AbstractImmutableList"), (0, u "<init>"), (0, u "()V"), (0, .methodref 8 9), (0, .class_ 10), (0, .nameAndType 11 12), (0, u "java/util/Objects"), (0, u "requireNonNull"), (0, u "(Ljava/lang/Object;)Ljava/lang/Object;"), (0, .fieldref 14 15), (0, .class_ 16), (0, .nameAndType 17 18), (0, u "java/util/ImmutableCollections$List12"), (0, u "e0"), (0, u "Ljava/lang/Object;"), (0, .fieldref 20 21), (0, .class_ 22), (0, .nameAndType 23 18), (0, u "java/util/ImmutableCollections"), (0, u "EMPTY"), (0, .fieldref 14 25), (0, .nameAndType 26 18), (0, u "e1"), (24, u "size"), (0, u "()I"), (17, .class_ 71), (0, u "java/io/Serializable"), (4, u "(Ljava/lang/Object;)V"), (8, u "(Ljava/lang/Object;Ljava/lang/Object;)V"), (4, u "get"), (0, u "(I)Ljava/lang/Object;")] 33

def k24c0 : Code := { maxStack := 2, maxLocals := 2, code := jdk_44_method_1_code, exceptionTable := #[], attributes := #[] }
def k24m0 : Method := { name := "<init>", desc := "(Ljava/lang/Object;)V", sig := { parameters := [(.object "java/lang/Object")], returnType := none }, accessFlags := 0, code := some k24c0 }
def k24c1 : Code := { maxStack := 2, maxLocals := 3, code := jdk_44_method_2_code, exceptionTable := #[], attributes := #[] }
def k24m1 : Method := { name := "<init>", desc := "(Ljava/lang/Object;Ljava/lang/Object;)V", sig := { parameters := [(.object "java/lang/Object"), (.object "java/lang/Object")], returnType := none }, accessFlags := 0, code := some k24c1 }
def k24c2 : Code := { maxStack := 2, maxLocals := 1, code := jdk_44_method_3_code, exceptionTable := #[], attributes := #[] }
def k24m2 : Method := { name := "size", desc := "()I", sig := { parameters := [], returnType := some .int }, accessFlags := 1, code := some k24c2 }
def k24c3 : Code := { maxStack := 2, maxLocals := 2, code := jdk_44_method_5_code, exceptionTable := #[], attributes := #[] }
def k24m3 : Method := { name := "get", desc := "(I)Ljava/lang/Object;", sig := { parameters := [.int], returnType := some (.object "java/lang/Object") }, accessFlags := 1, code := some k24c3 }
/-- java/util/ImmutableCollections$List12 -/
def k24 : Class := { plain "java/util/ImmutableCollections$List12" (some 23) with
  accessFlags := 48
  interfaces := #[4]
  cf := some (fileOf pool24 14 #[.nestHost 20] #[{ accessFlags := 0, nameIndex := 5, descriptorIndex := 76, attributes := #[] }, { accessFlags := 0, nameIndex := 5, descriptorIndex := 85, attributes := #[] }, { accessFlags := 1, nameIndex := 51, descriptorIndex := 52, attributes := #[] }, { accessFlags := 1, nameIndex := 90, descriptorIndex := 91, attributes := #[] }] 48 2 #[70] #[{ accessFlags := 18, nameIndex := 17, descriptorIndex := 18, attributes := #[] }, { accessFlags := 18, nameIndex := 26, descriptorIndex := 18, attributes := #[] }])
  fields := #[{ name := "e0", type := (.object "java/lang/Object"), accessFlags := 18, slot := 0, constantValue := 0 }, { name := "e1", type := (.object "java/lang/Object"), accessFlags := 18, slot := 1, constantValue := 0 }]
  methods := #[k24m0, k24m1, k24m2, k24m3]
  instanceTypes := #[(.object "java/lang/Object"), (.object "java/lang/Object")]
  staticTypes := #[]
  resolved := Array.replicate 125 none
  statics := none }

def pool25 : Array CpInfo := pool [(2, .class_ 4), (1, u "java/util/ImmutableCollections$AbstractImmutableList"), (2, .fieldref 8 9), (0, .class_ 10), (0, .nameAndType 11 12), (0, u "java/util/ImmutableCollections$ListN"), (0, u "elements"), (0, u "[Ljava/lang/Object;"), (2, u "allowNulls"), (0, u "Z"), (42, .class_ 60), (0, u "java/io/Serializable"), (16, u "size"), (0, u "()I"), (35, .class_ 115), (0, u "java/util/ImmutableCollections")] 3

def k25c0 : Code := { maxStack := 1, maxLocals := 1, code := jdk_45_method_3_code, exceptionTable := #[], attributes := #[] }
def k25m0 : Method := { name := "size", desc := "()I", sig := { parameters := [], returnType := some .int }, accessFlags := 1, code := some k25c0 }
/-- java/util/ImmutableCollections$ListN -/
def k25 : Class := { plain "java/util/ImmutableCollections$ListN" (some 23) with
  accessFlags := 48
  interfaces := #[4]
  cf := some (fileOf pool25 8 #[.nestHost 114] #[{ accessFlags := 1, nameIndex := 77, descriptorIndex := 78, attributes := #[] }] 48 2 #[59] #[{ accessFlags := 18, nameIndex := 11, descriptorIndex := 12, attributes := #[] }, { accessFlags := 18, nameIndex := 15, descriptorIndex := 16, attributes := #[] }])
  fields := #[{ name := "elements", type := (.array (.object "java/lang/Object")), accessFlags := 18, slot := 0, constantValue := 0 }, { name := "allowNulls", type := .boolean, accessFlags := 18, slot := 1, constantValue := 0 }]
  methods := #[k25m0]
  instanceTypes := #[(.array (.object "java/lang/Object")), .boolean]
  staticTypes := #[]
  resolved := Array.replicate 119 none
  statics := none }

def pool26 : Array CpInfo := pool [(1, .class_ 2), (0, u "java/lang/Math"), (1, .class_ 6), (1, u "java/lang/Object"), (0, u "<init>"), (0, u "()V"), (89, .class_ 100), (1, u "java/lang/Math$RandomNumberGeneratorHolder"), (71, u "negativeZeroFloatBits"), (0, u "J"), (2, u "negativeZeroDoubleBits"), (21, u "max"), (2, u "min"), (43, u "$assertionsDisabled"), (0, u "Z"), (88, u "(II)I"), (2, u "twoToTheDoubleScaleDown"), (0, u "D"), (4, u "twoToTheDoubleScaleUp"), (9, u "E"), (3, u "PI"), (2, u "TAU"), (2, u "DEGREES_TO_RADIANS"), (0, u "RADIANS_TO_DEGREES")] 94

def k26m0 : Method := { name := "<init>", desc := "()V", sig := { parameters := [], returnType := none }, accessFlags := 2, code := none }
def k26c1 : Code := { maxStack := 2, maxLocals := 2, code := jdk_29_method_65_code, exceptionTable := #[], attributes := #[] }
def k26m1 : Method := { name := "max", desc := "(II)I", sig := { parameters := [.int, .int], returnType := some .int }, accessFlags := 9, code := some k26c1 }
def k26c2 : Code := { maxStack := 2, maxLocals := 2, code := jdk_29_method_69_code, exceptionTable := #[], attributes := #[] }
def k26m2 : Method := { name := "min", desc := "(II)I", sig := { parameters := [.int, .int], returnType := some .int }, accessFlags := 9, code := some k26c2 }
/-- java/lang/Math -/
def k26 : Class := { plain "java/lang/Math" (some 0) with
  accessFlags := 49
  interfaces := #[]
  cf := some (fileOf pool26 1 #[.nestMembers #[98]] #[{ accessFlags := 2, nameIndex := 7, descriptorIndex := 8, attributes := #[] }, { accessFlags := 9, nameIndex := 198, descriptorIndex := 335, attributes := #[] }, { accessFlags := 9, nameIndex := 201, descriptorIndex := 335, attributes := #[] }] 49 4 #[] #[{ accessFlags := 25, nameIndex := 354, descriptorIndex := 339, attributes := #[] }, { accessFlags := 25, nameIndex := 358, descriptorIndex := 339, attributes := #[] }, { accessFlags := 25, nameIndex := 361, descriptorIndex := 339, attributes := #[] }, { accessFlags := 26, nameIndex := 364, descriptorIndex := 339, attributes := #[] }, { accessFlags := 26, nameIndex := 365, descriptorIndex := 339, attributes := #[] }, { accessFlags := 26, nameIndex := 172, descriptorIndex := 173, attributes := #[] }, { accessFlags := 26, nameIndex := 176, descriptorIndex := 173, attributes := #[] }, { accessFlags := 8, nameIndex := 344, descriptorIndex := 339, attributes := #[] }, { accessFlags := 8, nameIndex := 338, descriptorIndex := 339, attributes := #[] }, { accessFlags := 4120, nameIndex := 245, descriptorIndex := 246, attributes := #[] }])
  fields := #[{ name := "E", type := .double, accessFlags := 25, slot := 0, constantValue := 0 }, { name := "PI", type := .double, accessFlags := 25, slot := 1, constantValue := 0 }, { name := "TAU", type := .double, accessFlags := 25, slot := 2, constantValue := 0 }, { name := "DEGREES_TO_RADIANS", type := .double, accessFlags := 26, slot := 3, constantValue := 0 }, { name := "RADIANS_TO_DEGREES", type := .double, accessFlags := 26, slot := 4, constantValue := 0 }, { name := "negativeZeroFloatBits", type := .long, accessFlags := 26, slot := 5, constantValue := 0 }, { name := "negativeZeroDoubleBits", type := .long, accessFlags := 26, slot := 6, constantValue := 0 }, { name := "twoToTheDoubleScaleUp", type := .double, accessFlags := 8, slot := 7, constantValue := 0 }, { name := "twoToTheDoubleScaleDown", type := .double, accessFlags := 8, slot := 8, constantValue := 0 }, { name := "$assertionsDisabled", type := .boolean, accessFlags := 4120, slot := 9, constantValue := 0 }]
  methods := #[k26m0, k26m1, k26m2]
  instanceTypes := #[]
  staticTypes := #[.double, .double, .double, .double, .double, .long, .long, .double, .double, .boolean]
  resolved := Array.replicate 460 none
  statics := none }

def pool27 : Array CpInfo := pool [(2, .class_ 4), (1, u "java/lang/Object"), (0, u "<init>"), (0, u "()V"), (7, .class_ 16), (1, u "java/util/Arrays"), (57, .class_ 76), (1, u "java/util/Arrays$NaturalOrder"), (9, .methodref 2 87), (0, .nameAndType 88 89), (0, u "getClass"), (0, u "()Ljava/lang/Class;"), (20, .class_ 111), (0, u "[Ljava/lang/Object;"), (1, .class_ 115), (1, u "java/util/Arrays$LegacyMergeSort"), (1, u "Z"), (32, .methodref 151 152), (0, .class_ 153), (0, .nameAndType 154 155), (0, u "java/lang/System"), (0, u "arraycopy"), (0, u "(Ljava/lang/Object;ILjava/lang/Object;II)V"), (144, .methodref 14 301), (0, .nameAndType 302 303), (0, u "copyOf"), (0, u "([Ljava/lang/Object;ILjava/lang/Class;)[Ljava/lang/Object;"), (0, .methodref 305 306), (0, .class_ 307), (0, .nameAndType 308 309), (0, u "java/lang/Math"), (0, u "min"), (0, u "(II)I"), (65, .class_ 376), (0, u "java/util/Arrays$ArrayList"), (68, u "$assertionsDisabled"), (269, u "MIN_ARRAY_SORT_GRAN"), (0, u "I"), (2, u "INSERTIONSORT_THRESHOLD"), (140, u "([Ljava/lang/Object;I)[Ljava/lang/Object;"), (114, .class_ 976), (0, u "java/util/Arrays$ArrayItr")] 52

def k27m0 : Method := { name := "<init>", desc := "()V", sig := { parameters := [], returnType := none }, accessFlags := 2, code := none }
def k27c1 : Code := { maxStack := 3, maxLocals := 2, code := jdk_65_method_119_code, exceptionTable := #[], attributes := #[] }
def k27m1 : Method := { name := "copyOf", desc := "([Ljava/lang/Object;I)[Ljava/lang/Object;", sig := { parameters := [(.array (.object "java/lang/Object")), .int], returnType := some (.array (.object "java/lang/Object")) }, accessFlags := 9, code := some k27c1 }
def k27c2 : Code := { maxStack := 6, maxLocals := 4, code := jdk_65_method_120_code, exceptionTable := #[], attributes := #[] }
def k27m2 : Method := { name := "copyOf", desc := "([Ljava/lang/Object;ILjava/lang/Class;)[Ljava/lang/Object;", sig := { parameters := [(.array (.object "java/lang/Object")), .int, (.object "java/lang/Class")], returnType := some (.array (.object "java/lang/Object")) }, accessFlags := 9, code := some k27c2 }
/-- java/util/Arrays -/
def k27 : Class := { plain "java/util/Arrays" (some 0) with
  accessFlags := 49
  interfaces := #[]
  cf := some (fileOf pool27 14 #[.nestMembers #[975, 375, 113, 74]] #[{ accessFlags := 2, nameIndex := 5, descriptorIndex := 6, attributes := #[] }, { accessFlags := 9, nameIndex := 302, descriptorIndex := 860, attributes := #[] }, { accessFlags := 9, nameIndex := 302, descriptorIndex := 303, attributes := #[] }] 49 2 #[] #[{ accessFlags := 26, nameIndex := 715, descriptorIndex := 716, attributes := #[] }, { accessFlags := 26, nameIndex := 719, descriptorIndex := 716, attributes := #[] }, { accessFlags := 4120, nameIndex := 445, descriptorIndex := 117, attributes := #[] }])
  fields := #[{ name := "MIN_ARRAY_SORT_GRAN", type := .int, accessFlags := 26, slot := 0, constantValue := 0 }, { name := "INSERTIONSORT_THRESHOLD", type := .int, accessFlags := 26, slot := 1, constantValue := 0 }, { name := "$assertionsDisabled", type := .boolean, accessFlags := 4120, slot := 2, constantValue := 0 }]
  methods := #[k27m0, k27m1, k27m2]
  instanceTypes := #[]
  staticTypes := #[.int, .int, .boolean]
  resolved := Array.replicate 1029 none
  statics := none }

def pool28 : Array CpInfo := pool [(2, .class_ 4), (1, u "java/lang/Object"), (0, u "<init>"), (0, u "()V"), (1, .class_ 10), (1, u "java/lang/System"), (0, u "allowSecurityManager"), (0, u "I"), (16, u "cons"), (0, u "Ljava/io/Console;"), (77, .class_ 110), (1, u "java/lang/System$CallersHolder"), (43, u "initialErrStream"), (0, u "Ljava/io/PrintStream;"), (19, u "security"), (0, u "Ljava/lang/SecurityManager;"), (31, .class_ 209), (0, u "java/lang/System$1"), (7, u "props"), (0, u "Ljava/util/Properties;"), (2, u "lineSeparator"), (0, u "Ljava/lang/String;"), (96, .class_ 321), (1, u "java/lang/System$LoggerFinder"), (5, .class_ 328), (0, u "java/lang/System$Logger"), (67, u "err"), (2, u "out"), (91, u "notSupportedJnuEncoding"), (15, u "in"), (17, u "initialIn"), (0, u "Ljava/io/InputStream;"), (35, u "bootLayer"), (0, u "Ljava/lang/ModuleLayer;"), (99, .class_ 664), (0, u "java/lang/System$2"), (9, u "NEVER"), (2, u "MAYBE"), (49, u "arraycopy"), (0, u "(Ljava/lang/Object;ILjava/lang/Object;II)V"), (72, .class_ 802), (0, u "java/lang/System$Logger$Level")] 31

def k28m0 : Method := { name := "<init>", desc := "()V", sig := { parameters := [], returnType := none }, accessFlags := 2, code := none }
def k28m1 : Method := { name := "arraycopy", desc := "(Ljava/lang/Object;ILjava/lang/Object;II)V", sig := { parameters := [(.object "java/lang/Object"), .int, (.object "java/lang/Object"), .int, .int], returnType := none }, accessFlags := 265, code := none }
/-- java/lang/System -/
def k28 : Class := { plain "java/lang/System" (some 0) with
  accessFlags := 49
  interfaces := #[]
  cf := some (fileOf pool28 8 #[.nestMembers #[319, 327, 801, 108, 663, 208]] #[{ accessFlags := 2, nameIndex := 5, descriptorIndex := 6, attributes := #[] }, { accessFlags := 265, nameIndex := 727, descriptorIndex := 728, attributes := #[] }] 49 2 #[] #[{ accessFlags := 25, nameIndex := 507, descriptorIndex := 526, attributes := #[] }, { accessFlags := 25, nameIndex := 399, descriptorIndex := 155, attributes := #[] }, { accessFlags := 25, nameIndex := 396, descriptorIndex := 155, attributes := #[] }, { accessFlags := 10, nameIndex := 525, descriptorIndex := 526, attributes := #[] }, { accessFlags := 26, nameIndex := 674, descriptorIndex := 12, attributes := #[] }, { accessFlags := 26, nameIndex := 677, descriptorIndex := 12, attributes := #[] }, { accessFlags := 10, nameIndex := 11, descriptorIndex := 12, attributes := #[] }, { accessFlags := 74, nameIndex := 175, descriptorIndex := 176, attributes := #[] }, { accessFlags := 10, nameIndex := 491, descriptorIndex := 222, attributes := #[] }, { accessFlags := 74, nameIndex := 29, descriptorIndex := 30, attributes := #[] }, { accessFlags := 74, nameIndex := 154, descriptorIndex := 155, attributes := #[] }, { accessFlags := 10, nameIndex := 217, descriptorIndex := 218, attributes := #[] }, { accessFlags := 10, nameIndex := 221, descriptorIndex := 222, attributes := #[] }, { accessFlags := 8, nameIndex := 562, descriptorIndex := 563, attributes := #[] }])
  fields := #[{ name := "in", type := (.object "java/io/InputStream"), accessFlags := 25, slot := 0, constantValue := 0 }, { name := "out", type := (.object "java/io/PrintStream"), accessFlags := 25, slot := 1, constantValue := 0 }, { name := "err", type := (.object "java/io/PrintStream"), accessFlags := 25, slot := 2, constantValue := 0 }, { name := "initialIn", type := (.object "java/io/InputStream"), accessFlags := 10, slot := 3, constantValue := 0 }, { name := "NEVER", type := .int, accessFlags := 26, slot := 4, constantValue := 0 }, { name := "MAYBE", type := .int, accessFlags := 26, slot := 5, constantValue := 0 }, { name := "allowSecurityManager", type := .int, accessFlags := 10, slot := 6, constantValue := 0 }, { name := "security", type := (.object "java/lang/SecurityManager"), accessFlags := 74, slot := 7, constantValue := 0 }, { name := "notSupportedJnuEncoding", type := (.object "java/lang/String"), accessFlags := 10, slot := 8, constantValue := 0 }, { name := "cons", type := (.object "java/io/Console"), accessFlags := 74, slot := 9, constantValue := 0 }, { name := "initialErrStream", type := (.object "java/io/PrintStream"), accessFlags := 74, slot := 10, constantValue := 0 }, { name := "props", type := (.object "java/util/Properties"), accessFlags := 10, slot := 11, constantValue := 0 }, { name := "lineSeparator", type := (.object "java/lang/String"), accessFlags := 10, slot := 12, constantValue := 0 }, { name := "bootLayer", type := (.object "java/lang/ModuleLayer"), accessFlags := 8, slot := 13, constantValue := 0 }]
  methods := #[k28m0, k28m1]
  instanceTypes := #[]
  staticTypes := #[(.object "java/io/InputStream"), (.object "java/io/PrintStream"), (.object "java/io/PrintStream"), (.object "java/io/InputStream"), .int, .int, .int, (.object "java/lang/SecurityManager"), (.object "java/lang/String"), (.object "java/io/Console"), (.object "java/io/PrintStream"), (.object "java/util/Properties"), (.object "java/lang/String"), (.object "java/lang/ModuleLayer")]
  resolved := Array.replicate 834 none
  statics := none }

def pool29 : Array CpInfo := pool [(1, .fieldref 2 3), (0, .class_ 4), (0, .nameAndType 5 6), (0, u "java/util/Optional"), (0, u "EMPTY"), (0, u "Ljava/util/Optional;"), (0, .methodref 8 9), (0, .class_ 10), (0, .nameAndType 11 12), (0, u "java/lang/Object"), (0, u "<init>"), (0, u "()V"), (0, .fieldref 2 14), (0, .nameAndType 15 16), (0, u "value"), (0, u "Ljava/lang/Object;"), (0, .methodref 18 19), (0, .class_ 20), (0, .nameAndType 21 22), (0, u "java/util/Objects"), (0, u "requireNonNull"), (0, u "(Ljava/lang/Object;)Ljava/lang/Object;"), (0, .methodref 2 24), (0, .nameAndType 11 25), (0, u "(Ljava/lang/Object;)V"), (19, u "isEmpty"), (0, u "()Z"), (8, u "empty"), (0, u "()Ljava/util/Optional;"), (8, u "(Ljava/lang/Object;)Ljava/util/Optional;"), (16, u "of"), (82, u "orElse")] 21

def k29c0 : Code := { maxStack := 1, maxLocals := 1, code := jdk_32_method_1_code, exceptionTable := #[], attributes := #[] }
def k29m0 : Method := { name := "empty", desc := "()Ljava/util/Optional;", sig := { parameters := [], returnType := some (.object "java/util/Optional") }, accessFlags := 9, code := some k29c0 }
def k29c1 : Code := { maxStack := 2, maxLocals := 2, code := jdk_32_method_2_code, exceptionTable := #[], attributes := #[] }
def k29m1 : Method := { name := "<init>", desc := "(Ljava/lang/Object;)V", sig := { parameters := [(.object "java/lang/Object")], returnType := none }, accessFlags := 2, code := some k29c1 }
def k29c2 : Code := { maxStack := 3, maxLocals := 1, code := jdk_32_method_3_code, exceptionTable := #[], attributes := #[] }
def k29m2 : Method := { name := "of", desc := "(Ljava/lang/Object;)Ljava/util/Optional;", sig := { parameters := [(.object "java/lang/Object")], returnType := some (.object "java/util/Optional") }, accessFlags := 9, code := some k29c2 }
def k29c3 : Code := { maxStack := 1, maxLocals := 1, code := jdk_32_method_7_code, exceptionTable := #[], attributes := #[] }
def k29m3 : Method := { name := "isEmpty", desc := "()Z", sig := { parameters := [], returnType := some .boolean }, accessFlags := 1, code := some k29c3 }
def k29c4 : Code := { maxStack := 1, maxLocals := 2, code := jdk_32_method_15_code, exceptionTable := #[], attributes := #[] }
def k29m4 : Method := { name := "orElse", desc := "(Ljava/lang/Object;)Ljava/lang/Object;", sig := { parameters := [(.object "java/lang/Object")], returnType := some (.object "java/lang/Object") }, accessFlags := 1, code := some k29c4 }
/-- java/util/Optional -/
def k29 : Class := { plain "java/util/Optional" (some 0) with
  accessFlags := 49
  interfaces := #[]
  cf := some (fileOf pool29 2 #[] #[{ accessFlags := 9, nameIndex := 55, descriptorIndex := 56, attributes := #[] }, { accessFlags := 2, nameIndex := 11, descriptorIndex := 25, attributes := #[] }, { accessFlags := 9, nameIndex := 82, descriptorIndex := 65, attributes := #[] }, { accessFlags := 1, nameIndex := 45, descriptorIndex := 46, attributes := #[] }, { accessFlags := 1, nameIndex := 165, descriptorIndex := 22, attributes := #[] }] 49 8 #[] #[{ accessFlags := 26, nameIndex := 5, descriptorIndex := 6, attributes := #[] }, { accessFlags := 18, nameIndex := 15, descriptorIndex := 16, attributes := #[] }])
  fields := #[{ name := "EMPTY", type := (.object "java/util/Optional"), accessFlags := 26, slot := 0, constantValue := 0 }, { name := "value", type := (.object "java/lang/Object"), accessFlags := 18, slot := 0, constantValue := 0 }]
  methods := #[k29m0, k29m1, k29m2, k29m3, k29m4]
  instanceTypes := #[(.object "java/lang/Object")]
  staticTypes := #[(.object "java/util/Optional")]
  resolved := Array.replicate 187 none
  statics := some 3 }

def pool30 : Array CpInfo := pool [(2, .class_ 4), (1, u "java/lang/Object"), (0, u "<init>"), (0, u "()V"), (17, .class_ 26), (1, u "jdk/internal/util/Preconditions"), (28, .class_ 56), (0, u "jdk/internal/util/Preconditions$4"), (57, .class_ 115), (0, u "jdk/internal/util/Preconditions$1"), (7, u "SIOOBE_FORMATTER"), (0, u "Ljava/util/function/BiFunction;"), (0, .class_ 126), (0, u "jdk/internal/util/Preconditions$2"), (3, u "AIOOBE_FORMATTER"), (0, .class_ 132), (0, u "jdk/internal/util/Preconditions$3"), (3, u "IOOBE_FORMATTER")] 57

def k30m0 : Method := { name := "<init>", desc := "()V", sig := { parameters := [], returnType := none }, accessFlags := 1, code := none }
/-- jdk/internal/util/Preconditions -/
def k30 : Class := { plain "jdk/internal/util/Preconditions" (some 0) with
  accessFlags := 33
  interfaces := #[]
  cf := some (fileOf pool30 24 #[.nestMembers #[55, 131, 125, 114]] #[{ accessFlags := 1, nameIndex := 5, descriptorIndex := 6, attributes := #[] }] 33 2 #[] #[{ accessFlags := 25, nameIndex := 123, descriptorIndex := 124, attributes := #[] }, { accessFlags := 25, nameIndex := 130, descriptorIndex := 124, attributes := #[] }, { accessFlags := 25, nameIndex := 136, descriptorIndex := 124, attributes := #[] }])
  fields := #[{ name := "SIOOBE_FORMATTER", type := (.object "java/util/function/BiFunction"), accessFlags := 25, slot := 0, constantValue := 0 }, { name := "AIOOBE_FORMATTER", type := (.object "java/util/function/BiFunction"), accessFlags := 25, slot := 1, constantValue := 0 }, { name := "IOOBE_FORMATTER", type := (.object "java/util/function/BiFunction"), accessFlags := 25, slot := 2, constantValue := 0 }]
  methods := #[k30m0]
  instanceTypes := #[]
  staticTypes := #[(.object "java/util/function/BiFunction"), (.object "java/util/function/BiFunction"), (.object "java/util/function/BiFunction")]
  resolved := Array.replicate 194 none
  statics := some 4 }

def pool31 : Array CpInfo := pool [(9, u "<init>"), (6, .class_ 18), (1, u "java/lang/Object"), (0, u "()V"), (1, .class_ 23), (1, u "jdk/internal/util/ArraysSupport"), (0, u "LOG2_ARRAY_LONG_INDEX_SCALE"), (0, u "I"), (2, u "U"), (0, u "Ljdk/internal/misc/Unsafe;"), (8, u "BIG_ENDIAN"), (0, u "Z"), (8, u "LOG2_BYTE_BIT_SIZE"), (4, u "LOG2_ARRAY_INT_INDEX_SCALE"), (54, u "JLA"), (0, u "Ljdk/internal/access/JavaLangAccess;"), (11, u "LOG2_ARRAY_BOOLEAN_INDEX_SCALE"), (9, u "LOG2_ARRAY_BYTE_INDEX_SCALE"), (5, u "LOG2_ARRAY_CHAR_INDEX_SCALE"), (5, u "LOG2_ARRAY_SHORT_INDEX_SCALE"), (18, u "LOG2_ARRAY_FLOAT_INDEX_SCALE"), (24, u "LOG2_ARRAY_DOUBLE_INDEX_SCALE"), (89, u "T_BOOLEAN"), (2, u "T_CHAR"), (1, u "T_FLOAT"), (1, u "T_DOUBLE"), (1, u "T_BYTE"), (1, u "T_SHORT"), (1, u "T_INT"), (1, u "T_LONG"), (1, u "SOFT_MAX_ARRAY_LENGTH")] 83

def k31m0 : Method := { name := "<init>", desc := "()V", sig := { parameters := [], returnType := none }, accessFlags := 2, code := none }
/-- jdk/internal/util/ArraysSupport -/
def k31 : Class := { plain "jdk/internal/util/ArraysSupport" (some 0) with
  accessFlags := 33
  interfaces := #[]
  cf := some (fileOf pool31 21 #[] #[{ accessFlags := 2, nameIndex := 9, descriptorIndex := 19, attributes := #[] }] 33 16 #[] #[{ accessFlags := 24, nameIndex := 28, descriptorIndex := 29, attributes := #[] }, { accessFlags := 26, nameIndex := 38, descriptorIndex := 39, attributes := #[] }, { accessFlags := 25, nameIndex := 121, descriptorIndex := 25, attributes := #[] }, { accessFlags := 25, nameIndex := 131, descriptorIndex := 25, attributes := #[] }, { accessFlags := 25, nameIndex := 137, descriptorIndex := 25, attributes := #[] }, { accessFlags := 25, nameIndex := 143, descriptorIndex := 25, attributes := #[] }, { accessFlags := 25, nameIndex := 53, descriptorIndex := 25, attributes := #[] }, { accessFlags := 25, nameIndex := 24, descriptorIndex := 25, attributes := #[] }, { accessFlags := 25, nameIndex := 162, descriptorIndex := 25, attributes := #[] }, { accessFlags := 25, nameIndex := 187, descriptorIndex := 25, attributes := #[] }, { accessFlags := 26, nameIndex := 48, descriptorIndex := 25, attributes := #[] }, { accessFlags := 25, nameIndex := 277, descriptorIndex := 25, attributes := #[] }, { accessFlags := 25, nameIndex := 280, descriptorIndex := 25, attributes := #[] }, { accessFlags := 25, nameIndex := 282, descriptorIndex := 25, attributes := #[] }, { accessFlags := 25, nameIndex := 284, descriptorIndex := 25, attributes := #[] }, { accessFlags := 25, nameIndex := 286, descriptorIndex := 25, attributes := #[] }, { accessFlags := 25, nameIndex := 288, descriptorIndex := 25, attributes := #[] }, { accessFlags := 25, nameIndex := 290, descriptorIndex := 25, attributes := #[] }, { accessFlags := 25, nameIndex := 292, descriptorIndex := 25, attributes := #[] }, { accessFlags := 26, nameIndex := 108, descriptorIndex := 109, attributes := #[] }, { accessFlags := 25, nameIndex := 294, descriptorIndex := 25, attributes := #[] }])
  fields := #[{ name := "U", type := (.object "jdk/internal/misc/Unsafe"), accessFlags := 24, slot := 0, constantValue := 0 }, { name := "BIG_ENDIAN", type := .boolean, accessFlags := 26, slot := 1, constantValue := 0 }, { name := "LOG2_ARRAY_BOOLEAN_INDEX_SCALE", type := .int, accessFlags := 25, slot := 2, constantValue := 0 }, { name := "LOG2_ARRAY_BYTE_INDEX_SCALE", type := .int, accessFlags := 25, slot := 3, constantValue := 0 }, { name := "LOG2_ARRAY_CHAR_INDEX_SCALE", type := .int, accessFlags := 25, slot := 4, constantValue := 0 }, { name := "LOG2_ARRAY_SHORT_INDEX_SCALE", type := .int, accessFlags := 25, slot := 5, constantValue := 0 }, { name := "LOG2_ARRAY_INT_INDEX_SCALE", type := .int, accessFlags := 25, slot := 6, constantValue := 0 }, { name := "LOG2_ARRAY_LONG_INDEX_SCALE", type := .int, accessFlags := 25, slot := 7, constantValue := 0 }, { name := "LOG2_ARRAY_FLOAT_INDEX_SCALE", type := .int, accessFlags := 25, slot := 8, constantValue := 0 }, { name := "LOG2_ARRAY_DOUBLE_INDEX_SCALE", type := .int, accessFlags := 25, slot := 9, constantValue := 0 }, { name := "LOG2_BYTE_BIT_SIZE", type := .int, accessFlags := 26, slot := 10, constantValue := 0 }, { name := "T_BOOLEAN", type := .int, accessFlags := 25, slot := 11, constantValue := 0 }, { name := "T_CHAR", type := .int, accessFlags := 25, slot := 12, constantValue := 0 }, { name := "T_FLOAT", type := .int, accessFlags := 25, slot := 13, constantValue := 0 }, { name := "T_DOUBLE", type := .int, accessFlags := 25, slot := 14, constantValue := 0 }, { name := "T_BYTE", type := .int, accessFlags := 25, slot := 15, constantValue := 0 }, { name := "T_SHORT", type := .int, accessFlags := 25, slot := 16, constantValue := 0 }, { name := "T_INT", type := .int, accessFlags := 25, slot := 17, constantValue := 0 }, { name := "T_LONG", type := .int, accessFlags := 25, slot := 18, constantValue := 0 }, { name := "JLA", type := (.object "jdk/internal/access/JavaLangAccess"), accessFlags := 26, slot := 19, constantValue := 0 }, { name := "SOFT_MAX_ARRAY_LENGTH", type := .int, accessFlags := 25, slot := 20, constantValue := 0 }]
  methods := #[k31m0]
  instanceTypes := #[]
  staticTypes := #[(.object "jdk/internal/misc/Unsafe"), .boolean, .int, .int, .int, .int, .int, .int, .int, .int, .int, .int, .int, .int, .int, .int, .int, .int, .int, (.object "jdk/internal/access/JavaLangAccess"), .int]
  resolved := Array.replicate 378 none
  statics := none }

def pool32 : Array CpInfo := pool [(1, u "java/lang/Class"), (0, .class_ 1), (0, u "java/lang/Object"), (0, .class_ 3)] 0

/-- java/lang/Class -/
def k32 : Class := { plain "java/lang/Class" (some 0) with
  accessFlags := 49
  interfaces := #[]
  cf := some (fileOf pool32 2 #[] #[] 49 4 #[] #[])
  fields := #[]
  methods := #[]
  instanceTypes := #[]
  staticTypes := #[]
  resolved := Array.replicate 5 none
  statics := none }

/-- the primitive byte -/
def k33 : Class := { plain "byte" none with kind := .primitive 'B', accessFlags := 0x411 }
/-- [B -/
def k34 : Class := { plain "[B" (some 0) with kind := .array 33 .byte, interfaces := #[18, 4], accessFlags := 1041 }

/-- the primitive int -/
def k35 : Class := { plain "int" none with kind := .primitive 'I', accessFlags := 0x411 }
/-- [I -/
def k36 : Class := { plain "[I" (some 0) with kind := .array 35 .int, interfaces := #[18, 4], accessFlags := 1041 }

/-- [Ljava/lang/Object; -/
def k37 : Class := { plain "[Ljava/lang/Object;" (some 0) with kind := .array 0 (.object "java/lang/Object"), interfaces := #[18, 4], accessFlags := 1041, mirror := some 5 }

def heap : Heap := #[{ cls := 9, slots := #[.long 0, .int 1, .null, .int 0, .null, .int 0, .int 0], vm := .statics 9 },
  { cls := 19, slots := #[.long 0, .int 0, .ref 8, .ref 9], vm := .statics 19 },
  { cls := 21, slots := #[.long 0, .int 0, .null, .ref 10, .ref 7, .null, .null, .null, .int 0, .int 1], vm := .statics 21 },
  { cls := 29, slots := #[.ref 11], vm := .statics 29 },
  { cls := 30, slots := #[.null, .null, .null], vm := .statics 30 },
  { cls := 32, slots := #[], vm := .mirror 37 },
  { cls := 37, slots := #[], vm := .none },
  { cls := 25, slots := #[.ref 6, .int 0], vm := .none },
  { cls := 37, slots := #[], vm := .none },
  { cls := 37, slots := #[], vm := .none },
  { cls := 0, slots := #[], vm := .none },
  { cls := 29, slots := #[.null], vm := .none }]
def classes : Array Class := #[k0, k1, k2, k3, k4, k5, k6, k7, k8, k9, k10, k11, k12, k13, k14, k15, k16, k17, k18, k19, k20, k21, k22, k23, k24, k25, k26, k27, k28, k29, k30, k31, k32, k33, k34, k35, k36, k37]
def interned : List (Array UInt16 × Addr) := []
def slotsUsed : Nat := 28
def theMethod : MethodId := ⟨1, 3⟩
def args0 : Array Value := #[.int 5, .int 7, .int 9, .int 1, .int 2, .int 3]
def aboutOver (below : List Frame) : State where
  vm := { classes := classes, interned := interned.toArray }
  heap := heap
  slotsUsed := slotsUsed
  threads := #[{ frames := .invoking theMethod args0 :: below }]
def below0 : List Frame := [.native { method := ⟨0, 0⟩, args := #[] }]
def about1 : State := aboutOver below0
def p0 : Program := .bare "" "" ""
def e0 : Env := launch0.env 0 0 0
theorem w_frames : about1.frames = Frame.invoking theMethod args0 :: below0 := rfl
set_option maxRecDepth 65536 in
theorem w_args : argsFit about1.vm theMethod args0 = true := by decide +kernel
set_option maxRecDepth 65536 in
theorem w_heap : heapFits about1 = true := by decide +kernel
set_option maxRecDepth 65536 in
theorem w_runnable : about1.curStatus? = some .runnable := by decide +kernel
set_option maxRecDepth 65536 in
theorem w_alone : about1.alone = true := by decide +kernel
set_option maxRecDepth 65536 in
theorem w_named : about1.methodNamed? x = some theMethod := by decide +kernel
set_option maxRecDepth 65536 in
theorem w_hears : about1.hears theMethod below0 = true := by decide +kernel
set_option maxRecDepth 65536 in
theorem w_ripe : about1.ripe theMethod args0 below0 = true := by decide +kernel
theorem w_running : about1.status = .running := rfl
set_option maxRecDepth 65536 in
theorem w_room : about1.hasRoom e0.platform room_1 = true :=
  launch0.hasRoom_least _ room_1 (by decide +kernel) (by decide +kernel) (by decide +kernel) (by decide +kernel) (by decide +kernel) (by decide +kernel)
theorem allAtoms_all (ts : List Jvm.Cond) (a : Array Jvm.Value) (st : Jvm.State) : (allAtoms ts).before a st = ts.all (fun c => c.before a st) := by
  induction ts with
  | nil => rfl
  | cons c t ih =>
    show (Jvm.Cond.and c (allAtoms t)).before a st = _
    rw [Jvm.Cond.before_and, ih, List.all_cons]
def words1 : List Jvm.Cond := Jvm.Cond.code x code maxLocals ret :: tables_1
/-- a 'code' word, met by the world's own term for the bytes: nothing is compared byte by byte -/
theorem code_word {y : MethodName} {bytes : ByteArray} {mx : Nat} {rt : Option FieldType} {a : Array Value} {s : State} {m : MethodId} {meth : Method} {c : Code} (h1 : s.methodNamed? y = some m) (h2 : s.vm.method? m = some meth) (h3 : meth.code = some c) (h4 : c.code = bytes)
    (h5 : (c.maxLocals == mx && c.exceptionTable.isEmpty && decide (c.maxStack ≤ mostOperands) && decide (meth.sig.returnType = rt) && !meth.locks && decide (parseMethodDescriptor y.desc = some meth.sig)) = true) : (Jvm.Cond.code y bytes mx rt).before a s = true := by
  simp only [Bool.and_eq_true, beq_iff_eq, Bool.not_eq_true', decide_eq_true_eq] at h5
  obtain ⟨⟨⟨⟨⟨g1, g2⟩, g3⟩, g4⟩, g5⟩, g6⟩ := h5
  simp [Cond.before, Cond.holds, Cond.value, h1, h2, h3, h4, g1, g2, g3, g4, g5, g6]
def isCode : Jvm.Cond → Bool
  | .code _ _ _ _ => true
  | _ => false
theorem all_split {L : List Jvm.Cond} {P : Jvm.Cond → Bool} (h1 : L.all (fun c => isCode c || P c) = true) (h2 : ∀ c ∈ L.filter isCode, P c = true) : L.all P = true := by
  refine List.all_eq_true.mpr fun c hc => ?_
  have h := List.all_eq_true.mp h1 c hc
  rcases Bool.eq_false_or_eq_true (isCode c) with hi | hi
  · exact h2 c (List.mem_filter.mpr ⟨hc, hi⟩)
  · simpa [hi] using h
set_option maxRecDepth 65536 in
theorem w_c0 : (Jvm.Cond.code x code maxLocals ret).before args0 about1 = true := code_word (m := ⟨1, 3⟩) (meth := k1m3) (c := k1c3) (by decide +kernel) rfl rfl rfl (by decide +kernel)
set_option maxRecDepth 65536 in
theorem w_c1 : (Jvm.Cond.code ({ cls := "java/lang/String", name := "valueOf", desc := "(C)Ljava/lang/String;" } : Jvm.MethodName) jdk_42_method_139_code (1 : Nat) (Option.some (Jvm.ClassFile.FieldType.object "java/lang/String"))).before args0 about1 = true := code_word (m := ⟨9, 3⟩) (meth := k9m3) (c := k9c3) (by decide +kernel) rfl rfl rfl (by decide +kernel)
set_option maxRecDepth 65536 in
theorem w_c2 : (Jvm.Cond.code ({ cls := "java/lang/StringLatin1", name := "canEncode", desc := "(C)Z" } : Jvm.MethodName) jdk_43_method_3_code (1 : Nat) (Option.some Jvm.ClassFile.FieldType.boolean)).before args0 about1 = true := code_word (m := ⟨10, 1⟩) (meth := k10m1) (c := k10c1) (by decide +kernel) rfl rfl rfl (by decide +kernel)
set_option maxRecDepth 65536 in
theorem w_c3 : (Jvm.Cond.code ({ cls := "java/lang/StringLatin1", name := "toBytes", desc := "(C)[B" } : Jvm.MethodName) jdk_43_method_46_code (1 : Nat) (Option.some (Jvm.ClassFile.FieldType.array Jvm.ClassFile.FieldType.byte))).before args0 about1 = true := code_word (m := ⟨10, 3⟩) (meth := k10m3) (c := k10c3) (by decide +kernel) rfl rfl rfl (by decide +kernel)
set_option maxRecDepth 65536 in
theorem w_c4 : (Jvm.Cond.code ({ cls := "java/lang/String", name := "<init>", desc := "([BB)V" } : Jvm.MethodName) jdk_42_method_151_code (3 : Nat) (Option.none : Option Jvm.ClassFile.FieldType)).before args0 about1 = true := code_word (m := ⟨9, 4⟩) (meth := k9m4) (c := k9c4) (by decide +kernel) rfl rfl rfl (by decide +kernel)
set_option maxRecDepth 65536 in
theorem w_c5 : (Jvm.Cond.code ({ cls := "java/lang/Object", name := "<init>", desc := "()V" } : Jvm.MethodName) object_method_1_code (1 : Nat) (Option.none : Option Jvm.ClassFile.FieldType)).before args0 about1 = true := code_word (m := ⟨0, 0⟩) (meth := k0m0) (c := k0c0) (by decide +kernel) rfl rfl rfl (by decide +kernel)
set_option maxRecDepth 65536 in
theorem w_c6 : (Jvm.Cond.code ({ cls := "java/util/ArrayList", name := "<init>", desc := "()V" } : Jvm.MethodName) jdk_38_method_2_code (1 : Nat) (Option.none : Option Jvm.ClassFile.FieldType)).before args0 about1 = true := code_word (m := ⟨19, 0⟩) (meth := k19m0) (c := k19c0) (by decide +kernel) rfl rfl rfl (by decide +kernel)
set_option maxRecDepth 65536 in
theorem w_c7 : (Jvm.Cond.code ({ cls := "java/util/AbstractList", name := "<init>", desc := "()V" } : Jvm.MethodName) jdk_39_method_1_code (1 : Nat) (Option.none : Option Jvm.ClassFile.FieldType)).before args0 about1 = true := code_word (m := ⟨16, 0⟩) (meth := k16m0) (c := k16c0) (by decide +kernel) rfl rfl rfl (by decide +kernel)
set_option maxRecDepth 65536 in
theorem w_c8 : (Jvm.Cond.code ({ cls := "java/util/AbstractCollection", name := "<init>", desc := "()V" } : Jvm.MethodName) jdk_22_method_1_code (1 : Nat) (Option.none : Option Jvm.ClassFile.FieldType)).before args0 about1 = true := code_word (m := ⟨13, 0⟩) (meth := k13m0) (c := k13c0) (by decide +kernel) rfl rfl rfl (by decide +kernel)
set_option maxRecDepth 65536 in
theorem w_c9 : (Jvm.Cond.code ({ cls := "com/example/harpocrates/harpocrates/data/Taxonomy", name := "<init>", desc := "(Ljava/lang/String;Ljava/util/List;)V" } : Jvm.MethodName) prog_9_method_1_code (3 : Nat) (Option.none : Option Jvm.ClassFile.FieldType)).before args0 about1 = true := code_word (m := ⟨3, 0⟩) (meth := k3m0) (c := k3c0) (by decide +kernel) rfl rfl rfl (by decide +kernel)
set_option maxRecDepth 65536 in
theorem w_c10 : (Jvm.Cond.code ({ cls := "java/lang/Record", name := "<init>", desc := "()V" } : Jvm.MethodName) jdk_30_method_1_code (1 : Nat) (Option.none : Option Jvm.ClassFile.FieldType)).before args0 about1 = true := code_word (m := ⟨2, 0⟩) (meth := k2m0) (c := k2c0) (by decide +kernel) rfl rfl rfl (by decide +kernel)
set_option maxRecDepth 65536 in
theorem w_c11 : (Jvm.Cond.code ({ cls := "java/util/Objects", name := "requireNonNull", desc := "(Ljava/lang/Object;Ljava/lang/String;)Ljava/lang/Object;" } : Jvm.MethodName) jdk_31_method_11_code (2 : Nat) (Option.some (Jvm.ClassFile.FieldType.object "java/lang/Object"))).before args0 about1 = true := code_word (m := ⟨20, 2⟩) (meth := k20m2) (c := k20c2) (by decide +kernel) rfl rfl rfl (by decide +kernel)
set_option maxRecDepth 65536 in
theorem w_c12 : (Jvm.Cond.code ({ cls := "java/lang/String", name := "isEmpty", desc := "()Z" } : Jvm.MethodName) jdk_42_method_55_code (1 : Nat) (Option.some Jvm.ClassFile.FieldType.boolean)).before args0 about1 = true := code_word (m := ⟨9, 1⟩) (meth := k9m1) (c := k9c1) (by decide +kernel) rfl rfl rfl (by decide +kernel)
set_option maxRecDepth 65536 in
theorem w_c13 : (Jvm.Cond.code ({ cls := "java/util/List", name := "copyOf", desc := "(Ljava/util/Collection;)Ljava/util/List;" } : Jvm.MethodName) jdk_40_method_48_code (1 : Nat) (Option.some (Jvm.ClassFile.FieldType.object "java/util/List"))).before args0 about1 = true := code_word (m := ⟨15, 4⟩) (meth := k15m4) (c := k15c4) (by decide +kernel) rfl rfl rfl (by decide +kernel)
set_option maxRecDepth 65536 in
theorem w_c14 : (Jvm.Cond.code ({ cls := "java/util/ImmutableCollections", name := "listCopy", desc := "(Ljava/util/Collection;)Ljava/util/List;" } : Jvm.MethodName) jdk_56_method_3_code (2 : Nat) (Option.some (Jvm.ClassFile.FieldType.object "java/util/List"))).before args0 about1 = true := code_word (m := ⟨21, 1⟩) (meth := k21m1) (c := k21c1) (by decide +kernel) rfl rfl rfl (by decide +kernel)
set_option maxRecDepth 65536 in
theorem w_c15 : (Jvm.Cond.code ({ cls := "java/util/ArrayList", name := "isEmpty", desc := "()Z" } : Jvm.MethodName) jdk_38_method_9_code (1 : Nat) (Option.some Jvm.ClassFile.FieldType.boolean)).before args0 about1 = true := code_word (m := ⟨19, 3⟩) (meth := k19m3) (c := k19c3) (by decide +kernel) rfl rfl rfl (by decide +kernel)
set_option maxRecDepth 65536 in
theorem w_c16 : (Jvm.Cond.code ({ cls := "java/util/List", name := "of", desc := "()Ljava/util/List;" } : Jvm.MethodName) jdk_40_method_36_code (0 : Nat) (Option.some (Jvm.ClassFile.FieldType.object "java/util/List"))).before args0 about1 = true := code_word (m := ⟨15, 2⟩) (meth := k15m2) (c := k15c2) (by decide +kernel) rfl rfl rfl (by decide +kernel)
set_option maxRecDepth 65536 in
theorem w_c17 : (Jvm.Cond.code ({ cls := "java/util/ArrayList", name := "add", desc := "(Ljava/lang/Object;)Z" } : Jvm.MethodName) jdk_38_method_25_code (2 : Nat) (Option.some Jvm.ClassFile.FieldType.boolean)).before args0 about1 = true := code_word (m := ⟨19, 6⟩) (meth := k19m6) (c := k19c6) (by decide +kernel) rfl rfl rfl (by decide +kernel)
set_option maxRecDepth 65536 in
theorem w_c18 : (Jvm.Cond.code ({ cls := "java/util/ArrayList", name := "add", desc := "(Ljava/lang/Object;[Ljava/lang/Object;I)V" } : Jvm.MethodName) jdk_38_method_24_code (4 : Nat) (Option.none : Option Jvm.ClassFile.FieldType)).before args0 about1 = true := code_word (m := ⟨19, 5⟩) (meth := k19m5) (c := k19c5) (by decide +kernel) rfl rfl rfl (by decide +kernel)
set_option maxRecDepth 65536 in
theorem w_c19 : (Jvm.Cond.code ({ cls := "java/util/ArrayList", name := "grow", desc := "()[Ljava/lang/Object;" } : Jvm.MethodName) jdk_38_method_7_code (1 : Nat) (Option.some (Jvm.ClassFile.FieldType.array (Jvm.ClassFile.FieldType.object "java/lang/Object")))).before args0 about1 = true := code_word (m := ⟨19, 2⟩) (meth := k19m2) (c := k19c2) (by decide +kernel) rfl rfl rfl (by decide +kernel)
set_option maxRecDepth 65536 in
theorem w_c20 : (Jvm.Cond.code ({ cls := "java/util/ArrayList", name := "grow", desc := "(I)[Ljava/lang/Object;" } : Jvm.MethodName) jdk_38_method_6_code (4 : Nat) (Option.some (Jvm.ClassFile.FieldType.array (Jvm.ClassFile.FieldType.object "java/lang/Object")))).before args0 about1 = true := code_word (m := ⟨19, 1⟩) (meth := k19m1) (c := k19c1) (by decide +kernel) rfl rfl rfl (by decide +kernel)
set_option maxRecDepth 65536 in
theorem w_c21 : (Jvm.Cond.code ({ cls := "java/lang/Math", name := "max", desc := "(II)I" } : Jvm.MethodName) jdk_29_method_65_code (2 : Nat) (Option.some Jvm.ClassFile.FieldType.int)).before args0 about1 = true := code_word (m := ⟨26, 1⟩) (meth := k26m1) (c := k26c1) (by decide +kernel) rfl rfl rfl (by decide +kernel)
set_option maxRecDepth 65536 in
theorem w_c22 : (Jvm.Cond.code ({ cls := "java/util/ArrayList", name := "toArray", desc := "()[Ljava/lang/Object;" } : Jvm.MethodName) jdk_38_method_16_code (1 : Nat) (Option.some (Jvm.ClassFile.FieldType.array (Jvm.ClassFile.FieldType.object "java/lang/Object")))).before args0 about1 = true := code_word (m := ⟨19, 4⟩) (meth := k19m4) (c := k19c4) (by decide +kernel) rfl rfl rfl (by decide +kernel)
set_option maxRecDepth 65536 in
theorem w_c23 : (Jvm.Cond.code ({ cls := "java/util/Arrays", name := "copyOf", desc := "([Ljava/lang/Object;I)[Ljava/lang/Object;" } : Jvm.MethodName) jdk_65_method_119_code (2 : Nat) (Option.some (Jvm.ClassFile.FieldType.array (Jvm.ClassFile.FieldType.object "java/lang/Object")))).before args0 about1 = true := code_word (m := ⟨27, 1⟩) (meth := k27m1) (c := k27c1) (by decide +kernel) rfl rfl rfl (by decide +kernel)
set_option maxRecDepth 65536 in
theorem w_c24 : (Jvm.Cond.code ({ cls := "java/util/Arrays", name := "copyOf", desc := "([Ljava/lang/Object;ILjava/lang/Class;)[Ljava/lang/Object;" } : Jvm.MethodName) jdk_65_method_120_code (4 : Nat) (Option.some (Jvm.ClassFile.FieldType.array (Jvm.ClassFile.FieldType.object "java/lang/Object")))).before args0 about1 = true := code_word (m := ⟨27, 2⟩) (meth := k27m2) (c := k27c2) (by decide +kernel) rfl rfl rfl (by decide +kernel)
set_option maxRecDepth 65536 in
theorem w_c25 : (Jvm.Cond.code ({ cls := "java/lang/Math", name := "min", desc := "(II)I" } : Jvm.MethodName) jdk_29_method_69_code (2 : Nat) (Option.some Jvm.ClassFile.FieldType.int)).before args0 about1 = true := code_word (m := ⟨26, 2⟩) (meth := k26m2) (c := k26c2) (by decide +kernel) rfl rfl rfl (by decide +kernel)
set_option maxRecDepth 65536 in
theorem w_c26 : (Jvm.Cond.code ({ cls := "java/util/List", name := "of", desc := "([Ljava/lang/Object;)Ljava/util/List;" } : Jvm.MethodName) jdk_40_method_47_code (2 : Nat) (Option.some (Jvm.ClassFile.FieldType.object "java/util/List"))).before args0 about1 = true := code_word (m := ⟨15, 3⟩) (meth := k15m3) (c := k15c3) (by decide +kernel) rfl rfl rfl (by decide +kernel)
set_option maxRecDepth 65536 in
theorem w_c27 : (Jvm.Cond.code ({ cls := "java/util/ImmutableCollections$List12", name := "<init>", desc := "(Ljava/lang/Object;)V" } : Jvm.MethodName) jdk_44_method_1_code (2 : Nat) (Option.none : Option Jvm.ClassFile.FieldType)).before args0 about1 = true := code_word (m := ⟨24, 0⟩) (meth := k24m0) (c := k24c0) (by decide +kernel) rfl rfl rfl (by decide +kernel)
set_option maxRecDepth 65536 in
theorem w_c28 : (Jvm.Cond.code ({ cls := "java/util/ImmutableCollections$AbstractImmutableList", name := "<init>", desc := "()V" } : Jvm.MethodName) jdk_46_method_1_code (1 : Nat) (Option.none : Option Jvm.ClassFile.FieldType)).before args0 about1 = true := code_word (m := ⟨23, 0⟩) (meth := k23m0) (c := k23c0) (by decide +kernel) rfl rfl rfl (by decide +kernel)
set_option maxRecDepth 65536 in
theorem w_c29 : (Jvm.Cond.code ({ cls := "java/util/ImmutableCollections$AbstractImmutableCollection", name := "<init>", desc := "()V" } : Jvm.MethodName) jdk_47_method_1_code (1 : Nat) (Option.none : Option Jvm.ClassFile.FieldType)).before args0 about1 = true := code_word (m := ⟨22, 0⟩) (meth := k22m0) (c := k22c0) (by decide +kernel) rfl rfl rfl (by decide +kernel)
set_option maxRecDepth 65536 in
theorem w_c30 : (Jvm.Cond.code ({ cls := "java/util/Objects", name := "requireNonNull", desc := "(Ljava/lang/Object;)Ljava/lang/Object;" } : Jvm.MethodName) jdk_31_method_10_code (1 : Nat) (Option.some (Jvm.ClassFile.FieldType.object "java/lang/Object"))).before args0 about1 = true := code_word (m := ⟨20, 1⟩) (meth := k20m1) (c := k20c1) (by decide +kernel) rfl rfl rfl (by decide +kernel)
set_option maxRecDepth 65536 in
theorem w_c31 : (Jvm.Cond.code ({ cls := "com/example/harpocrates/harpocrates/data/Taxonomy", name := "find", desc := "(Ljava/lang/String;)Ljava/util/Optional;" } : Jvm.MethodName) prog_9_method_6_code (4 : Nat) (Option.some (Jvm.ClassFile.FieldType.object "java/util/Optional"))).before args0 about1 = true := code_word (m := ⟨3, 1⟩) (meth := k3m1) (c := k3c1) (by decide +kernel) rfl rfl rfl (by decide +kernel)
set_option maxRecDepth 65536 in
theorem w_c32 : (Jvm.Cond.code ({ cls := "java/lang/String", name := "equals", desc := "(Ljava/lang/Object;)Z" } : Jvm.MethodName) jdk_42_method_66_code (3 : Nat) (Option.some Jvm.ClassFile.FieldType.boolean)).before args0 about1 = true := code_word (m := ⟨9, 2⟩) (meth := k9m2) (c := k9c2) (by decide +kernel) rfl rfl rfl (by decide +kernel)
set_option maxRecDepth 65536 in
theorem w_c33 : (Jvm.Cond.code ({ cls := "java/lang/StringLatin1", name := "equals", desc := "([B[B)Z" } : Jvm.MethodName) jdk_43_method_13_code (3 : Nat) (Option.some Jvm.ClassFile.FieldType.boolean)).before args0 about1 = true := code_word (m := ⟨10, 2⟩) (meth := k10m2) (c := k10c2) (by decide +kernel) rfl rfl rfl (by decide +kernel)
set_option maxRecDepth 65536 in
theorem w_c34 : (Jvm.Cond.code ({ cls := "java/util/Optional", name := "of", desc := "(Ljava/lang/Object;)Ljava/util/Optional;" } : Jvm.MethodName) jdk_32_method_3_code (1 : Nat) (Option.some (Jvm.ClassFile.FieldType.object "java/util/Optional"))).before args0 about1 = true := code_word (m := ⟨29, 2⟩) (meth := k29m2) (c := k29c2) (by decide +kernel) rfl rfl rfl (by decide +kernel)
set_option maxRecDepth 65536 in
theorem w_c35 : (Jvm.Cond.code ({ cls := "java/util/Optional", name := "<init>", desc := "(Ljava/lang/Object;)V" } : Jvm.MethodName) jdk_32_method_2_code (2 : Nat) (Option.none : Option Jvm.ClassFile.FieldType)).before args0 about1 = true := code_word (m := ⟨29, 1⟩) (meth := k29m1) (c := k29c1) (by decide +kernel) rfl rfl rfl (by decide +kernel)
set_option maxRecDepth 65536 in
theorem w_c36 : (Jvm.Cond.code ({ cls := "java/util/Optional", name := "isEmpty", desc := "()Z" } : Jvm.MethodName) jdk_32_method_7_code (1 : Nat) (Option.some Jvm.ClassFile.FieldType.boolean)).before args0 about1 = true := code_word (m := ⟨29, 3⟩) (meth := k29m3) (c := k29c3) (by decide +kernel) rfl rfl rfl (by decide +kernel)
set_option maxRecDepth 65536 in
theorem w_c37 : (Jvm.Cond.code ({ cls := "java/util/Optional", name := "orElse", desc := "(Ljava/lang/Object;)Ljava/lang/Object;" } : Jvm.MethodName) jdk_32_method_15_code (2 : Nat) (Option.some (Jvm.ClassFile.FieldType.object "java/lang/Object"))).before args0 about1 = true := code_word (m := ⟨29, 4⟩) (meth := k29m4) (c := k29c4) (by decide +kernel) rfl rfl rfl (by decide +kernel)
set_option maxRecDepth 65536 in
theorem w_c38 : (Jvm.Cond.code ({ cls := "java/util/ImmutableCollections$List12", name := "<init>", desc := "(Ljava/lang/Object;Ljava/lang/Object;)V" } : Jvm.MethodName) jdk_44_method_2_code (3 : Nat) (Option.none : Option Jvm.ClassFile.FieldType)).before args0 about1 = true := code_word (m := ⟨24, 1⟩) (meth := k24m1) (c := k24c1) (by decide +kernel) rfl rfl rfl (by decide +kernel)
set_option maxRecDepth 65536 in
theorem w_c39 : (Jvm.Cond.code ({ cls := "com/example/harpocrates/harpocrates/data/TaxonomyFindPinLaw", name := "inC2", desc := "(Lcom/example/harpocrates/harpocrates/data/Taxonomy;CC)Lcom/example/harpocrates/harpocrates/data/Taxonomy;" } : Jvm.MethodName) method_3_code (3 : Nat) (Option.some (Jvm.ClassFile.FieldType.object "com/example/harpocrates/harpocrates/data/Taxonomy"))).before args0 about1 = true := code_word (m := ⟨1, 2⟩) (meth := k1m2) (c := k1c2) (by decide +kernel) rfl rfl rfl (by decide +kernel)
set_option maxRecDepth 65536 in
theorem w_c40 : (Jvm.Cond.code ({ cls := "com/example/harpocrates/harpocrates/data/TaxonomyFindPinLaw", name := "inC1", desc := "(Lcom/example/harpocrates/harpocrates/data/Taxonomy;Lcom/example/harpocrates/harpocrates/data/Taxonomy;ZCCC)Lcom/example/harpocrates/harpocrates/data/Taxonomy;" } : Jvm.MethodName) method_2_code (6 : Nat) (Option.some (Jvm.ClassFile.FieldType.object "com/example/harpocrates/harpocrates/data/Taxonomy"))).before args0 about1 = true := code_word (m := ⟨1, 1⟩) (meth := k1m1) (c := k1c1) (by decide +kernel) rfl rfl rfl (by decide +kernel)
set_option maxRecDepth 65536 in
theorem w_c41 : (Jvm.Cond.code ({ cls := "java/util/Optional", name := "empty", desc := "()Ljava/util/Optional;" } : Jvm.MethodName) jdk_32_method_1_code (1 : Nat) (Option.some (Jvm.ClassFile.FieldType.object "java/util/Optional"))).before args0 about1 = true := code_word (m := ⟨29, 0⟩) (meth := k29m0) (c := k29c0) (by decide +kernel) rfl rfl rfl (by decide +kernel)
set_option maxRecDepth 65536 in
theorem w_c42 : (Jvm.Cond.code ({ cls := "java/util/ImmutableCollections$List12", name := "size", desc := "()I" } : Jvm.MethodName) jdk_44_method_3_code (1 : Nat) (Option.some Jvm.ClassFile.FieldType.int)).before args0 about1 = true := code_word (m := ⟨24, 2⟩) (meth := k24m2) (c := k24c2) (by decide +kernel) rfl rfl rfl (by decide +kernel)
set_option maxRecDepth 65536 in
theorem w_c43 : (Jvm.Cond.code ({ cls := "java/util/ImmutableCollections$List12", name := "get", desc := "(I)Ljava/lang/Object;" } : Jvm.MethodName) jdk_44_method_5_code (2 : Nat) (Option.some (Jvm.ClassFile.FieldType.object "java/lang/Object"))).before args0 about1 = true := code_word (m := ⟨24, 3⟩) (meth := k24m3) (c := k24c3) (by decide +kernel) rfl rfl rfl (by decide +kernel)
set_option maxRecDepth 65536 in
theorem w_c44 : (Jvm.Cond.code ({ cls := "java/util/ImmutableCollections$ListN", name := "size", desc := "()I" } : Jvm.MethodName) jdk_45_method_3_code (1 : Nat) (Option.some Jvm.ClassFile.FieldType.int)).before args0 about1 = true := code_word (m := ⟨25, 0⟩) (meth := k25m0) (c := k25c0) (by decide +kernel) rfl rfl rfl (by decide +kernel)
def codes1 : List Jvm.Cond := [Jvm.Cond.code x code maxLocals ret, Jvm.Cond.code ({ cls := "java/lang/String", name := "valueOf", desc := "(C)Ljava/lang/String;" } : Jvm.MethodName) jdk_42_method_139_code (1 : Nat) (Option.some (Jvm.ClassFile.FieldType.object "java/lang/String")), Jvm.Cond.code ({ cls := "java/lang/StringLatin1", name := "canEncode", desc := "(C)Z" } : Jvm.MethodName) jdk_43_method_3_code (1 : Nat) (Option.some Jvm.ClassFile.FieldType.boolean), Jvm.Cond.code ({ cls := "java/lang/StringLatin1", name := "toBytes", desc := "(C)[B" } : Jvm.MethodName) jdk_43_method_46_code (1 : Nat) (Option.some (Jvm.ClassFile.FieldType.array Jvm.ClassFile.FieldType.byte)), Jvm.Cond.code ({ cls := "java/lang/String", name := "<init>", desc := "([BB)V" } : Jvm.MethodName) jdk_42_method_151_code (3 : Nat) (Option.none : Option Jvm.ClassFile.FieldType), Jvm.Cond.code ({ cls := "java/lang/Object", name := "<init>", desc := "()V" } : Jvm.MethodName) object_method_1_code (1 : Nat) (Option.none : Option Jvm.ClassFile.FieldType), Jvm.Cond.code ({ cls := "java/util/ArrayList", name := "<init>", desc := "()V" } : Jvm.MethodName) jdk_38_method_2_code (1 : Nat) (Option.none : Option Jvm.ClassFile.FieldType), Jvm.Cond.code ({ cls := "java/util/AbstractList", name := "<init>", desc := "()V" } : Jvm.MethodName) jdk_39_method_1_code (1 : Nat) (Option.none : Option Jvm.ClassFile.FieldType), Jvm.Cond.code ({ cls := "java/util/AbstractCollection", name := "<init>", desc := "()V" } : Jvm.MethodName) jdk_22_method_1_code (1 : Nat) (Option.none : Option Jvm.ClassFile.FieldType), Jvm.Cond.code ({ cls := "com/example/harpocrates/harpocrates/data/Taxonomy", name := "<init>", desc := "(Ljava/lang/String;Ljava/util/List;)V" } : Jvm.MethodName) prog_9_method_1_code (3 : Nat) (Option.none : Option Jvm.ClassFile.FieldType), Jvm.Cond.code ({ cls := "java/lang/Record", name := "<init>", desc := "()V" } : Jvm.MethodName) jdk_30_method_1_code (1 : Nat) (Option.none : Option Jvm.ClassFile.FieldType), Jvm.Cond.code ({ cls := "java/util/Objects", name := "requireNonNull", desc := "(Ljava/lang/Object;Ljava/lang/String;)Ljava/lang/Object;" } : Jvm.MethodName) jdk_31_method_11_code (2 : Nat) (Option.some (Jvm.ClassFile.FieldType.object "java/lang/Object")), Jvm.Cond.code ({ cls := "java/lang/String", name := "isEmpty", desc := "()Z" } : Jvm.MethodName) jdk_42_method_55_code (1 : Nat) (Option.some Jvm.ClassFile.FieldType.boolean), Jvm.Cond.code ({ cls := "java/util/List", name := "copyOf", desc := "(Ljava/util/Collection;)Ljava/util/List;" } : Jvm.MethodName) jdk_40_method_48_code (1 : Nat) (Option.some (Jvm.ClassFile.FieldType.object "java/util/List")), Jvm.Cond.code ({ cls := "java/util/ImmutableCollections", name := "listCopy", desc := "(Ljava/util/Collection;)Ljava/util/List;" } : Jvm.MethodName) jdk_56_method_3_code (2 : Nat) (Option.some (Jvm.ClassFile.FieldType.object "java/util/List")), Jvm.Cond.code ({ cls := "java/util/ArrayList", name := "isEmpty", desc := "()Z" } : Jvm.MethodName) jdk_38_method_9_code (1 : Nat) (Option.some Jvm.ClassFile.FieldType.boolean), Jvm.Cond.code ({ cls := "java/util/List", name := "of", desc := "()Ljava/util/List;" } : Jvm.MethodName) jdk_40_method_36_code (0 : Nat) (Option.some (Jvm.ClassFile.FieldType.object "java/util/List")), Jvm.Cond.code ({ cls := "java/util/ArrayList", name := "add", desc := "(Ljava/lang/Object;)Z" } : Jvm.MethodName) jdk_38_method_25_code (2 : Nat) (Option.some Jvm.ClassFile.FieldType.boolean), Jvm.Cond.code ({ cls := "java/util/ArrayList", name := "add", desc := "(Ljava/lang/Object;[Ljava/lang/Object;I)V" } : Jvm.MethodName) jdk_38_method_24_code (4 : Nat) (Option.none : Option Jvm.ClassFile.FieldType), Jvm.Cond.code ({ cls := "java/util/ArrayList", name := "grow", desc := "()[Ljava/lang/Object;" } : Jvm.MethodName) jdk_38_method_7_code (1 : Nat) (Option.some (Jvm.ClassFile.FieldType.array (Jvm.ClassFile.FieldType.object "java/lang/Object"))), Jvm.Cond.code ({ cls := "java/util/ArrayList", name := "grow", desc := "(I)[Ljava/lang/Object;" } : Jvm.MethodName) jdk_38_method_6_code (4 : Nat) (Option.some (Jvm.ClassFile.FieldType.array (Jvm.ClassFile.FieldType.object "java/lang/Object"))), Jvm.Cond.code ({ cls := "java/lang/Math", name := "max", desc := "(II)I" } : Jvm.MethodName) jdk_29_method_65_code (2 : Nat) (Option.some Jvm.ClassFile.FieldType.int), Jvm.Cond.code ({ cls := "java/util/ArrayList", name := "toArray", desc := "()[Ljava/lang/Object;" } : Jvm.MethodName) jdk_38_method_16_code (1 : Nat) (Option.some (Jvm.ClassFile.FieldType.array (Jvm.ClassFile.FieldType.object "java/lang/Object"))), Jvm.Cond.code ({ cls := "java/util/Arrays", name := "copyOf", desc := "([Ljava/lang/Object;I)[Ljava/lang/Object;" } : Jvm.MethodName) jdk_65_method_119_code (2 : Nat) (Option.some (Jvm.ClassFile.FieldType.array (Jvm.ClassFile.FieldType.object "java/lang/Object"))), Jvm.Cond.code ({ cls := "java/util/Arrays", name := "copyOf", desc := "([Ljava/lang/Object;ILjava/lang/Class;)[Ljava/lang/Object;" } : Jvm.MethodName) jdk_65_method_120_code (4 : Nat) (Option.some (Jvm.ClassFile.FieldType.array (Jvm.ClassFile.FieldType.object "java/lang/Object"))), Jvm.Cond.code ({ cls := "java/lang/Math", name := "min", desc := "(II)I" } : Jvm.MethodName) jdk_29_method_69_code (2 : Nat) (Option.some Jvm.ClassFile.FieldType.int), Jvm.Cond.code ({ cls := "java/util/List", name := "of", desc := "([Ljava/lang/Object;)Ljava/util/List;" } : Jvm.MethodName) jdk_40_method_47_code (2 : Nat) (Option.some (Jvm.ClassFile.FieldType.object "java/util/List")), Jvm.Cond.code ({ cls := "java/util/ImmutableCollections$List12", name := "<init>", desc := "(Ljava/lang/Object;)V" } : Jvm.MethodName) jdk_44_method_1_code (2 : Nat) (Option.none : Option Jvm.ClassFile.FieldType), Jvm.Cond.code ({ cls := "java/util/ImmutableCollections$AbstractImmutableList", name := "<init>", desc := "()V" } : Jvm.MethodName) jdk_46_method_1_code (1 : Nat) (Option.none : Option Jvm.ClassFile.FieldType), Jvm.Cond.code ({ cls := "java/util/ImmutableCollections$AbstractImmutableCollection", name := "<init>", desc := "()V" } : Jvm.MethodName) jdk_47_method_1_code (1 : Nat) (Option.none : Option Jvm.ClassFile.FieldType), Jvm.Cond.code ({ cls := "java/util/Objects", name := "requireNonNull", desc := "(Ljava/lang/Object;)Ljava/lang/Object;" } : Jvm.MethodName) jdk_31_method_10_code (1 : Nat) (Option.some (Jvm.ClassFile.FieldType.object "java/lang/Object")), Jvm.Cond.code ({ cls := "com/example/harpocrates/harpocrates/data/Taxonomy", name := "find", desc := "(Ljava/lang/String;)Ljava/util/Optional;" } : Jvm.MethodName) prog_9_method_6_code (4 : Nat) (Option.some (Jvm.ClassFile.FieldType.object "java/util/Optional")), Jvm.Cond.code ({ cls := "java/lang/String", name := "equals", desc := "(Ljava/lang/Object;)Z" } : Jvm.MethodName) jdk_42_method_66_code (3 : Nat) (Option.some Jvm.ClassFile.FieldType.boolean), Jvm.Cond.code ({ cls := "java/lang/StringLatin1", name := "equals", desc := "([B[B)Z" } : Jvm.MethodName) jdk_43_method_13_code (3 : Nat) (Option.some Jvm.ClassFile.FieldType.boolean), Jvm.Cond.code ({ cls := "java/util/Optional", name := "of", desc := "(Ljava/lang/Object;)Ljava/util/Optional;" } : Jvm.MethodName) jdk_32_method_3_code (1 : Nat) (Option.some (Jvm.ClassFile.FieldType.object "java/util/Optional")), Jvm.Cond.code ({ cls := "java/util/Optional", name := "<init>", desc := "(Ljava/lang/Object;)V" } : Jvm.MethodName) jdk_32_method_2_code (2 : Nat) (Option.none : Option Jvm.ClassFile.FieldType), Jvm.Cond.code ({ cls := "java/util/Optional", name := "isEmpty", desc := "()Z" } : Jvm.MethodName) jdk_32_method_7_code (1 : Nat) (Option.some Jvm.ClassFile.FieldType.boolean), Jvm.Cond.code ({ cls := "java/util/Optional", name := "orElse", desc := "(Ljava/lang/Object;)Ljava/lang/Object;" } : Jvm.MethodName) jdk_32_method_15_code (2 : Nat) (Option.some (Jvm.ClassFile.FieldType.object "java/lang/Object")), Jvm.Cond.code ({ cls := "java/util/ImmutableCollections$List12", name := "<init>", desc := "(Ljava/lang/Object;Ljava/lang/Object;)V" } : Jvm.MethodName) jdk_44_method_2_code (3 : Nat) (Option.none : Option Jvm.ClassFile.FieldType), Jvm.Cond.code ({ cls := "com/example/harpocrates/harpocrates/data/TaxonomyFindPinLaw", name := "inC2", desc := "(Lcom/example/harpocrates/harpocrates/data/Taxonomy;CC)Lcom/example/harpocrates/harpocrates/data/Taxonomy;" } : Jvm.MethodName) method_3_code (3 : Nat) (Option.some (Jvm.ClassFile.FieldType.object "com/example/harpocrates/harpocrates/data/Taxonomy")), Jvm.Cond.code ({ cls := "com/example/harpocrates/harpocrates/data/TaxonomyFindPinLaw", name := "inC1", desc := "(Lcom/example/harpocrates/harpocrates/data/Taxonomy;Lcom/example/harpocrates/harpocrates/data/Taxonomy;ZCCC)Lcom/example/harpocrates/harpocrates/data/Taxonomy;" } : Jvm.MethodName) method_2_code (6 : Nat) (Option.some (Jvm.ClassFile.FieldType.object "com/example/harpocrates/harpocrates/data/Taxonomy")), Jvm.Cond.code ({ cls := "java/util/Optional", name := "empty", desc := "()Ljava/util/Optional;" } : Jvm.MethodName) jdk_32_method_1_code (1 : Nat) (Option.some (Jvm.ClassFile.FieldType.object "java/util/Optional")), Jvm.Cond.code ({ cls := "java/util/ImmutableCollections$List12", name := "size", desc := "()I" } : Jvm.MethodName) jdk_44_method_3_code (1 : Nat) (Option.some Jvm.ClassFile.FieldType.int), Jvm.Cond.code ({ cls := "java/util/ImmutableCollections$List12", name := "get", desc := "(I)Ljava/lang/Object;" } : Jvm.MethodName) jdk_44_method_5_code (2 : Nat) (Option.some (Jvm.ClassFile.FieldType.object "java/lang/Object")), Jvm.Cond.code ({ cls := "java/util/ImmutableCollections$ListN", name := "size", desc := "()I" } : Jvm.MethodName) jdk_45_method_3_code (1 : Nat) (Option.some Jvm.ClassFile.FieldType.int)]
set_option maxRecDepth 65536 in
theorem codes_eq : words1.filter isCode = codes1 := rfl
theorem w_codes : ∀ c ∈ words1.filter isCode, c.before args0 about1 = true := by
  rw [codes_eq]
  intro c hc
  simp only [codes1, List.mem_cons, List.not_mem_nil, or_false] at hc
  rcases hc with rfl | rfl | rfl | rfl | rfl | rfl | rfl | rfl | rfl | rfl | rfl | rfl | rfl | rfl | rfl | rfl | rfl | rfl | rfl | rfl | rfl | rfl | rfl | rfl | rfl | rfl | rfl | rfl | rfl | rfl | rfl | rfl | rfl | rfl | rfl | rfl | rfl | rfl | rfl | rfl | rfl | rfl | rfl | rfl | rfl
  · exact w_c0
  · exact w_c1
  · exact w_c2
  · exact w_c3
  · exact w_c4
  · exact w_c5
  · exact w_c6
  · exact w_c7
  · exact w_c8
  · exact w_c9
  · exact w_c10
  · exact w_c11
  · exact w_c12
  · exact w_c13
  · exact w_c14
  · exact w_c15
  · exact w_c16
  · exact w_c17
  · exact w_c18
  · exact w_c19
  · exact w_c20
  · exact w_c21
  · exact w_c22
  · exact w_c23
  · exact w_c24
  · exact w_c25
  · exact w_c26
  · exact w_c27
  · exact w_c28
  · exact w_c29
  · exact w_c30
  · exact w_c31
  · exact w_c32
  · exact w_c33
  · exact w_c34
  · exact w_c35
  · exact w_c36
  · exact w_c37
  · exact w_c38
  · exact w_c39
  · exact w_c40
  · exact w_c41
  · exact w_c42
  · exact w_c43
  · exact w_c44
set_option maxRecDepth 65536 in
theorem w_t1 : (words1.take 24).all (fun c => isCode c || c.before args0 about1) = true := by decide +kernel
set_option maxRecDepth 65536 in
theorem w_t2 : ((words1.drop 24).take 24).all (fun c => isCode c || c.before args0 about1) = true := by decide +kernel
set_option maxRecDepth 65536 in
theorem w_t3 : (((words1.drop 24).drop 24).take 24).all (fun c => isCode c || c.before args0 about1) = true := by decide +kernel
set_option maxRecDepth 65536 in
theorem w_t4 : ((((words1.drop 24).drop 24).drop 24).take 24).all (fun c => isCode c || c.before args0 about1) = true := by decide +kernel
set_option maxRecDepth 65536 in
theorem w_t5 : (((((words1.drop 24).drop 24).drop 24).drop 24).take 24).all (fun c => isCode c || c.before args0 about1) = true := by decide +kernel
set_option maxRecDepth 65536 in
theorem w_t6 : ((((((words1.drop 24).drop 24).drop 24).drop 24).drop 24).take 24).all (fun c => isCode c || c.before args0 about1) = true := by decide +kernel
set_option maxRecDepth 65536 in
theorem w_t7 : (((((((words1.drop 24).drop 24).drop 24).drop 24).drop 24).drop 24).take 24).all (fun c => isCode c || c.before args0 about1) = true := by decide +kernel
set_option maxRecDepth 65536 in
theorem w_t8 : ((((((((words1.drop 24).drop 24).drop 24).drop 24).drop 24).drop 24).drop 24).take 24).all (fun c => isCode c || c.before args0 about1) = true := by decide +kernel
set_option maxRecDepth 65536 in
theorem w_t9 : (((((((((words1.drop 24).drop 24).drop 24).drop 24).drop 24).drop 24).drop 24).drop 24).take 24).all (fun c => isCode c || c.before args0 about1) = true := by decide +kernel
set_option maxRecDepth 65536 in
theorem w_t10 : ((((((((((words1.drop 24).drop 24).drop 24).drop 24).drop 24).drop 24).drop 24).drop 24).drop 24).take 24).all (fun c => isCode c || c.before args0 about1) = true := by decide +kernel
set_option maxRecDepth 65536 in
theorem w_t11 : (((((((((((words1.drop 24).drop 24).drop 24).drop 24).drop 24).drop 24).drop 24).drop 24).drop 24).drop 24).take 24).all (fun c => isCode c || c.before args0 about1) = true := by decide +kernel
set_option maxRecDepth 65536 in
theorem w_t12 : (((((((((((words1.drop 24).drop 24).drop 24).drop 24).drop 24).drop 24).drop 24).drop 24).drop 24).drop 24).drop 24).all (fun c => isCode c || c.before args0 about1) = true := by decide +kernel
theorem w_tables : (allAtoms (Jvm.Cond.code x code maxLocals ret :: tables_1)).before args0 about1 = true := by
  rw [allAtoms_all]
  show words1.all (fun c => c.before args0 about1) = true
  refine all_split ?_ w_codes
  rw [← List.take_append_drop 24 words1, List.all_append, w_t1, ← List.take_append_drop 24 (words1.drop 24), List.all_append, w_t2, ← List.take_append_drop 24 ((words1.drop 24).drop 24), List.all_append, w_t3, ← List.take_append_drop 24 (((words1.drop 24).drop 24).drop 24), List.all_append, w_t4, ← List.take_append_drop 24 ((((words1.drop 24).drop 24).drop 24).drop 24), List.all_append, w_t5, ← List.take_append_drop 24 (((((words1.drop 24).drop 24).drop 24).drop 24).drop 24), List.all_append, w_t6, ← List.take_append_drop 24 ((((((words1.drop 24).drop 24).drop 24).drop 24).drop 24).drop 24), List.all_append, w_t7, ← List.take_append_drop 24 (((((((words1.drop 24).drop 24).drop 24).drop 24).drop 24).drop 24).drop 24), List.all_append, w_t8, ← List.take_append_drop 24 ((((((((words1.drop 24).drop 24).drop 24).drop 24).drop 24).drop 24).drop 24).drop 24), List.all_append, w_t9, ← List.take_append_drop 24 (((((((((words1.drop 24).drop 24).drop 24).drop 24).drop 24).drop 24).drop 24).drop 24).drop 24), List.all_append, w_t10, ← List.take_append_drop 24 ((((((((((words1.drop 24).drop 24).drop 24).drop 24).drop 24).drop 24).drop 24).drop 24).drop 24).drop 24), List.all_append, w_t11, w_t12]
  rfl
set_option maxRecDepth 65536 in
theorem w_rest : rest_1_c.before args0 about1 = true := by decide +kernel
set_option maxRecDepth 65536 in
theorem w_case : (Jvm.Cond.and given_1 narrow_1).before args0 about1 = true := by decide +kernel
theorem w_applies : (headSpec (Jvm.Cond.code x code maxLocals ret :: tables_1) room_1).applies x e0.platform about1 = true :=
  (Spec.applies_iff w_frames).mpr ⟨w_running, w_runnable, w_alone, w_named, w_hears, w_ripe, w_room, w_tables⟩
theorem atStart : AtStart classFile x code maxLocals ret World_1 tables_1 room_1 Calls_1 rest_1 Pre_1 launch0 p0 e0 about1 theMethod args0 below0 :=
  ⟨lists_1, trivial, launch0.admits_env _ _ _, launch0.least_env, fairChoices_fair.cas, fairChoices_fair.clock, w_frames, w_args, w_heap, w_applies, ⟨⟨37, k37, 5, by decide +kernel, rfl, rfl, _, rfl, rfl⟩, trivial⟩, w_rest, w_case⟩
end start1
theorem witness_1 : WitnessClaimed_1 := ⟨start1.p0, start1.e0, start1.about1, start1.theMethod, start1.args0, start1.below0, start1.atStart⟩
end Jvm.Pilot.@@N@@
