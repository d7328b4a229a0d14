import JvmDerived
import JvmDerived.Pilot.@@N@@Statement
import JvmDerived.Pilot.@@N@@Code
set_option linter.unusedVariables false
set_option linter.unusedSimpArgs false
namespace Jvm.Pilot.@@N@@
open Jvm Jvm.ClassFile Sem Op Lib Jvm.Free Jvm.Stand Jvm.LawKit Jvm.RoadKit Bundle Jvm.Pilot.@@N@@.Jvm.D
set_option maxRecDepth 65536
set_option maxHeartbeats 40000000
def HW (Z : State) (a0 : Array Value) : Prop := ∀ d ∈ tables_1, d.before a0 Z = true
theorem HW.at {Z : State} {a0 : Array Value} (hw : HW Z a0) (i : Nat) {d : Jvm.Cond} (h : tables_1[i]? = some d) : d.before a0 Z = true := hw _ (List.mem_of_getElem? h)
section OwnKit
variable {p : Program} {l : Launch} {e : Env} {R : Room} {s : State} {m : MethodId} {args : Array Value} {below : List Frame} {meth : Method} {c : Code} {T : State} {locs : List Loc} {cells slots : Nat} {Z : State} {a0 : Array Value} {h : Heap}
/-- from A the walk comes to an end of which F holds -/
def Rch (p : Program) (e : Env) (below : List Frame) (F : Outcome → State → Prop) (A : State) : Prop := ∃ s₂ o, Steps p.tables e below A s₂ ∧ s₂.status = .running ∧ Ended s₂ below o ∧ F o s₂
abbrev Aw (p : Program) (e : Env) (below : List Frame) (F : Outcome → State → Prop) (T : State) (m : MethodId) (pc : Nat) (Ls : Array Slot) (st : List Value) : Prop := Rch p e below F (T.setTop (mkF m pc Ls st))
theorem Rch.go {F : Outcome → State → Prop} {A B : State} (h : ∀ t, Steps p.tables e below B t → Steps p.tables e below A t) (r : Rch p e below F B) : Rch p e below F A := by
  obtain ⟨t, o, h1, h2⟩ := r
  exact ⟨t, o, h t h1, h2⟩
/-- what a body leaves -/
def Leaves (s : State) (C S : Nat) (Q : Option Value → Heap → List Loc → Prop) (o : Outcome) (U : State) : Prop := ∃ v L, o = .returned v ∧ Q v U.heap L ∧ FrameEnd s o U L C S
/-- a body's contract, at one heap and one row of arguments -/
def Ctr (l : Launch) (Z : State) (ws : List Jvm.Cond) (y : MethodName) (bytes : ByteArray) (maxL : Nat) (ret : Option FieldType) (as' : Array Value) (h0 : Heap) (rm : Room) (Q : Option Value → Heap → List Loc → Prop) : Prop :=
  MetFree l y (head1 (Jvm.Cond.code y bytes maxL ret :: ws) rm) (fun a U => a = as' ∧ Z.Warmed39 U.vm ∧ U.heap = h0) (fun _ _ _ _ _ => True) (fun _ U o U' => ∃ v L, o = .returned v ∧ Q v U'.heap L ∧ FrameEnd U o U' L rm.cells rm.slots)
theorem Ctr.of {ws : List Jvm.Cond} {y : MethodName} {bytes : ByteArray} {maxL : Nat} {ret : Option FieldType} {as' : Array Value} {h0 : Heap} {rm : Room} {Q : Option Value → Heap → List Loc → Prop} {Ls : Array Slot} (hpn : plainFor y = true) (ef : ∀ m, entryFrame m as' maxL = mkF m 0 Ls [])
    (H : ∀ (p : Program) (e : Env) (s : State) (m : MethodId) (below : List Frame) (meth : Method) (c : Code) (T : State), p.tables.exec = Jvm.exec → Z.Warmed39 s.vm → c.code = bytes → c.maxLocals = maxL → s.vm.findClass y.cls = some m.cls → meth.name = y.name → meth.sig.returnType = ret → meth.locks = false →
      Stand p l e rm s m as' below meth c T [] 0 0 → T.heap = h0 → Rch p e below (Leaves s rm.cells rm.slots Q) (T.setTop (mkF m 0 Ls []))) : Ctr l Z ws y bytes maxL ret as' h0 rm Q := by
  refine MetFree.of_bodySF hpn hisR ?_
  intro p e s m args below meth c s₁ Bd hml0 hP hK
  obtain ⟨rfl, hZ, hh⟩ := hP
  have e0 : s₁.heap = h0 := by rw [← hh, Bd.state]; rfl
  obtain ⟨t, o, r1, r2, r3, r4⟩ := H p e s m below meth c s₁ Bd.exec hZ Bd.bytes hml0 (findClass_of_methodNamed Bd.named) (name_of_methodNamed Bd.named Bd.method).1 Bd.returns Bd.notSynchronized (Stand.of_body Bd) e0
  exact ⟨t, o, castTop (ef m) r1, r2, r3, r4⟩
theorem Rch.val (X : Stand p l e R s m args below meth c T locs cells slots) (hx : p.tables.exec = Jvm.exec) {pc : Nat} {Ls : Array Slot} {w : Value} {t : FieldType} {i : Instr} {rest : List Value} {Q : Option Value → Heap → List Loc → Prop} {C S : Nat} (hret : meth.sig.returnType = some t) (hlk : meth.locks = false) (hn : narrow t w = w)
    (hi : (i = .ireturn ∧ (t = .int ∨ t = .boolean ∨ t = .byte ∨ t = .char ∨ t = .short) ∧ ∃ z, w = .int z) ∨ (i = .lreturn ∧ t = .long ∧ ∃ z, w = .long z) ∨ (i = .dreturn ∧ t = .double ∧ ∃ z, w = .double z) ∨ (i = .freturn ∧ t = .float ∧ ∃ z, w = .float z) ∨ (i = .areturn ∧ t.isReference = true ∧ w.isRef = true))
    (hd : decode c.code pc = .ok (i, 1)) (hc : cells ≤ C) (hs : slots ≤ S) (hq : Q (some w) T.heap locs) : Rch p e below (Leaves s C S Q) (T.setTop (mkF m pc Ls (w :: rest))) := by
  obtain ⟨fs, hr, hrun, hended, hW, hsame⟩ := X.leave (v := some w) (fun h => by rw [hret] at h; cases h) hlk
  exact ⟨_, _, retOut X hx hret hn hi hd hr, hrun, hended, _, _, rfl, hq, ⟨_, rfl⟩, hW, hsame.mono hc hs⟩
theorem Rch.void (X : Stand p l e R s m args below meth c T locs cells slots) (hx : p.tables.exec = Jvm.exec) {pc : Nat} {Ls : Array Slot} {Q : Option Value → Heap → List Loc → Prop} {C S : Nat} (hret : meth.sig.returnType = none) (hlk : meth.locks = false)
    (hd : decode c.code pc = .ok (.return_, 1)) (hc : cells ≤ C) (hs : slots ≤ S) (hq : Q none T.heap locs) : Rch p e below (Leaves s C S Q) (T.setTop (mkF m pc Ls [])) := by
  obtain ⟨fs, hr, hrun, hended, hW, hsame⟩ := X.leave (v := none) (fun _ => rfl) hlk
  exact ⟨_, _, X.returnOut hx hret hd hr, hrun, hended, _, _, rfl, hq, ⟨_, rfl⟩, hW, hsame.mono hc hs⟩
theorem mayI {t : FieldType} {z : Int32} (ht : t = .int ∨ t = .boolean ∨ t = .byte ∨ t = .char ∨ t = .short) : ((Instr.ireturn : Instr) = .ireturn ∧ (t = .int ∨ t = .boolean ∨ t = .byte ∨ t = .char ∨ t = .short) ∧ ∃ y, (Value.int z) = .int y) ∨ ((Instr.ireturn : Instr) = .lreturn ∧ t = .long ∧ ∃ y, (Value.int z) = .long y) ∨ ((Instr.ireturn : Instr) = .dreturn ∧ t = .double ∧ ∃ y, (Value.int z) = .double y) ∨ ((Instr.ireturn : Instr) = .freturn ∧ t = .float ∧ ∃ y, (Value.int z) = .float y) ∨ ((Instr.ireturn : Instr) = .areturn ∧ t.isReference = true ∧ (Value.int z).isRef = true) := Or.inl ⟨rfl, ht, z, rfl⟩
end OwnKit
section OwnNum
theorem own_pos (x : Int32) : ¬ (x &&& 2147483647) < 0 := fun h => absurd ((XT.and_neg32 x 2147483647).mp h).2 (by decide)
theorem own_rem {y n : Int32} (h : ¬ y < 0) (hn : 0 < n.toInt) : 0 ≤ (y % n).toInt ∧ (y % n).toInt < n.toInt := by
  rw [Int32.toInt_mod]
  have h' : 0 ≤ y.toInt := Int.not_lt.mp fun q => h ((XT.negI32 y).mpr q)
  exact ⟨Int.tmod_nonneg _ h', Int.tmod_lt_of_pos _ hn⟩
end OwnNum
section OwnCase
variable {Z : State} {args : Array Value}
theorem own_fldI {t : Term} {a : Addr} {C n d : String} {k : Int32} (ev : t.eval args Z none [] Z = some (.ref a)) (h : (Cond.eq (.field t C n d) (.int k)).value args Z none Z [] = some true) : Fld Z Z.heap a C n d (.int k) := by
  refine Fld.start ?_
  rw [← fld_at (args := args) (first := Z) (o := none) (idx := []) (C := C) (n := n) (dd := d) ev]
  obtain ⟨x, y, h1, h2, h3, h4⟩ := cmp_v (Or.inl h)
  have h2' : y = .int k := (Option.some.inj ((Term.int_eval k).symm.trans h2)).symm
  subst h2'
  obtain ⟨z, rfl⟩ := h4
  have h5 : z = k := by simpa [Cond.value, h1, Term.int_eval] using h
  rw [h1, h5]
theorem own_fldR {t u : Term} {a b : Addr} {C n d : String} (ev : t.eval args Z none [] Z = some (.ref a)) (eu : u.eval args Z none [] Z = some (.ref b)) (h : (Cond.eq (.field t C n d) u).value args Z none Z [] = some true) : Fld Z Z.heap a C n d (.ref b) := by
  refine Fld.start ?_
  rw [← fld_at (args := args) (first := Z) (o := none) (idx := []) (C := C) (n := n) (dd := d) ev]
  obtain ⟨x, y, h1, h2, h3, h4⟩ := cmp_v (Or.inl h)
  obtain rfl : y = .ref b := Option.some.inj (h2.symm.trans eu)
  rw [h1]
  rcases ref_cases h4.2 with rfl | ⟨z, rfl⟩
  · simp [Cond.value, h1, eu] at h
  · have h5 : z = b := by simpa [Cond.value, h1, eu] using h
    rw [h5]
end OwnCase
section OwnSets
variable {Z : State} {args : Array Value}
theorem own_len {t : Term} {a : Addr} {ty : FieldType} {k : Int32} (ev : t.eval args Z none [] Z = some (.ref a)) (h1 : (Cond.arrayOf t ty).value args Z none Z [] = some true) (h2 : (Cond.eq (.length t) (.int k)).value args Z none Z [] = some true) : ∃ c, Arr Z Z.heap a c ty ∧ c.slots.size < 2 ^ 31 ∧ c.slots.size.toInt32 = k := by
  obtain ⟨c, A⟩ := Arr.start ev h1
  obtain ⟨x, y, e1, e2, e3, e4⟩ := cmp_v (Or.inl h2)
  have e2' : y = .int k := (Option.some.inj ((Term.int_eval k).symm.trans e2)).symm
  subst e2'
  obtain ⟨z, rfl⟩ := e4
  have h5 : z = k := by simpa [Cond.value, e1, Term.int_eval] using h2
  have hA : Z.arrayAt? a = some c := A.fin (Vm.Alike.refl _)
  simp only [Term.eval, ev, hA, Option.bind_eq_bind, Option.bind_some] at e1
  split at e1
  · rename_i hl
    refine ⟨c, A, hl, ?_⟩
    have := Option.some.inj e1
    rw [← h5]; exact Value.int.inj this
  · cases e1
theorem own_elem {t : Term} {a : Addr} {c : Cell} {ty : FieldType} {k : Int32} {v : Value} (A : Arr Z Z.heap a c ty) (ev : t.eval args Z none [] Z = some (.ref a)) (h : (Term.elem t (.int k)).eval args Z none [] Z = some v) : c.slots[k.toNatClampNeg]? = some v := (elem_in h ev (Term.int_eval k) A.1).2
theorem own_eqI {t : Term} {k : Int32} (h : (Cond.eq t (.int k)).value args Z none Z [] = some true) : t.eval args Z none [] Z = some (.int k) := by
  obtain ⟨x, y, e1, e2, e3, e4⟩ := cmp_v (Or.inl h)
  have e2' : y = .int k := (Option.some.inj ((Term.int_eval k).symm.trans e2)).symm
  subst e2'
  obtain ⟨z, rfl⟩ := e4
  have h5 : z = k := by simpa [Cond.value, e1, Term.int_eval] using h
  rw [e1, h5]
theorem own_eqR {t u : Term} {b : Addr} (eu : u.eval args Z none [] Z = some (.ref b)) (h : (Cond.eq t u).value args Z none Z [] = some true) : t.eval args Z none [] Z = some (.ref b) := by
  obtain ⟨x, y, h1, h2, h3, h4⟩ := cmp_v (Or.inl h)
  obtain rfl : y = .ref b := Option.some.inj (h2.symm.trans eu)
  rw [h1]
  rcases ref_cases h4.2 with rfl | ⟨z, rfl⟩
  · simp [Cond.value, h1, eu] at h
  · have h5 : z = b := by simpa [Cond.value, h1, eu] using h
    rw [h5]
theorem own_neI {t : Term} {x k : Int32} (ev : t.eval args Z none [] Z = some (.int x)) (h : (Cond.not (Cond.eq t (.int k))).value args Z none Z [] = some true) : ¬ x = k := fun q => by
  have h' := not_v h
  simp [Cond.value, ev, Term.int_eval, q] at h'
theorem own_fldV {t : Term} {a : Addr} {C n d : String} {v : Value} (ev : t.eval args Z none [] Z = some (.ref a)) (h : (Term.field t C n d).eval args Z none [] Z = some v) : Fld Z Z.heap a C n d v := Fld.start ((fld_at ev).symm.trans h)
theorem own_nref {v : Value} {t : FieldType} (h : v.isRef = true) : narrow t v = v := by cases v <;> first | rfl | (cases h; done) | (cases t <;> rfl)
theorem own_fref {v : Value} {t : FieldType} (h : v.isRef = true) (ht : t.isReference = true := by rfl) : fits t v = true := by cases t <;> first | (cases ht; done) | (cases v <;> first | rfl | (cases h; done))
end OwnSets
section OwnChar
theorem own_lcmp (x : Int64) : lcmpW x x = 0 := by simp [lcmpW]
theorem own_and255 (x : Int32) : ¬ (255 : Int32) < x &&& 255 ∧ ¬ x &&& 255 < 0 := by
  have h : (x &&& 255).toBitVec ≤ 255#32 := by
    show x.toBitVec &&& 255#32 ≤ 255#32
    rw [BitVec.le_def, BitVec.toNat_and]
    exact Nat.and_le_right
  have h2 : (x &&& 255).toInt = ((x &&& 255).toBitVec.toNat : Int) := by
    show (x &&& 255).toBitVec.toInt = _
    rw [BitVec.toInt_eq_toNat_of_lt]
    rw [BitVec.le_def] at h
    have : (255#32).toNat = 255 := rfl
    omega
  rw [BitVec.le_def] at h
  have h3 : (255#32).toNat = 255 := rfl
  rw [Int32.lt_iff_toInt_lt, Int32.lt_iff_toInt_lt, h2]
  have h4 : (255 : Int32).toInt = 255 := rfl
  have h5 : (0 : Int32).toInt = 0 := rfl
  rw [h4, h5]
  omega
/-- a char of eight bits -/
theorem own_chr (x : Int32) : ∃ c, (x &&& 255).toUInt32.toUInt16.toUInt32.toInt32 = c ∧ nar .char c = c ∧ ¬ (255 : Int32) < c ∧ ¬ c < 0 :=
  ⟨x &&& 255, i2c_mask x, i2c_mask x, (own_and255 x).1, (own_and255 x).2⟩
theorem own_ncc (x : Int32) : Value.int ((x.toUInt32.toUInt16.toUInt32.toInt32).toUInt32.toUInt16.toUInt32.toInt32) = Value.int (x.toUInt32.toUInt16.toUInt32.toInt32) := by
  have e : ∀ u : UInt16, (u.toUInt32.toInt32.toUInt32.toUInt16) = u := fun u => by rw [UInt32.toUInt32_toInt32]; exact UInt16.toUInt16_toUInt32 u
  rw [e]
end OwnChar
section OwnInst
variable {p : Program} {l : Launch} {e : Env} {R : Room} {s : State} {m : MethodId} {args : Array Value} {below : List Frame} {meth : Method} {c : Code} {T : State} {locs : List Loc} {cells slots : Nat} {Z : State} {a0 : Array Value} {h : Heap}
/-- the class K is no interface -/
def NI (Z : State) (K : String) : Prop := ∃ (t : ClassId) (k : Class), Z.vm.findClass K = some t ∧ Z.vm.classes[t]? = some k ∧ k.isInterface = false
theorem NI.ofInst {K : String} {n : Nat} (w : (Cond.instantiable K n).before a0 Z = true) : NI Z K := by
  obtain ⟨c, k, h1, h2, -, h3, -⟩ := Cond.instantiable_spec w
  exact ⟨c, k, h1, h2, by simp at h3; exact h3.1⟩
theorem NI.ofSel {C K : String} {y z : MethodName} (w : (Cond.selects C y z).before a0 Z = true) (hz : z.cls = K) : NI Z K := by
  obtain ⟨c2, r2, m2, -, -, q3, -, kP, hkP, hkPi⟩ := Cond.selects_spec w
  exact ⟨m2.cls, kP, hz ▸ findClass_of_methodNamed q3, hkP, hkPi⟩
theorem own_nsRoot {O K : String} (w : (Cond.noSuperclass O).before a0 Z = true) (wk : NI Z K) (hn : O ≠ K) : NS Z O K := by
  obtain ⟨c, k, h1, h2, h3, -, -⟩ := Cond.noSuperclass_spec w
  obtain ⟨t, -, g1, -⟩ := wk
  have ne := ids_ne h1 g1 hn
  refine ⟨c, t, h1, g1, fun fuel => ?_⟩
  cases fuel with
  | zero => rfl
  | succ f => simp [Vm.isSubclassAux, ne, h2, h3]
theorem own_nsNo {C S K : String} (w : (Cond.superclass C S).before a0 Z = true) (wk : NI Z K) (n : NS Z C K) (hn : C ≠ K) : ∃ c t, Z.vm.findClass C = some c ∧ Z.vm.findClass K = some t ∧ Z.vm.assignable c t = false := by
  obtain ⟨c, t, h0, g0, n3⟩ := n
  obtain ⟨p, k, kp, h1, h2, h3, h4, h5, -, h7⟩ := Cond.superclass_spec h0 w
  obtain ⟨t', k', g1, g2, g3⟩ := wk
  cases g0.symm.trans g1
  have ne := ids_ne h0 g0 hn
  refine ⟨c, t, h0, g0, ?_⟩
  show Z.vm.assignableAux (255 + 1) c t = false
  cases hk : k'.kind <;> simp [Vm.assignableAux, ne, h2, g2, h5, hk, g3, Vm.isSubclass, n3]
/-- 'instanceof', whichever it says -/
theorem own_instE (X : Stand p l e R s m args below meth c T locs cells slots) (hx : p.tables.exec = Jvm.exec) (hZ : Z.Warmed39 s.vm) {own K C : String} {index : Nat} (hown : s.vm.findClass own = some m.cls) (w : (Cond.classLink own index K).before a0 Z = true) (eT : T.heap = h) {a : Addr} (E : Exa Z h a C)
    {g : JFrame} (hg : g.method = m) {rest : List Value} (hs : g.stack = .ref a :: rest) (hd : decode c.code g.pc = .ok (.instanceof index, 3)) :
    (Ins Z h a K true ∧ ∃ T', Stand p l e R s m args below meth c T' locs cells slots ∧ T'.heap = h ∧ ∀ target, Steps p.tables e below (T'.setTop { g with pc := g.pc + 3, stack := .int 1 :: rest }) target → Steps p.tables e below (T.setTop g) target) ∨
    (∃ T', Stand p l e R s m args below meth c T' locs cells slots ∧ T'.heap = h ∧ ∀ target, Steps p.tables e below (T'.setTop { g with pc := g.pc + 3, stack := .int 0 :: rest }) target → Steps p.tables e below (T.setTop g) target) := by
  have hpl : e.platform.magicAccessors = ({} : Platform).magicAccessors := by rw [X.admits.platform]
  obtain ⟨t, ht, -⟩ := Cond.classLink_spec hown (mv (args := args) hZ w) e.platform hpl
  rw [hZ.alike.findClass] at ht
  obtain ⟨cell, k, h1, h2, h3, h4, h5⟩ := id E
  cases ha : Z.vm.assignable cell.cls t with
  | true =>
    have I : Ins Z h a K true := ⟨cell, t, h1, ht, by simp [h4, ha]⟩
    exact Or.inl ⟨I, instY X hx hZ hown w eT I hg hs hd⟩
  | false => exact Or.inr (instNo X hx hZ hown w eT E ⟨cell.cls, t, h2, ht, ha⟩ hg hs hd)
end OwnInst
section OwnCalls
variable {p : Program} {l : Launch} {e : Env} {R : Room} {s : State} {m : MethodId} {args : Array Value} {below : List Frame} {meth : Method} {c : Code} {T : State} {locs : List Loc} {cells slots : Nat} {Z : State} {a0 : Array Value} {h : Heap}
theorem callSt (X : Stand p l e R s m args below meth c T locs cells slots) (hx : p.tables.exec = Jvm.exec) (hZ : Z.Warmed39 s.vm) {own : String} {index : Nat} {y : MethodName} {bytes : ByteArray} {maxL : Nat} {ret : Option FieldType} {rm : Room} {as' : Array Value} {Q : Option Value → Heap → List Loc → Prop} (M : Ctr l Z [] y bytes maxL ret as' h rm Q) (eT : T.heap = h)
    (hown : s.vm.findClass own = some m.cls) (w1 : (Cond.methodLink own index y).before a0 Z = true) (w2 : (Cond.static y).before a0 Z = true) (w5 : (Cond.code y bytes maxL ret).before a0 Z = true) (w6 : (Cond.initialized y.cls).before a0 Z = true)
    (hy : y.cls ≠ "java/lang/invoke/MethodHandle" ∧ y.cls ≠ "java/lang/invoke/VarHandle") {pc : Nat} {Ls : Array Slot} {st : List Value} (hd : decode c.code pc = .ok (.invokestatic index, 3)) (W : Nat) (hf : rm.frames + 1 ≤ R.frames) (hl : W + (maxL + 11) + rm.locals ≤ R.locals) (hc : cells + rm.cells ≤ R.cells) (hs : slots + rm.slots ≤ R.slots)
    (hsz : Ls.size = c.maxLocals) (argsL rest : List Value) (has : argsL.toArray = as') (hlen : ∀ sig, parseMethodDescriptor y.desc = some sig → argsL.length = sig.parameters.length) (hst : st = argsL.reverse ++ rest) (hW : (rest.map fun v => v.category).sum ≤ W) :
    ∃ v T' L, Stand p l e R s m args below meth c T' (locs ++ L) (cells + rm.cells) (slots + rm.slots) ∧ Q v T'.heap L ∧ ∀ t, Steps p.tables e below (T'.setTop (mkF m (pc + 3) Ls (v.toList ++ rest))) t → Steps p.tables e below (T.setTop (mkF m pc Ls st)) t := by
  subst has
  obtain ⟨v, _, ⟨T', L', k', n'⟩, -, X', ⟨L, hQ, q1, q2, q3⟩, stp⟩ := Jvm.LawKit.callS X hx (y := y) hown (mvT hZ w1) (mvT hZ w2) (mvT hZ w6) (mvT hZ w5) hy (backOf (W := W) M hZ w5 w6 hf hl) (g := mkF m pc Ls st) rfl hsz (argsL := argsL) (rest := rest) hlen hst (by show 2 * 0 + _ ≤ _; rw [Nat.mul_zero, Nat.zero_add]; exact hW) hd (fun _ _ => ⟨rfl, eT, hc, hs⟩)
  dsimp only [Pt.U, Pt.locs, Pt.cells, Pt.slots] at X' q1 q2 q3 stp hQ
  subst q1 q2 q3
  exact ⟨v, T', L, X', hQ, stp⟩
theorem callUp (X : Stand p l e R s m args below meth c T locs cells slots) (hx : p.tables.exec = Jvm.exec) (hZ : Z.Warmed39 s.vm) {own C host : String} {index : Nat} {y z : MethodName} {bytes : ByteArray} {maxL : Nat} {ret : Option FieldType} {rm : Room} {as' : Array Value} {Q : Option Value → Heap → List Loc → Prop} (M : Ctr l Z [] z bytes maxL ret as' h rm Q) (eT : T.heap = h)
    (hown : s.vm.findClass own = some m.cls) (w1 : (Cond.methodLink own index y).before a0 Z = true) (w2 : (Cond.sameMethod y.cls host y.name y.desc).before a0 Z = true) (w7 : (Cond.declares ⟨host, y.name, y.desc⟩).before a0 Z = true) (ho : host ≠ "java/lang/invoke/MethodHandle" ∧ host ≠ "java/lang/invoke/VarHandle") (w3 : (Cond.selects C y z).before a0 Z = true) (w4 : (Cond.instanceMethod z).before a0 Z = true) (w5 : (Cond.code z bytes maxL ret).before a0 Z = true) (w6 : (Cond.initialized z.cls).before a0 Z = true)
    (hy : y.cls ≠ "java/lang/invoke/MethodHandle" ∧ y.cls ≠ "java/lang/invoke/VarHandle") {pc : Nat} {Ls : Array Slot} {st : List Value} (hd : decode c.code pc = .ok (.invokevirtual index, 3)) (W : Nat) (hf : rm.frames + 1 ≤ R.frames) (hl : W + (maxL + 11) + rm.locals ≤ R.locals) (hc : cells + rm.cells ≤ R.cells) (hs : slots + rm.slots ≤ R.slots)
    (hsz : Ls.size = c.maxLocals) (a : Addr) (E : Exa Z h a C) (argsL rest : List Value) (has : (.ref a :: argsL).toArray = as') (hlen : ∀ sig, parseMethodDescriptor y.desc = some sig → argsL.length = sig.parameters.length) (hst : st = argsL.reverse ++ .ref a :: rest) (hW : (rest.map fun v => v.category).sum ≤ W) :
    ∃ v T' L, Stand p l e R s m args below meth c T' (locs ++ L) (cells + rm.cells) (slots + rm.slots) ∧ Q v T'.heap L ∧ ∀ t, Steps p.tables e below (T'.setTop (mkF m (pc + 3) Ls (v.toList ++ rest))) t → Steps p.tables e below (T.setTop (mkF m pc Ls st)) t := by
  subst has
  obtain ⟨cq, kq, qa, qb, qc⟩ := isOf hZ eT E
  obtain ⟨v, _, ⟨T', L', k', n'⟩, -, X', ⟨L, hQ, q1, q2, q3⟩, stp⟩ := X.virtualBackUp hx (x := y) (y := z) (owner := host) hown (mvT hZ w1) (mvT hZ w2) (mvT hZ w7) ho (mvT hZ w3) (mvT hZ w4) (backOf (W := W) M hZ w5 w6 hf hl) qa qc (g := mkF m pc Ls st) rfl hsz (Steps.refl _) (argsL := argsL) (rest := rest) hlen hst (by show 2 * 0 + _ ≤ _; rw [Nat.mul_zero, Nat.zero_add]; exact hW) hd (fun _ _ => ⟨rfl, eT, hc, hs⟩)
  dsimp only [Pt.U, Pt.locs, Pt.cells, Pt.slots] at X' q1 q2 q3 stp hQ
  subst q1 q2 q3
  exact ⟨v, T', L, X', hQ, fun t k => stp.trans k⟩
theorem callVi (X : Stand p l e R s m args below meth c T locs cells slots) (hx : p.tables.exec = Jvm.exec) (hZ : Z.Warmed39 s.vm) {own C : String} {index : Nat} {y z : MethodName} {bytes : ByteArray} {maxL : Nat} {ret : Option FieldType} {rm : Room} {as' : Array Value} {Q : Option Value → Heap → List Loc → Prop} (M : Ctr l Z [] z bytes maxL ret as' h rm Q) (eT : T.heap = h)
    (hown : s.vm.findClass own = some m.cls) (w1 : (Cond.methodLink own index y).before a0 Z = true) (w2 : (Cond.declares y).before a0 Z = true) (w3 : (Cond.selects C y z).before a0 Z = true) (hnf : NotFace s y) (w4 : (Cond.instanceMethod z).before a0 Z = true) (w5 : (Cond.code z bytes maxL ret).before a0 Z = true) (w6 : (Cond.initialized z.cls).before a0 Z = true)
    (hy : y.cls ≠ "java/lang/invoke/MethodHandle" ∧ y.cls ≠ "java/lang/invoke/VarHandle") {pc : Nat} {Ls : Array Slot} {st : List Value} (hd : decode c.code pc = .ok (.invokevirtual index, 3)) (W : Nat) (hf : rm.frames + 1 ≤ R.frames) (hl : W + (maxL + 11) + rm.locals ≤ R.locals) (hc : cells + rm.cells ≤ R.cells) (hs : slots + rm.slots ≤ R.slots)
    (hsz : Ls.size = c.maxLocals) (a : Addr) (E : Exa Z h a C) (argsL rest : List Value) (has : (.ref a :: argsL).toArray = as') (hlen : ∀ sig, parseMethodDescriptor y.desc = some sig → argsL.length = sig.parameters.length) (hst : st = argsL.reverse ++ .ref a :: rest) (hW : (rest.map fun v => v.category).sum ≤ W) :
    ∃ v T' L, Stand p l e R s m args below meth c T' (locs ++ L) (cells + rm.cells) (slots + rm.slots) ∧ Q v T'.heap L ∧ ∀ t, Steps p.tables e below (T'.setTop (mkF m (pc + 3) Ls (v.toList ++ rest))) t → Steps p.tables e below (T.setTop (mkF m pc Ls st)) t := by
  subst has
  obtain ⟨cq, kq, qa, qb, qc⟩ := isOf hZ eT E
  obtain ⟨v, _, ⟨T', L', k', n'⟩, -, X', ⟨L, hQ, q1, q2, q3⟩, stp⟩ := X.virtualBack hx (y := y) (z := z) hown (mvT hZ w1) (mvT hZ w2) hnf (mvT hZ w3) (mvT hZ w4) hy (backOf (W := W) M hZ w5 w6 hf hl) qa qc (g := mkF m pc Ls st) rfl hsz (Steps.refl _) (argsL := argsL) (rest := rest) hlen hst (by show 2 * 0 + _ ≤ _; rw [Nat.mul_zero, Nat.zero_add]; exact hW) hd (fun _ _ => ⟨rfl, eT, hc, hs⟩)
  dsimp only [Pt.U, Pt.locs, Pt.cells, Pt.slots] at X' q1 q2 q3 stp hQ
  subst q1 q2 q3
  exact ⟨v, T', L, X', hQ, fun t k => stp.trans k⟩
end OwnCalls
def Olds (Z : State) (ro0 : Addr) (ro1 : Addr) (ro2 : Addr) (ro3 : Addr) (ro4 : Addr) (ro5 : Addr) : Prop := Sta Z Z.heap "com/example/pathlatch/pathlatch/path/Predicate$Operator" "EQUAL" "Lcom/example/pathlatch/pathlatch/path/Predicate$Operator;" (.ref ro0) ∧ Exa Z Z.heap ro0 "com/example/pathlatch/pathlatch/path/Predicate$Operator" ∧ Sta Z Z.heap "com/example/pathlatch/pathlatch/path/Predicate$Operator" "NOT_EQUAL" "Lcom/example/pathlatch/pathlatch/path/Predicate$Operator;" (.ref ro1) ∧ Exa Z Z.heap ro1 "com/example/pathlatch/pathlatch/path/Predicate$Operator" ∧ Sta Z Z.heap "com/example/pathlatch/pathlatch/path/Predicate$Operator" "GREATER_OR_EQUAL" "Lcom/example/pathlatch/pathlatch/path/Predicate$Operator;" (.ref ro2) ∧ Exa Z Z.heap ro2 "com/example/pathlatch/pathlatch/path/Predicate$Operator" ∧ Sta Z Z.heap "com/example/pathlatch/pathlatch/path/Predicate$Operator" "LESS" "Lcom/example/pathlatch/pathlatch/path/Predicate$Operator;" (.ref ro3) ∧ Exa Z Z.heap ro3 "com/example/pathlatch/pathlatch/path/Predicate$Operator" ∧ Sta Z Z.heap "com/example/pathlatch/pathlatch/path/Predicate$Operator" "GREATER" "Lcom/example/pathlatch/pathlatch/path/Predicate$Operator;" (.ref ro4) ∧ Exa Z Z.heap ro4 "com/example/pathlatch/pathlatch/path/Predicate$Operator" ∧ Sta Z Z.heap "com/example/pathlatch/pathlatch/path/Predicate$Operator" "LESS_OR_EQUAL" "Lcom/example/pathlatch/pathlatch/path/Predicate$Operator;" (.ref ro5) ∧ Exa Z Z.heap ro5 "com/example/pathlatch/pathlatch/path/Predicate$Operator" ∧ Fld Z Z.heap ro0 "java/lang/Enum" "ordinal" "I" (.int (0 : Int32)) ∧ Fld Z Z.heap ro1 "java/lang/Enum" "ordinal" "I" (.int (1 : Int32)) ∧ Fld Z Z.heap ro2 "java/lang/Enum" "ordinal" "I" (.int (4 : Int32)) ∧ Fld Z Z.heap ro3 "java/lang/Enum" "ordinal" "I" (.int (3 : Int32)) ∧ Fld Z Z.heap ro4 "java/lang/Enum" "ordinal" "I" (.int (5 : Int32)) ∧ Fld Z Z.heap ro5 "java/lang/Enum" "ordinal" "I" (.int (2 : Int32))
theorem own_mod6 (x : Int32) : (x &&& 2147483647) % 6 = 0 ∨ (x &&& 2147483647) % 6 = 1 ∨ (x &&& 2147483647) % 6 = 2 ∨ (x &&& 2147483647) % 6 = 3 ∨ (x &&& 2147483647) % 6 = 4 ∨ (x &&& 2147483647) % 6 = 5 := by
  have h := own_rem (n := 6) (own_pos x) (by decide)
  simp only [← Int32.toInt_inj]
  have h10 : (6 : Int32).toInt = 6 := rfl
  rw [h10] at h
  generalize ((x &&& 2147483647) % 6).toInt = t at h
  show t = 0 ∨ t = 1 ∨ t = 2 ∨ t = 3 ∨ t = 4 ∨ t = 5
  omega
theorem own_i64 (x : Int32) : x.toInt64.toInt = x.toInt := Int32.toInt_toInt64 x
theorem own_b53 (x : Int32) : B53 x.toInt64 := by
  have h1 := x.le_toInt; have h2 := x.toInt_lt
  unfold B53; rw [own_i64]; constructor <;> omega
theorem own_dl {a b : Int32} (h : a < b) (o : CmpOp) : (cmpValue (FP.dcmp (FP.l2d a.toInt64) (FP.l2d b.toInt64)) o) = (-1 : Int32) := by
  rw [dcmpV_w (own_b53 a) (own_b53 b)]
  have : a.toInt64 < b.toInt64 := by rw [Int64.lt_iff_toInt_lt, own_i64, own_i64]; exact Int32.lt_iff_toInt_lt.mp h
  have h2 : ¬ b.toInt64 < a.toInt64 := fun q => by rw [Int64.lt_iff_toInt_lt] at q this; omega
  have h3 : ¬ a.toInt64 = b.toInt64 := fun q => by rw [← Int64.toInt_inj] at q; rw [Int64.lt_iff_toInt_lt] at this; omega
  simp only [lcmpW, if_neg h2, if_neg h3]
theorem own_de {a b : Int32} (h : a = b) (o : CmpOp) : (cmpValue (FP.dcmp (FP.l2d a.toInt64) (FP.l2d b.toInt64)) o) = (0 : Int32) := by
  subst h; rw [dcmpV_w (own_b53 a) (own_b53 a)]; exact own_lcmp _
theorem own_dg {a b : Int32} (h : ¬ a < b) (h2 : ¬ a = b) (o : CmpOp) : (cmpValue (FP.dcmp (FP.l2d a.toInt64) (FP.l2d b.toInt64)) o) = (1 : Int32) := by
  rw [dcmpV_w (own_b53 a) (own_b53 b)]
  have h3 : ¬ a.toInt64 < b.toInt64 := by rw [Int64.lt_iff_toInt_lt, own_i64, own_i64]; exact fun q => h (Int32.lt_iff_toInt_lt.mpr q)
  have h4 : ¬ a.toInt64 = b.toInt64 := by rw [← Int64.toInt_inj, own_i64, own_i64]; exact fun q => h2 (Int32.toInt_inj.mp q)
  have h5 : b.toInt64 < a.toInt64 := by rw [Int64.lt_iff_toInt_lt] at h3 ⊢; rw [← Int64.toInt_inj] at h4; omega
  simp only [lcmpW, if_pos h5]
theorem wd_7 {Z a0} (hw : HW Z a0) : (Cond.laysStatic "com/example/pathlatch/pathlatch/path/Predicate$Operator" "EQUAL" "Lcom/example/pathlatch/pathlatch/path/Predicate$Operator;").before a0 Z = true := hw.at 7 rfl
theorem wd_6 {Z a0} (hw : HW Z a0) : (Cond.initialized "com/example/pathlatch/pathlatch/path/Predicate$Operator").before a0 Z = true := hw.at 6 rfl
theorem wd_23 {Z a0} (hw : HW Z a0) : (Cond.laysStatic "com/example/pathlatch/pathlatch/path/Predicate$Operator" "NOT_EQUAL" "Lcom/example/pathlatch/pathlatch/path/Predicate$Operator;").before a0 Z = true := hw.at 23 rfl
theorem wd_25 {Z a0} (hw : HW Z a0) : (Cond.laysStatic "com/example/pathlatch/pathlatch/path/Predicate$Operator" "GREATER_OR_EQUAL" "Lcom/example/pathlatch/pathlatch/path/Predicate$Operator;").before a0 Z = true := hw.at 25 rfl
theorem wd_27 {Z a0} (hw : HW Z a0) : (Cond.laysStatic "com/example/pathlatch/pathlatch/path/Predicate$Operator" "LESS" "Lcom/example/pathlatch/pathlatch/path/Predicate$Operator;").before a0 Z = true := hw.at 27 rfl
theorem wd_29 {Z a0} (hw : HW Z a0) : (Cond.laysStatic "com/example/pathlatch/pathlatch/path/Predicate$Operator" "GREATER" "Lcom/example/pathlatch/pathlatch/path/Predicate$Operator;").before a0 Z = true := hw.at 29 rfl
theorem wd_31 {Z a0} (hw : HW Z a0) : (Cond.laysStatic "com/example/pathlatch/pathlatch/path/Predicate$Operator" "LESS_OR_EQUAL" "Lcom/example/pathlatch/pathlatch/path/Predicate$Operator;").before a0 Z = true := hw.at 31 rfl
theorem wd_0 {Z a0} (hw : HW Z a0) : (Cond.constant "com/example/pathlatch/pathlatch/path/OperatorHoldsPinLaw" (28 : Nat) (2147483647 : Int32)).before a0 Z = true := hw.at 0 rfl
theorem wd_1 {Z a0} (hw : HW Z a0) : (Cond.methodLink "com/example/pathlatch/pathlatch/path/OperatorHoldsPinLaw" (29 : Nat) ⟨"com/example/pathlatch/pathlatch/path/OperatorHoldsPinLaw", "pick", "(I)Lcom/example/pathlatch/pathlatch/path/Predicate$Operator;"⟩).before a0 Z = true := hw.at 1 rfl
theorem d0_0 : decode method_2_code 0 = .ok (.iload_n 0, 1) := by decide +kernel
theorem d0_1 : decode method_2_code 1 = .ok (.ifCond .ne 7, 3) := by decide +kernel
theorem d0_4 : decode method_2_code 4 = .ok (.getstatic 7, 3) := by decide +kernel
theorem wd_5 {Z a0} (hw : HW Z a0) : (Cond.fieldLink "com/example/pathlatch/pathlatch/path/OperatorHoldsPinLaw" (7 : Nat) "com/example/pathlatch/pathlatch/path/Predicate$Operator" "EQUAL" "Lcom/example/pathlatch/pathlatch/path/Predicate$Operator;").before a0 Z = true := hw.at 5 rfl
theorem d0_7 : decode method_2_code 7 = .ok (.areturn, 1) := by decide +kernel
theorem pn_com_example_pathlatch_pathlatch_path_OperatorHoldsPinLaw : plainName "com/example/pathlatch/pathlatch/path/OperatorHoldsPinLaw" = true := by first | (simp [plainName, overriddenIn]; done) | decide +kernel
theorem ef_m1_pick (m : MethodId) : entryFrame m #[(.int (0 : Int32))] 1 = mkF m 0 #[.val (.int (0 : Int32))] [] := by first | rfl | (simp [entryFrame, mkF, argsToLocals, Value.category]; done)
theorem m1_pick (l : Launch) (Z : State) (a0 : Array Value) (hw : HW Z a0) (x1 : Addr) (h0 : Heap) (n0 : Nat) (Z0 : n0 ≤ h0.size) (O0 : Old Z n0 h0) (P1 : Sta Z Z.heap "com/example/pathlatch/pathlatch/path/Predicate$Operator" "EQUAL" "Lcom/example/pathlatch/pathlatch/path/Predicate$Operator;" (.ref x1)) :
    Ctr l Z [] (⟨"com/example/pathlatch/pathlatch/path/OperatorHoldsPinLaw", "pick", "(I)Lcom/example/pathlatch/pathlatch/path/Predicate$Operator;"⟩ : MethodName) method_2_code 1 (some (.object "com/example/pathlatch/pathlatch/path/Predicate$Operator")) #[(.int (0 : Int32))] h0 ({ frames := 0, cells := 0, slots := 0, locals := 0 } : Room) (fun v h L => v = some (.ref x1) ∧ Fr n0 L ∧ h = h0) := by
  refine Ctr.of (plainFor_of_name pn_com_example_pathlatch_pathlatch_path_OperatorHoldsPinLaw) (fun m => ef_m1_pick m ) ?_
  intro p e s m below meth c T0 hx hZ hby hml hown hnm hret hlk X0 e0
  have N0 := Fr.nil n0
  show Rch p e below _ (T0.setTop (mkF m 0 #[.val (.int (0 : Int32))] []))
  refine Rch.go (fun t k => XS.iloadN X0.here hx rfl (hb hby d0_0) rfl  (XS.ifNo X0.here hx rfl (hb hby d0_1) rfl (by decide) k)) ?_
  show Rch p e below _ (T0.setTop (mkF m 4 #[.val (.int (0 : Int32))] []))
  obtain ⟨T1, X1, e1, st1⟩ := getS2 X0 hx hZ hown (host := "") (Or.inl (wd_5 hw)) Via.refl e0 (P1.ext O0.2) (g := (mkF m 4 #[.val (.int (0 : Int32))] [])) rfl (hb hby d0_4)
  refine Rch.go st1 ?_
  show Rch p e below _ (T1.setTop (mkF m 7 #[.val (.int (0 : Int32))] [(.ref x1)]))
  refine Rch.val X1 hx (t := (.object "com/example/pathlatch/pathlatch/path/Predicate$Operator")) hret hlk rfl (Or.inr (Or.inr (Or.inr (Or.inr ⟨rfl, rfl, rfl⟩)))) (hb hby d0_7) (by decide) (by decide) ?_
  try rw [e1]
  exact ⟨rfl, N0, rfl⟩
theorem wd_4 {Z a0} (hw : HW Z a0) : (Cond.code ⟨"com/example/pathlatch/pathlatch/path/OperatorHoldsPinLaw", "pick", "(I)Lcom/example/pathlatch/pathlatch/path/Predicate$Operator;"⟩ method_2_code (1 : Nat) (Option.some (FieldType.object "com/example/pathlatch/pathlatch/path/Predicate$Operator"))).before a0 Z = true := hw.at 4 rfl
theorem wd_3 {Z a0} (hw : HW Z a0) : (Cond.initialized "com/example/pathlatch/pathlatch/path/OperatorHoldsPinLaw").before a0 Z = true := hw.at 3 rfl
theorem pd_0 : parseMethodDescriptor "(I)Lcom/example/pathlatch/pathlatch/path/Predicate$Operator;" = some ⟨[.int], some (.object "com/example/pathlatch/pathlatch/path/Predicate$Operator")⟩ := by decide +kernel
theorem wd_2 {Z a0} (hw : HW Z a0) : (Cond.static ⟨"com/example/pathlatch/pathlatch/path/OperatorHoldsPinLaw", "pick", "(I)Lcom/example/pathlatch/pathlatch/path/Predicate$Operator;"⟩).before a0 Z = true := hw.at 2 rfl
theorem wd_8 {Z a0} (hw : HW Z a0) : (Cond.methodLink "com/example/pathlatch/pathlatch/path/OperatorHoldsPinLaw" (35 : Nat) ⟨"com/example/pathlatch/pathlatch/path/Predicate$Operator", "holds", "(DD)Z"⟩).before a0 Z = true := hw.at 8 rfl
theorem d1_0 : decode prog_113_method_4_code 0 = .ok (.aload_n 0, 1) := by decide +kernel
theorem d1_1 : decode prog_113_method_4_code 1 = .ok (.invokevirtual 49, 3) := by decide +kernel
theorem wd_13 {Z a0} (hw : HW Z a0) : (Cond.methodLink "com/example/pathlatch/pathlatch/path/Predicate$Operator" (49 : Nat) ⟨"com/example/pathlatch/pathlatch/path/Predicate$Operator", "ordinal", "()I"⟩).before a0 Z = true := hw.at 13 rfl
theorem d2_0 : decode jdk_37_method_2_code 0 = .ok (.aload_n 0, 1) := by decide +kernel
theorem d2_1 : decode jdk_37_method_2_code 1 = .ok (.getfield 7, 3) := by decide +kernel
theorem wd_20 {Z a0} (hw : HW Z a0) : (Cond.fieldLink "java/lang/Enum" (7 : Nat) "java/lang/Enum" "ordinal" "I").before a0 Z = true := hw.at 20 rfl
theorem d2_4 : decode jdk_37_method_2_code 4 = .ok (.ireturn, 1) := by decide +kernel
theorem pn_java_lang_Enum : plainName "java/lang/Enum" = true := by first | (simp [plainName, overriddenIn]; done) | decide +kernel
theorem ef_m3_ordinal (m : MethodId) (x1 : Addr) : entryFrame m #[(.ref x1)] 1 = mkF m 0 #[.val (.ref x1)] [] := by first | rfl | (simp [entryFrame, mkF, argsToLocals, Value.category]; done)
theorem m3_ordinal (l : Launch) (Z : State) (a0 : Array Value) (hw : HW Z a0) (x1 : Addr) (h0 : Heap) (n0 : Nat) (Z0 : n0 ≤ h0.size) (O0 : Old Z n0 h0) (P1 : Fld Z Z.heap x1 "java/lang/Enum" "ordinal" "I" (.int (0 : Int32))) :
    Ctr l Z [] (⟨"java/lang/Enum", "ordinal", "()I"⟩ : MethodName) jdk_37_method_2_code 1 (some .int) #[(.ref x1)] h0 ({ frames := 0, cells := 0, slots := 0, locals := 0 } : Room) (fun v h L => v = some (.int (0 : Int32)) ∧ Fr n0 L ∧ h = h0) := by
  refine Ctr.of (plainFor_of_name pn_java_lang_Enum) (fun m => ef_m3_ordinal m x1) ?_
  intro p e s m below meth c T0 hx hZ hby hml hown hnm hret hlk X0 e0
  have N0 := Fr.nil n0
  show Rch p e below _ (T0.setTop (mkF m 0 #[.val (.ref x1)] []))
  refine Rch.go (fun t k => XS.aloadN X0.here hx rfl (hb hby d2_0) rfl rfl k) ?_
  show Rch p e below _ (T0.setTop (mkF m 1 #[.val (.ref x1)] [(.ref x1)]))
  obtain ⟨T1, X1, e1, st1⟩ := getF X0 hx hZ hown (host := "") (Or.inl (wd_20 hw)) Via.refl e0 (P1.ext O0.2) (g := (mkF m 1 #[.val (.ref x1)] [(.ref x1)])) rfl rfl (hb hby d2_1)
  refine Rch.go st1 ?_
  show Rch p e below _ (T1.setTop (mkF m 4 #[.val (.ref x1)] [(.int (0 : Int32))]))
  refine Rch.val X1 hx (t := .int) hret hlk rfl (mayI (by simp)) (hb hby d2_4) (by decide) (by decide) ?_
  try rw [e1]
  exact ⟨rfl, N0, rfl⟩
theorem wd_19 {Z a0} (hw : HW Z a0) : (Cond.code ⟨"java/lang/Enum", "ordinal", "()I"⟩ jdk_37_method_2_code (1 : Nat) (Option.some FieldType.int)).before a0 Z = true := hw.at 19 rfl
theorem wd_18 {Z a0} (hw : HW Z a0) : (Cond.initialized "java/lang/Enum").before a0 Z = true := hw.at 18 rfl
theorem pd_1 : parseMethodDescriptor "()I" = some ⟨[], some .int⟩ := by decide +kernel
theorem wd_17 {Z a0} (hw : HW Z a0) : (Cond.selects "com/example/pathlatch/pathlatch/path/Predicate$Operator" ⟨"com/example/pathlatch/pathlatch/path/Predicate$Operator", "ordinal", "()I"⟩ ⟨"java/lang/Enum", "ordinal", "()I"⟩).before a0 Z = true := hw.at 17 rfl
theorem wd_14 {Z a0} (hw : HW Z a0) : (Cond.sameMethod "com/example/pathlatch/pathlatch/path/Predicate$Operator" "java/lang/Enum" "ordinal" "()I").before a0 Z = true := hw.at 14 rfl
theorem wd_15 {Z a0} (hw : HW Z a0) : (Cond.declares ⟨"java/lang/Enum", "ordinal", "()I"⟩).before a0 Z = true := hw.at 15 rfl
theorem wd_16 {Z a0} (hw : HW Z a0) : (Cond.instanceMethod ⟨"java/lang/Enum", "ordinal", "()I"⟩).before a0 Z = true := hw.at 16 rfl
theorem d1_4 : decode prog_113_method_4_code 4 = .ok (.tableswitch 40 0 5 #[50, 64, 92, 78, 120, 106], 40) := by decide +kernel
theorem d1_54 : decode prog_113_method_4_code 54 = .ok (.dload_n 1, 1) := by decide +kernel
theorem d1_55 : decode prog_113_method_4_code 55 = .ok (.dload_n 3, 1) := by decide +kernel
theorem d1_56 : decode prog_113_method_4_code 56 = .ok (.dcmp .l, 1) := by decide +kernel
theorem d1_57 : decode prog_113_method_4_code 57 = .ok (.ifCond .ne 7, 3) := by decide +kernel
theorem d1_64 : decode prog_113_method_4_code 64 = .ok (.iconst 0, 1) := by decide +kernel
theorem d1_65 : decode prog_113_method_4_code 65 = .ok (.goto 70, 3) := by decide +kernel
theorem d1_135 : decode prog_113_method_4_code 135 = .ok (.ireturn, 1) := by decide +kernel
theorem pn_com_example_pathlatch_pathlatch_path_Predicate_Operator : plainName "com/example/pathlatch/pathlatch/path/Predicate$Operator" = true := by first | (simp [plainName, overriddenIn]; done) | decide +kernel
theorem ef_m2_holds (m : MethodId) (x1 : Addr) (y2 y3 : UInt64) : entryFrame m #[(.ref x1), (.double y2), (.double y3)] 5 = mkF m 0 #[.val (.ref x1), .val (.double y2), .second, .val (.double y3), .second] [] := by first | rfl | (simp [entryFrame, mkF, argsToLocals, Value.category]; done)
theorem m2_holds (l : Launch) (Z : State) (a0 : Array Value) (hw : HW Z a0) (x1 : Addr) (y2 y3 : UInt64) (h0 : Heap) (n0 : Nat) (Z0 : n0 ≤ h0.size) (O0 : Old Z n0 h0) (P1 : Exa Z Z.heap x1 "com/example/pathlatch/pathlatch/path/Predicate$Operator") (P2 : Fld Z Z.heap x1 "java/lang/Enum" "ordinal" "I" (.int (0 : Int32))) (P3 : (cmpValue (FP.dcmp y2 y3) .l) = (-1 : Int32)) :
    Ctr l Z [] (⟨"com/example/pathlatch/pathlatch/path/Predicate$Operator", "holds", "(DD)Z"⟩ : MethodName) prog_113_method_4_code 5 (some .boolean) #[(.ref x1), (.double y2), (.double y3)] h0 ({ frames := 1, cells := 0, slots := 0, locals := 12 } : Room) (fun v h L => v = some (.int (0 : Int32)) ∧ Fr n0 L ∧ h = h0) := by
  refine Ctr.of (plainFor_of_name pn_com_example_pathlatch_pathlatch_path_Predicate_Operator) (fun m => ef_m2_holds m x1 y2 y3) ?_
  intro p e s m below meth c T0 hx hZ hby hml hown hnm hret hlk X0 e0
  have N0 := Fr.nil n0
  show Rch p e below _ (T0.setTop (mkF m 0 #[.val (.ref x1), .val (.double y2), .second, .val (.double y3), .second] []))
  refine Rch.go (fun t k => XS.aloadN X0.here hx rfl (hb hby d1_0) rfl rfl k) ?_
  show Rch p e below _ (T0.setTop (mkF m 1 #[.val (.ref x1), .val (.double y2), .second, .val (.double y3), .second] [(.ref x1)]))
  obtain ⟨v1, T1, L1, X1, Q1, st1⟩ := callUp X0 hx hZ (m3_ordinal l Z a0 hw x1 h0 n0 Z0 O0 P2) e0 hown (wd_13 hw) (wd_14 hw) (wd_15 hw) (by decide) (wd_17 hw) (wd_16 hw) (wd_19 hw) (wd_18 hw) (by decide) (hb hby d1_1) 0 (by decide) (by decide) (by decide) (by decide) (by rw [hml]; rfl) x1 (P1.ext O0.2) [] [] rfl (lenOf pd_1 rfl) rfl (Nat.le_of_eq rfl) (Ls := #[.val (.ref x1), .val (.double y2), .second, .val (.double y3), .second])
  obtain ⟨rfl, M1, e1⟩ := Q1
  have N1 := Fr.app N0 M1
  refine Rch.go st1 ?_
  show Rch p e below _ (T1.setTop (mkF m 4 #[.val (.ref x1), .val (.double y2), .second, .val (.double y3), .second] [(.int (0 : Int32))]))
  refine Rch.go (fun t k => XS.tswIn X1.here hx rfl (pc0 := 4) (pc' := 54) (o := 50) rfl (hb hby d1_4) rfl (by decide) (by decide) (by decide) (by decide) (XS.dloadN X1.here hx rfl (hb hby d1_54) rfl  (XS.dloadN X1.here hx rfl (hb hby d1_55) rfl  k))) ?_
  show Rch p e below _ (T1.setTop (mkF m 56 #[.val (.ref x1), .val (.double y2), .second, .val (.double y3), .second] [(.double y3), (.double y2)]))
  refine Rch.go (fun t k => XS.dcmpS X1.here hx rfl (hb hby d1_56) rfl P3 (XS.ifYes X1.here hx rfl (pc0 := 57) (pc' := 64) rfl (hb hby d1_57) rfl (by decide) (by decide) (by decide) (XS.iconst X1.here hx rfl (hb hby d1_64) (XS.goto X1.here hx rfl (pc0 := 65) (pc' := 135) rfl (hb hby d1_65) (by decide) (by decide) k)))) ?_
  show Rch p e below _ (T1.setTop (mkF m 135 #[.val (.ref x1), .val (.double y2), .second, .val (.double y3), .second] [(.int (0 : Int32))]))
  refine Rch.val X1 hx (t := .boolean) hret hlk rfl (mayI (by simp)) (hb hby d1_135) (by decide) (by decide) ?_
  try rw [e1]
  exact ⟨rfl, N1, rfl⟩
theorem wd_12 {Z a0} (hw : HW Z a0) : (Cond.code ⟨"com/example/pathlatch/pathlatch/path/Predicate$Operator", "holds", "(DD)Z"⟩ prog_113_method_4_code (5 : Nat) (Option.some FieldType.boolean)).before a0 Z = true := hw.at 12 rfl
theorem pd_2 : parseMethodDescriptor "(DD)Z" = some ⟨[.double, .double], some .boolean⟩ := by decide +kernel
theorem wd_11 {Z a0} (hw : HW Z a0) : (Cond.selects "com/example/pathlatch/pathlatch/path/Predicate$Operator" ⟨"com/example/pathlatch/pathlatch/path/Predicate$Operator", "holds", "(DD)Z"⟩ ⟨"com/example/pathlatch/pathlatch/path/Predicate$Operator", "holds", "(DD)Z"⟩).before a0 Z = true := hw.at 11 rfl
theorem wd_9 {Z a0} (hw : HW Z a0) : (Cond.declares ⟨"com/example/pathlatch/pathlatch/path/Predicate$Operator", "holds", "(DD)Z"⟩).before a0 Z = true := hw.at 9 rfl
theorem wd_10 {Z a0} (hw : HW Z a0) : (Cond.instanceMethod ⟨"com/example/pathlatch/pathlatch/path/Predicate$Operator", "holds", "(DD)Z"⟩).before a0 Z = true := hw.at 10 rfl
theorem d1_60 : decode prog_113_method_4_code 60 = .ok (.iconst 1, 1) := by decide +kernel
theorem d1_61 : decode prog_113_method_4_code 61 = .ok (.goto 74, 3) := by decide +kernel
theorem ef_m4_holds (m : MethodId) (x1 : Addr) (y2 y3 : UInt64) : entryFrame m #[(.ref x1), (.double y2), (.double y3)] 5 = mkF m 0 #[.val (.ref x1), .val (.double y2), .second, .val (.double y3), .second] [] := by first | rfl | (simp [entryFrame, mkF, argsToLocals, Value.category]; done)
theorem m4_holds (l : Launch) (Z : State) (a0 : Array Value) (hw : HW Z a0) (x1 : Addr) (y2 y3 : UInt64) (h0 : Heap) (n0 : Nat) (Z0 : n0 ≤ h0.size) (O0 : Old Z n0 h0) (P1 : Exa Z Z.heap x1 "com/example/pathlatch/pathlatch/path/Predicate$Operator") (P2 : Fld Z Z.heap x1 "java/lang/Enum" "ordinal" "I" (.int (0 : Int32))) (P3 : (cmpValue (FP.dcmp y2 y3) .l) = (0 : Int32)) :
    Ctr l Z [] (⟨"com/example/pathlatch/pathlatch/path/Predicate$Operator", "holds", "(DD)Z"⟩ : MethodName) prog_113_method_4_code 5 (some .boolean) #[(.ref x1), (.double y2), (.double y3)] h0 ({ frames := 1, cells := 0, slots := 0, locals := 12 } : Room) (fun v h L => v = some (.int (1 : Int32)) ∧ Fr n0 L ∧ h = h0) := by
  refine Ctr.of (plainFor_of_name pn_com_example_pathlatch_pathlatch_path_Predicate_Operator) (fun m => ef_m4_holds m x1 y2 y3) ?_
  intro p e s m below meth c T0 hx hZ hby hml hown hnm hret hlk X0 e0
  have N0 := Fr.nil n0
  show Rch p e below _ (T0.setTop (mkF m 0 #[.val (.ref x1), .val (.double y2), .second, .val (.double y3), .second] []))
  refine Rch.go (fun t k => XS.aloadN X0.here hx rfl (hb hby d1_0) rfl rfl k) ?_
  show Rch p e below _ (T0.setTop (mkF m 1 #[.val (.ref x1), .val (.double y2), .second, .val (.double y3), .second] [(.ref x1)]))
  obtain ⟨v1, T1, L1, X1, Q1, st1⟩ := callUp X0 hx hZ (m3_ordinal l Z a0 hw x1 h0 n0 Z0 O0 P2) e0 hown (wd_13 hw) (wd_14 hw) (wd_15 hw) (by decide) (wd_17 hw) (wd_16 hw) (wd_19 hw) (wd_18 hw) (by decide) (hb hby d1_1) 0 (by decide) (by decide) (by decide) (by decide) (by rw [hml]; rfl) x1 (P1.ext O0.2) [] [] rfl (lenOf pd_1 rfl) rfl (Nat.le_of_eq rfl) (Ls := #[.val (.ref x1), .val (.double y2), .second, .val (.double y3), .second])
  obtain ⟨rfl, M1, e1⟩ := Q1
  have N1 := Fr.app N0 M1
  refine Rch.go st1 ?_
  show Rch p e below _ (T1.setTop (mkF m 4 #[.val (.ref x1), .val (.double y2), .second, .val (.double y3), .second] [(.int (0 : Int32))]))
  refine Rch.go (fun t k => XS.tswIn X1.here hx rfl (pc0 := 4) (pc' := 54) (o := 50) rfl (hb hby d1_4) rfl (by decide) (by decide) (by decide) (by decide) (XS.dloadN X1.here hx rfl (hb hby d1_54) rfl  (XS.dloadN X1.here hx rfl (hb hby d1_55) rfl  k))) ?_
  show Rch p e below _ (T1.setTop (mkF m 56 #[.val (.ref x1), .val (.double y2), .second, .val (.double y3), .second] [(.double y3), (.double y2)]))
  refine Rch.go (fun t k => XS.dcmpS X1.here hx rfl (hb hby d1_56) rfl P3 (XS.ifNo X1.here hx rfl (hb hby d1_57) rfl (by decide) (XS.iconst X1.here hx rfl (hb hby d1_60) (XS.goto X1.here hx rfl (pc0 := 61) (pc' := 135) rfl (hb hby d1_61) (by decide) (by decide) k)))) ?_
  show Rch p e below _ (T1.setTop (mkF m 135 #[.val (.ref x1), .val (.double y2), .second, .val (.double y3), .second] [(.int (1 : Int32))]))
  refine Rch.val X1 hx (t := .boolean) hret hlk rfl (mayI (by simp)) (hb hby d1_135) (by decide) (by decide) ?_
  try rw [e1]
  exact ⟨rfl, N1, rfl⟩
theorem ef_m5_holds (m : MethodId) (x1 : Addr) (y2 y3 : UInt64) : entryFrame m #[(.ref x1), (.double y2), (.double y3)] 5 = mkF m 0 #[.val (.ref x1), .val (.double y2), .second, .val (.double y3), .second] [] := by first | rfl | (simp [entryFrame, mkF, argsToLocals, Value.category]; done)
theorem m5_holds (l : Launch) (Z : State) (a0 : Array Value) (hw : HW Z a0) (x1 : Addr) (y2 y3 : UInt64) (h0 : Heap) (n0 : Nat) (Z0 : n0 ≤ h0.size) (O0 : Old Z n0 h0) (P1 : Exa Z Z.heap x1 "com/example/pathlatch/pathlatch/path/Predicate$Operator") (P2 : Fld Z Z.heap x1 "java/lang/Enum" "ordinal" "I" (.int (0 : Int32))) (P3 : (cmpValue (FP.dcmp y2 y3) .l) = (1 : Int32)) :
    Ctr l Z [] (⟨"com/example/pathlatch/pathlatch/path/Predicate$Operator", "holds", "(DD)Z"⟩ : MethodName) prog_113_method_4_code 5 (some .boolean) #[(.ref x1), (.double y2), (.double y3)] h0 ({ frames := 1, cells := 0, slots := 0, locals := 12 } : Room) (fun v h L => v = some (.int (0 : Int32)) ∧ Fr n0 L ∧ h = h0) := by
  refine Ctr.of (plainFor_of_name pn_com_example_pathlatch_pathlatch_path_Predicate_Operator) (fun m => ef_m5_holds m x1 y2 y3) ?_
  intro p e s m below meth c T0 hx hZ hby hml hown hnm hret hlk X0 e0
  have N0 := Fr.nil n0
  show Rch p e below _ (T0.setTop (mkF m 0 #[.val (.ref x1), .val (.double y2), .second, .val (.double y3), .second] []))
  refine Rch.go (fun t k => XS.aloadN X0.here hx rfl (hb hby d1_0) rfl rfl k) ?_
  show Rch p e below _ (T0.setTop (mkF m 1 #[.val (.ref x1), .val (.double y2), .second, .val (.double y3), .second] [(.ref x1)]))
  obtain ⟨v1, T1, L1, X1, Q1, st1⟩ := callUp X0 hx hZ (m3_ordinal l Z a0 hw x1 h0 n0 Z0 O0 P2) e0 hown (wd_13 hw) (wd_14 hw) (wd_15 hw) (by decide) (wd_17 hw) (wd_16 hw) (wd_19 hw) (wd_18 hw) (by decide) (hb hby d1_1) 0 (by decide) (by decide) (by decide) (by decide) (by rw [hml]; rfl) x1 (P1.ext O0.2) [] [] rfl (lenOf pd_1 rfl) rfl (Nat.le_of_eq rfl) (Ls := #[.val (.ref x1), .val (.double y2), .second, .val (.double y3), .second])
  obtain ⟨rfl, M1, e1⟩ := Q1
  have N1 := Fr.app N0 M1
  refine Rch.go st1 ?_
  show Rch p e below _ (T1.setTop (mkF m 4 #[.val (.ref x1), .val (.double y2), .second, .val (.double y3), .second] [(.int (0 : Int32))]))
  refine Rch.go (fun t k => XS.tswIn X1.here hx rfl (pc0 := 4) (pc' := 54) (o := 50) rfl (hb hby d1_4) rfl (by decide) (by decide) (by decide) (by decide) (XS.dloadN X1.here hx rfl (hb hby d1_54) rfl  (XS.dloadN X1.here hx rfl (hb hby d1_55) rfl  k))) ?_
  show Rch p e below _ (T1.setTop (mkF m 56 #[.val (.ref x1), .val (.double y2), .second, .val (.double y3), .second] [(.double y3), (.double y2)]))
  refine Rch.go (fun t k => XS.dcmpS X1.here hx rfl (hb hby d1_56) rfl P3 (XS.ifYes X1.here hx rfl (pc0 := 57) (pc' := 64) rfl (hb hby d1_57) rfl (by decide) (by decide) (by decide) (XS.iconst X1.here hx rfl (hb hby d1_64) (XS.goto X1.here hx rfl (pc0 := 65) (pc' := 135) rfl (hb hby d1_65) (by decide) (by decide) k)))) ?_
  show Rch p e below _ (T1.setTop (mkF m 135 #[.val (.ref x1), .val (.double y2), .second, .val (.double y3), .second] [(.int (0 : Int32))]))
  refine Rch.val X1 hx (t := .boolean) hret hlk rfl (mayI (by simp)) (hb hby d1_135) (by decide) (by decide) ?_
  try rw [e1]
  exact ⟨rfl, N1, rfl⟩
theorem ef_m6_holds (m : MethodId) (x1 : Addr) (y2 : UInt64) : entryFrame m #[(.ref x1), (.double y2), (.double y2)] 5 = mkF m 0 #[.val (.ref x1), .val (.double y2), .second, .val (.double y2), .second] [] := by first | rfl | (simp [entryFrame, mkF, argsToLocals, Value.category]; done)
theorem m6_holds (l : Launch) (Z : State) (a0 : Array Value) (hw : HW Z a0) (x1 : Addr) (y2 : UInt64) (h0 : Heap) (n0 : Nat) (Z0 : n0 ≤ h0.size) (O0 : Old Z n0 h0) (P1 : Exa Z Z.heap x1 "com/example/pathlatch/pathlatch/path/Predicate$Operator") (P2 : Fld Z Z.heap x1 "java/lang/Enum" "ordinal" "I" (.int (0 : Int32))) (P3 : (cmpValue (FP.dcmp y2 y2) .l) = (0 : Int32)) :
    Ctr l Z [] (⟨"com/example/pathlatch/pathlatch/path/Predicate$Operator", "holds", "(DD)Z"⟩ : MethodName) prog_113_method_4_code 5 (some .boolean) #[(.ref x1), (.double y2), (.double y2)] h0 ({ frames := 1, cells := 0, slots := 0, locals := 12 } : Room) (fun v h L => v = some (.int (1 : Int32)) ∧ Fr n0 L ∧ h = h0) := by
  refine Ctr.of (plainFor_of_name pn_com_example_pathlatch_pathlatch_path_Predicate_Operator) (fun m => ef_m6_holds m x1 y2) ?_
  intro p e s m below meth c T0 hx hZ hby hml hown hnm hret hlk X0 e0
  have N0 := Fr.nil n0
  show Rch p e below _ (T0.setTop (mkF m 0 #[.val (.ref x1), .val (.double y2), .second, .val (.double y2), .second] []))
  refine Rch.go (fun t k => XS.aloadN X0.here hx rfl (hb hby d1_0) rfl rfl k) ?_
  show Rch p e below _ (T0.setTop (mkF m 1 #[.val (.ref x1), .val (.double y2), .second, .val (.double y2), .second] [(.ref x1)]))
  obtain ⟨v1, T1, L1, X1, Q1, st1⟩ := callUp X0 hx hZ (m3_ordinal l Z a0 hw x1 h0 n0 Z0 O0 P2) e0 hown (wd_13 hw) (wd_14 hw) (wd_15 hw) (by decide) (wd_17 hw) (wd_16 hw) (wd_19 hw) (wd_18 hw) (by decide) (hb hby d1_1) 0 (by decide) (by decide) (by decide) (by decide) (by rw [hml]; rfl) x1 (P1.ext O0.2) [] [] rfl (lenOf pd_1 rfl) rfl (Nat.le_of_eq rfl) (Ls := #[.val (.ref x1), .val (.double y2), .second, .val (.double y2), .second])
  obtain ⟨rfl, M1, e1⟩ := Q1
  have N1 := Fr.app N0 M1
  refine Rch.go st1 ?_
  show Rch p e below _ (T1.setTop (mkF m 4 #[.val (.ref x1), .val (.double y2), .second, .val (.double y2), .second] [(.int (0 : Int32))]))
  refine Rch.go (fun t k => XS.tswIn X1.here hx rfl (pc0 := 4) (pc' := 54) (o := 50) rfl (hb hby d1_4) rfl (by decide) (by decide) (by decide) (by decide) (XS.dloadN X1.here hx rfl (hb hby d1_54) rfl  (XS.dloadN X1.here hx rfl (hb hby d1_55) rfl  k))) ?_
  show Rch p e below _ (T1.setTop (mkF m 56 #[.val (.ref x1), .val (.double y2), .second, .val (.double y2), .second] [(.double y2), (.double y2)]))
  refine Rch.go (fun t k => XS.dcmpS X1.here hx rfl (hb hby d1_56) rfl P3 (XS.ifNo X1.here hx rfl (hb hby d1_57) rfl (by decide) (XS.iconst X1.here hx rfl (hb hby d1_60) (XS.goto X1.here hx rfl (pc0 := 61) (pc' := 135) rfl (hb hby d1_61) (by decide) (by decide) k)))) ?_
  show Rch p e below _ (T1.setTop (mkF m 135 #[.val (.ref x1), .val (.double y2), .second, .val (.double y2), .second] [(.int (1 : Int32))]))
  refine Rch.val X1 hx (t := .boolean) hret hlk rfl (mayI (by simp)) (hb hby d1_135) (by decide) (by decide) ?_
  try rw [e1]
  exact ⟨rfl, N1, rfl⟩
theorem d0_8 : decode method_2_code 8 = .ok (.iload_n 0, 1) := by decide +kernel
theorem d0_9 : decode method_2_code 9 = .ok (.iconst 1, 1) := by decide +kernel
theorem d0_10 : decode method_2_code 10 = .ok (.if_icmp .ne 7, 3) := by decide +kernel
theorem d0_13 : decode method_2_code 13 = .ok (.getstatic 13, 3) := by decide +kernel
theorem wd_22 {Z a0} (hw : HW Z a0) : (Cond.fieldLink "com/example/pathlatch/pathlatch/path/OperatorHoldsPinLaw" (13 : Nat) "com/example/pathlatch/pathlatch/path/Predicate$Operator" "NOT_EQUAL" "Lcom/example/pathlatch/pathlatch/path/Predicate$Operator;").before a0 Z = true := hw.at 22 rfl
theorem d0_16 : decode method_2_code 16 = .ok (.areturn, 1) := by decide +kernel
theorem ef_m7_pick (m : MethodId) : entryFrame m #[(.int (1 : Int32))] 1 = mkF m 0 #[.val (.int (1 : Int32))] [] := by first | rfl | (simp [entryFrame, mkF, argsToLocals, Value.category]; done)
theorem m7_pick (l : Launch) (Z : State) (a0 : Array Value) (hw : HW Z a0) (x1 : Addr) (h0 : Heap) (n0 : Nat) (Z0 : n0 ≤ h0.size) (O0 : Old Z n0 h0) (P1 : Sta Z Z.heap "com/example/pathlatch/pathlatch/path/Predicate$Operator" "NOT_EQUAL" "Lcom/example/pathlatch/pathlatch/path/Predicate$Operator;" (.ref x1)) :
    Ctr l Z [] (⟨"com/example/pathlatch/pathlatch/path/OperatorHoldsPinLaw", "pick", "(I)Lcom/example/pathlatch/pathlatch/path/Predicate$Operator;"⟩ : MethodName) method_2_code 1 (some (.object "com/example/pathlatch/pathlatch/path/Predicate$Operator")) #[(.int (1 : Int32))] h0 ({ frames := 0, cells := 0, slots := 0, locals := 0 } : Room) (fun v h L => v = some (.ref x1) ∧ Fr n0 L ∧ h = h0) := by
  refine Ctr.of (plainFor_of_name pn_com_example_pathlatch_pathlatch_path_OperatorHoldsPinLaw) (fun m => ef_m7_pick m ) ?_
  intro p e s m below meth c T0 hx hZ hby hml hown hnm hret hlk X0 e0
  have N0 := Fr.nil n0
  show Rch p e below _ (T0.setTop (mkF m 0 #[.val (.int (1 : Int32))] []))
  refine Rch.go (fun t k => XS.iloadN X0.here hx rfl (hb hby d0_0) rfl  (XS.ifYes X0.here hx rfl (pc0 := 1) (pc' := 8) rfl (hb hby d0_1) rfl (by decide) (by decide) (by decide) (XS.iloadN X0.here hx rfl (hb hby d0_8) rfl  (XS.iconst X0.here hx rfl (hb hby d0_9) (XS.icmpNo X0.here hx rfl (hb hby d0_10) rfl (by decide) k))))) ?_
  show Rch p e below _ (T0.setTop (mkF m 13 #[.val (.int (1 : Int32))] []))
  obtain ⟨T1, X1, e1, st1⟩ := getS2 X0 hx hZ hown (host := "") (Or.inl (wd_22 hw)) Via.refl e0 (P1.ext O0.2) (g := (mkF m 13 #[.val (.int (1 : Int32))] [])) rfl (hb hby d0_13)
  refine Rch.go st1 ?_
  show Rch p e below _ (T1.setTop (mkF m 16 #[.val (.int (1 : Int32))] [(.ref x1)]))
  refine Rch.val X1 hx (t := (.object "com/example/pathlatch/pathlatch/path/Predicate$Operator")) hret hlk rfl (Or.inr (Or.inr (Or.inr (Or.inr ⟨rfl, rfl, rfl⟩)))) (hb hby d0_16) (by decide) (by decide) ?_
  try rw [e1]
  exact ⟨rfl, N0, rfl⟩
theorem ef_m9_ordinal (m : MethodId) (x1 : Addr) : entryFrame m #[(.ref x1)] 1 = mkF m 0 #[.val (.ref x1)] [] := by first | rfl | (simp [entryFrame, mkF, argsToLocals, Value.category]; done)
theorem m9_ordinal (l : Launch) (Z : State) (a0 : Array Value) (hw : HW Z a0) (x1 : Addr) (h0 : Heap) (n0 : Nat) (Z0 : n0 ≤ h0.size) (O0 : Old Z n0 h0) (P1 : Fld Z Z.heap x1 "java/lang/Enum" "ordinal" "I" (.int (1 : Int32))) :
    Ctr l Z [] (⟨"java/lang/Enum", "ordinal", "()I"⟩ : MethodName) jdk_37_method_2_code 1 (some .int) #[(.ref x1)] h0 ({ frames := 0, cells := 0, slots := 0, locals := 0 } : Room) (fun v h L => v = some (.int (1 : Int32)) ∧ Fr n0 L ∧ h = h0) := by
  refine Ctr.of (plainFor_of_name pn_java_lang_Enum) (fun m => ef_m9_ordinal m x1) ?_
  intro p e s m below meth c T0 hx hZ hby hml hown hnm hret hlk X0 e0
  have N0 := Fr.nil n0
  show Rch p e below _ (T0.setTop (mkF m 0 #[.val (.ref x1)] []))
  refine Rch.go (fun t k => XS.aloadN X0.here hx rfl (hb hby d2_0) rfl rfl k) ?_
  show Rch p e below _ (T0.setTop (mkF m 1 #[.val (.ref x1)] [(.ref x1)]))
  obtain ⟨T1, X1, e1, st1⟩ := getF X0 hx hZ hown (host := "") (Or.inl (wd_20 hw)) Via.refl e0 (P1.ext O0.2) (g := (mkF m 1 #[.val (.ref x1)] [(.ref x1)])) rfl rfl (hb hby d2_1)
  refine Rch.go st1 ?_
  show Rch p e below _ (T1.setTop (mkF m 4 #[.val (.ref x1)] [(.int (1 : Int32))]))
  refine Rch.val X1 hx (t := .int) hret hlk rfl (mayI (by simp)) (hb hby d2_4) (by decide) (by decide) ?_
  try rw [e1]
  exact ⟨rfl, N0, rfl⟩
theorem d1_68 : decode prog_113_method_4_code 68 = .ok (.dload_n 1, 1) := by decide +kernel
theorem d1_69 : decode prog_113_method_4_code 69 = .ok (.dload_n 3, 1) := by decide +kernel
theorem d1_70 : decode prog_113_method_4_code 70 = .ok (.dcmp .l, 1) := by decide +kernel
theorem d1_71 : decode prog_113_method_4_code 71 = .ok (.ifCond .eq 7, 3) := by decide +kernel
theorem d1_74 : decode prog_113_method_4_code 74 = .ok (.iconst 1, 1) := by decide +kernel
theorem d1_75 : decode prog_113_method_4_code 75 = .ok (.goto 60, 3) := by decide +kernel
theorem ef_m8_holds (m : MethodId) (x1 : Addr) (y2 y3 : UInt64) : entryFrame m #[(.ref x1), (.double y2), (.double y3)] 5 = mkF m 0 #[.val (.ref x1), .val (.double y2), .second, .val (.double y3), .second] [] := by first | rfl | (simp [entryFrame, mkF, argsToLocals, Value.category]; done)
theorem m8_holds (l : Launch) (Z : State) (a0 : Array Value) (hw : HW Z a0) (x1 : Addr) (y2 y3 : UInt64) (h0 : Heap) (n0 : Nat) (Z0 : n0 ≤ h0.size) (O0 : Old Z n0 h0) (P1 : Exa Z Z.heap x1 "com/example/pathlatch/pathlatch/path/Predicate$Operator") (P2 : Fld Z Z.heap x1 "java/lang/Enum" "ordinal" "I" (.int (1 : Int32))) (P3 : (cmpValue (FP.dcmp y2 y3) .l) = (-1 : Int32)) :
    Ctr l Z [] (⟨"com/example/pathlatch/pathlatch/path/Predicate$Operator", "holds", "(DD)Z"⟩ : MethodName) prog_113_method_4_code 5 (some .boolean) #[(.ref x1), (.double y2), (.double y3)] h0 ({ frames := 1, cells := 0, slots := 0, locals := 12 } : Room) (fun v h L => v = some (.int (1 : Int32)) ∧ Fr n0 L ∧ h = h0) := by
  refine Ctr.of (plainFor_of_name pn_com_example_pathlatch_pathlatch_path_Predicate_Operator) (fun m => ef_m8_holds m x1 y2 y3) ?_
  intro p e s m below meth c T0 hx hZ hby hml hown hnm hret hlk X0 e0
  have N0 := Fr.nil n0
  show Rch p e below _ (T0.setTop (mkF m 0 #[.val (.ref x1), .val (.double y2), .second, .val (.double y3), .second] []))
  refine Rch.go (fun t k => XS.aloadN X0.here hx rfl (hb hby d1_0) rfl rfl k) ?_
  show Rch p e below _ (T0.setTop (mkF m 1 #[.val (.ref x1), .val (.double y2), .second, .val (.double y3), .second] [(.ref x1)]))
  obtain ⟨v1, T1, L1, X1, Q1, st1⟩ := callUp X0 hx hZ (m9_ordinal l Z a0 hw x1 h0 n0 Z0 O0 P2) e0 hown (wd_13 hw) (wd_14 hw) (wd_15 hw) (by decide) (wd_17 hw) (wd_16 hw) (wd_19 hw) (wd_18 hw) (by decide) (hb hby d1_1) 0 (by decide) (by decide) (by decide) (by decide) (by rw [hml]; rfl) x1 (P1.ext O0.2) [] [] rfl (lenOf pd_1 rfl) rfl (Nat.le_of_eq rfl) (Ls := #[.val (.ref x1), .val (.double y2), .second, .val (.double y3), .second])
  obtain ⟨rfl, M1, e1⟩ := Q1
  have N1 := Fr.app N0 M1
  refine Rch.go st1 ?_
  show Rch p e below _ (T1.setTop (mkF m 4 #[.val (.ref x1), .val (.double y2), .second, .val (.double y3), .second] [(.int (1 : Int32))]))
  refine Rch.go (fun t k => XS.tswIn X1.here hx rfl (pc0 := 4) (pc' := 68) (o := 64) rfl (hb hby d1_4) rfl (by decide) (by decide) (by decide) (by decide) (XS.dloadN X1.here hx rfl (hb hby d1_68) rfl  (XS.dloadN X1.here hx rfl (hb hby d1_69) rfl  k))) ?_
  show Rch p e below _ (T1.setTop (mkF m 70 #[.val (.ref x1), .val (.double y2), .second, .val (.double y3), .second] [(.double y3), (.double y2)]))
  refine Rch.go (fun t k => XS.dcmpS X1.here hx rfl (hb hby d1_70) rfl P3 (XS.ifNo X1.here hx rfl (hb hby d1_71) rfl (by decide) (XS.iconst X1.here hx rfl (hb hby d1_74) (XS.goto X1.here hx rfl (pc0 := 75) (pc' := 135) rfl (hb hby d1_75) (by decide) (by decide) k)))) ?_
  show Rch p e below _ (T1.setTop (mkF m 135 #[.val (.ref x1), .val (.double y2), .second, .val (.double y3), .second] [(.int (1 : Int32))]))
  refine Rch.val X1 hx (t := .boolean) hret hlk rfl (mayI (by simp)) (hb hby d1_135) (by decide) (by decide) ?_
  try rw [e1]
  exact ⟨rfl, N1, rfl⟩
theorem d1_78 : decode prog_113_method_4_code 78 = .ok (.iconst 0, 1) := by decide +kernel
theorem d1_79 : decode prog_113_method_4_code 79 = .ok (.goto 56, 3) := by decide +kernel
theorem ef_m10_holds (m : MethodId) (x1 : Addr) (y2 y3 : UInt64) : entryFrame m #[(.ref x1), (.double y2), (.double y3)] 5 = mkF m 0 #[.val (.ref x1), .val (.double y2), .second, .val (.double y3), .second] [] := by first | rfl | (simp [entryFrame, mkF, argsToLocals, Value.category]; done)
theorem m10_holds (l : Launch) (Z : State) (a0 : Array Value) (hw : HW Z a0) (x1 : Addr) (y2 y3 : UInt64) (h0 : Heap) (n0 : Nat) (Z0 : n0 ≤ h0.size) (O0 : Old Z n0 h0) (P1 : Exa Z Z.heap x1 "com/example/pathlatch/pathlatch/path/Predicate$Operator") (P2 : Fld Z Z.heap x1 "java/lang/Enum" "ordinal" "I" (.int (1 : Int32))) (P3 : (cmpValue (FP.dcmp y2 y3) .l) = (0 : Int32)) :
    Ctr l Z [] (⟨"com/example/pathlatch/pathlatch/path/Predicate$Operator", "holds", "(DD)Z"⟩ : MethodName) prog_113_method_4_code 5 (some .boolean) #[(.ref x1), (.double y2), (.double y3)] h0 ({ frames := 1, cells := 0, slots := 0, locals := 12 } : Room) (fun v h L => v = some (.int (0 : Int32)) ∧ Fr n0 L ∧ h = h0) := by
  refine Ctr.of (plainFor_of_name pn_com_example_pathlatch_pathlatch_path_Predicate_Operator) (fun m => ef_m10_holds m x1 y2 y3) ?_
  intro p e s m below meth c T0 hx hZ hby hml hown hnm hret hlk X0 e0
  have N0 := Fr.nil n0
  show Rch p e below _ (T0.setTop (mkF m 0 #[.val (.ref x1), .val (.double y2), .second, .val (.double y3), .second] []))
  refine Rch.go (fun t k => XS.aloadN X0.here hx rfl (hb hby d1_0) rfl rfl k) ?_
  show Rch p e below _ (T0.setTop (mkF m 1 #[.val (.ref x1), .val (.double y2), .second, .val (.double y3), .second] [(.ref x1)]))
  obtain ⟨v1, T1, L1, X1, Q1, st1⟩ := callUp X0 hx hZ (m9_ordinal l Z a0 hw x1 h0 n0 Z0 O0 P2) e0 hown (wd_13 hw) (wd_14 hw) (wd_15 hw) (by decide) (wd_17 hw) (wd_16 hw) (wd_19 hw) (wd_18 hw) (by decide) (hb hby d1_1) 0 (by decide) (by decide) (by decide) (by decide) (by rw [hml]; rfl) x1 (P1.ext O0.2) [] [] rfl (lenOf pd_1 rfl) rfl (Nat.le_of_eq rfl) (Ls := #[.val (.ref x1), .val (.double y2), .second, .val (.double y3), .second])
  obtain ⟨rfl, M1, e1⟩ := Q1
  have N1 := Fr.app N0 M1
  refine Rch.go st1 ?_
  show Rch p e below _ (T1.setTop (mkF m 4 #[.val (.ref x1), .val (.double y2), .second, .val (.double y3), .second] [(.int (1 : Int32))]))
  refine Rch.go (fun t k => XS.tswIn X1.here hx rfl (pc0 := 4) (pc' := 68) (o := 64) rfl (hb hby d1_4) rfl (by decide) (by decide) (by decide) (by decide) (XS.dloadN X1.here hx rfl (hb hby d1_68) rfl  (XS.dloadN X1.here hx rfl (hb hby d1_69) rfl  k))) ?_
  show Rch p e below _ (T1.setTop (mkF m 70 #[.val (.ref x1), .val (.double y2), .second, .val (.double y3), .second] [(.double y3), (.double y2)]))
  refine Rch.go (fun t k => XS.dcmpS X1.here hx rfl (hb hby d1_70) rfl P3 (XS.ifYes X1.here hx rfl (pc0 := 71) (pc' := 78) rfl (hb hby d1_71) rfl (by decide) (by decide) (by decide) (XS.iconst X1.here hx rfl (hb hby d1_78) (XS.goto X1.here hx rfl (pc0 := 79) (pc' := 135) rfl (hb hby d1_79) (by decide) (by decide) k)))) ?_
  show Rch p e below _ (T1.setTop (mkF m 135 #[.val (.ref x1), .val (.double y2), .second, .val (.double y3), .second] [(.int (0 : Int32))]))
  refine Rch.val X1 hx (t := .boolean) hret hlk rfl (mayI (by simp)) (hb hby d1_135) (by decide) (by decide) ?_
  try rw [e1]
  exact ⟨rfl, N1, rfl⟩
theorem ef_m11_holds (m : MethodId) (x1 : Addr) (y2 y3 : UInt64) : entryFrame m #[(.ref x1), (.double y2), (.double y3)] 5 = mkF m 0 #[.val (.ref x1), .val (.double y2), .second, .val (.double y3), .second] [] := by first | rfl | (simp [entryFrame, mkF, argsToLocals, Value.category]; done)
theorem m11_holds (l : Launch) (Z : State) (a0 : Array Value) (hw : HW Z a0) (x1 : Addr) (y2 y3 : UInt64) (h0 : Heap) (n0 : Nat) (Z0 : n0 ≤ h0.size) (O0 : Old Z n0 h0) (P1 : Exa Z Z.heap x1 "com/example/pathlatch/pathlatch/path/Predicate$Operator") (P2 : Fld Z Z.heap x1 "java/lang/Enum" "ordinal" "I" (.int (1 : Int32))) (P3 : (cmpValue (FP.dcmp y2 y3) .l) = (1 : Int32)) :
    Ctr l Z [] (⟨"com/example/pathlatch/pathlatch/path/Predicate$Operator", "holds", "(DD)Z"⟩ : MethodName) prog_113_method_4_code 5 (some .boolean) #[(.ref x1), (.double y2), (.double y3)] h0 ({ frames := 1, cells := 0, slots := 0, locals := 12 } : Room) (fun v h L => v = some (.int (1 : Int32)) ∧ Fr n0 L ∧ h = h0) := by
  refine Ctr.of (plainFor_of_name pn_com_example_pathlatch_pathlatch_path_Predicate_Operator) (fun m => ef_m11_holds m x1 y2 y3) ?_
  intro p e s m below meth c T0 hx hZ hby hml hown hnm hret hlk X0 e0
  have N0 := Fr.nil n0
  show Rch p e below _ (T0.setTop (mkF m 0 #[.val (.ref x1), .val (.double y2), .second, .val (.double y3), .second] []))
  refine Rch.go (fun t k => XS.aloadN X0.here hx rfl (hb hby d1_0) rfl rfl k) ?_
  show Rch p e below _ (T0.setTop (mkF m 1 #[.val (.ref x1), .val (.double y2), .second, .val (.double y3), .second] [(.ref x1)]))
  obtain ⟨v1, T1, L1, X1, Q1, st1⟩ := callUp X0 hx hZ (m9_ordinal l Z a0 hw x1 h0 n0 Z0 O0 P2) e0 hown (wd_13 hw) (wd_14 hw) (wd_15 hw) (by decide) (wd_17 hw) (wd_16 hw) (wd_19 hw) (wd_18 hw) (by decide) (hb hby d1_1) 0 (by decide) (by decide) (by decide) (by decide) (by rw [hml]; rfl) x1 (P1.ext O0.2) [] [] rfl (lenOf pd_1 rfl) rfl (Nat.le_of_eq rfl) (Ls := #[.val (.ref x1), .val (.double y2), .second, .val (.double y3), .second])
  obtain ⟨rfl, M1, e1⟩ := Q1
  have N1 := Fr.app N0 M1
  refine Rch.go st1 ?_
  show Rch p e below _ (T1.setTop (mkF m 4 #[.val (.ref x1), .val (.double y2), .second, .val (.double y3), .second] [(.int (1 : Int32))]))
  refine Rch.go (fun t k => XS.tswIn X1.here hx rfl (pc0 := 4) (pc' := 68) (o := 64) rfl (hb hby d1_4) rfl (by decide) (by decide) (by decide) (by decide) (XS.dloadN X1.here hx rfl (hb hby d1_68) rfl  (XS.dloadN X1.here hx rfl (hb hby d1_69) rfl  k))) ?_
  show Rch p e below _ (T1.setTop (mkF m 70 #[.val (.ref x1), .val (.double y2), .second, .val (.double y3), .second] [(.double y3), (.double y2)]))
  refine Rch.go (fun t k => XS.dcmpS X1.here hx rfl (hb hby d1_70) rfl P3 (XS.ifNo X1.here hx rfl (hb hby d1_71) rfl (by decide) (XS.iconst X1.here hx rfl (hb hby d1_74) (XS.goto X1.here hx rfl (pc0 := 75) (pc' := 135) rfl (hb hby d1_75) (by decide) (by decide) k)))) ?_
  show Rch p e below _ (T1.setTop (mkF m 135 #[.val (.ref x1), .val (.double y2), .second, .val (.double y3), .second] [(.int (1 : Int32))]))
  refine Rch.val X1 hx (t := .boolean) hret hlk rfl (mayI (by simp)) (hb hby d1_135) (by decide) (by decide) ?_
  try rw [e1]
  exact ⟨rfl, N1, rfl⟩
theorem ef_m12_holds (m : MethodId) (x1 : Addr) (y2 : UInt64) : entryFrame m #[(.ref x1), (.double y2), (.double y2)] 5 = mkF m 0 #[.val (.ref x1), .val (.double y2), .second, .val (.double y2), .second] [] := by first | rfl | (simp [entryFrame, mkF, argsToLocals, Value.category]; done)
theorem m12_holds (l : Launch) (Z : State) (a0 : Array Value) (hw : HW Z a0) (x1 : Addr) (y2 : UInt64) (h0 : Heap) (n0 : Nat) (Z0 : n0 ≤ h0.size) (O0 : Old Z n0 h0) (P1 : Exa Z Z.heap x1 "com/example/pathlatch/pathlatch/path/Predicate$Operator") (P2 : Fld Z Z.heap x1 "java/lang/Enum" "ordinal" "I" (.int (1 : Int32))) (P3 : (cmpValue (FP.dcmp y2 y2) .l) = (0 : Int32)) :
    Ctr l Z [] (⟨"com/example/pathlatch/pathlatch/path/Predicate$Operator", "holds", "(DD)Z"⟩ : MethodName) prog_113_method_4_code 5 (some .boolean) #[(.ref x1), (.double y2), (.double y2)] h0 ({ frames := 1, cells := 0, slots := 0, locals := 12 } : Room) (fun v h L => v = some (.int (0 : Int32)) ∧ Fr n0 L ∧ h = h0) := by
  refine Ctr.of (plainFor_of_name pn_com_example_pathlatch_pathlatch_path_Predicate_Operator) (fun m => ef_m12_holds m x1 y2) ?_
  intro p e s m below meth c T0 hx hZ hby hml hown hnm hret hlk X0 e0
  have N0 := Fr.nil n0
  show Rch p e below _ (T0.setTop (mkF m 0 #[.val (.ref x1), .val (.double y2), .second, .val (.double y2), .second] []))
  refine Rch.go (fun t k => XS.aloadN X0.here hx rfl (hb hby d1_0) rfl rfl k) ?_
  show Rch p e below _ (T0.setTop (mkF m 1 #[.val (.ref x1), .val (.double y2), .second, .val (.double y2), .second] [(.ref x1)]))
  obtain ⟨v1, T1, L1, X1, Q1, st1⟩ := callUp X0 hx hZ (m9_ordinal l Z a0 hw x1 h0 n0 Z0 O0 P2) e0 hown (wd_13 hw) (wd_14 hw) (wd_15 hw) (by decide) (wd_17 hw) (wd_16 hw) (wd_19 hw) (wd_18 hw) (by decide) (hb hby d1_1) 0 (by decide) (by decide) (by decide) (by decide) (by rw [hml]; rfl) x1 (P1.ext O0.2) [] [] rfl (lenOf pd_1 rfl) rfl (Nat.le_of_eq rfl) (Ls := #[.val (.ref x1), .val (.double y2), .second, .val (.double y2), .second])
  obtain ⟨rfl, M1, e1⟩ := Q1
  have N1 := Fr.app N0 M1
  refine Rch.go st1 ?_
  show Rch p e below _ (T1.setTop (mkF m 4 #[.val (.ref x1), .val (.double y2), .second, .val (.double y2), .second] [(.int (1 : Int32))]))
  refine Rch.go (fun t k => XS.tswIn X1.here hx rfl (pc0 := 4) (pc' := 68) (o := 64) rfl (hb hby d1_4) rfl (by decide) (by decide) (by decide) (by decide) (XS.dloadN X1.here hx rfl (hb hby d1_68) rfl  (XS.dloadN X1.here hx rfl (hb hby d1_69) rfl  k))) ?_
  show Rch p e below _ (T1.setTop (mkF m 70 #[.val (.ref x1), .val (.double y2), .second, .val (.double y2), .second] [(.double y2), (.double y2)]))
  refine Rch.go (fun t k => XS.dcmpS X1.here hx rfl (hb hby d1_70) rfl P3 (XS.ifYes X1.here hx rfl (pc0 := 71) (pc' := 78) rfl (hb hby d1_71) rfl (by decide) (by decide) (by decide) (XS.iconst X1.here hx rfl (hb hby d1_78) (XS.goto X1.here hx rfl (pc0 := 79) (pc' := 135) rfl (hb hby d1_79) (by decide) (by decide) k)))) ?_
  show Rch p e below _ (T1.setTop (mkF m 135 #[.val (.ref x1), .val (.double y2), .second, .val (.double y2), .second] [(.int (0 : Int32))]))
  refine Rch.val X1 hx (t := .boolean) hret hlk rfl (mayI (by simp)) (hb hby d1_135) (by decide) (by decide) ?_
  try rw [e1]
  exact ⟨rfl, N1, rfl⟩
theorem d0_17 : decode method_2_code 17 = .ok (.iload_n 0, 1) := by decide +kernel
theorem d0_18 : decode method_2_code 18 = .ok (.iconst 2, 1) := by decide +kernel
theorem d0_19 : decode method_2_code 19 = .ok (.if_icmp .ne 7, 3) := by decide +kernel
theorem d0_22 : decode method_2_code 22 = .ok (.getstatic 16, 3) := by decide +kernel
theorem wd_30 {Z a0} (hw : HW Z a0) : (Cond.fieldLink "com/example/pathlatch/pathlatch/path/OperatorHoldsPinLaw" (16 : Nat) "com/example/pathlatch/pathlatch/path/Predicate$Operator" "LESS_OR_EQUAL" "Lcom/example/pathlatch/pathlatch/path/Predicate$Operator;").before a0 Z = true := hw.at 30 rfl
theorem d0_25 : decode method_2_code 25 = .ok (.areturn, 1) := by decide +kernel
theorem ef_m13_pick (m : MethodId) : entryFrame m #[(.int (2 : Int32))] 1 = mkF m 0 #[.val (.int (2 : Int32))] [] := by first | rfl | (simp [entryFrame, mkF, argsToLocals, Value.category]; done)
theorem m13_pick (l : Launch) (Z : State) (a0 : Array Value) (hw : HW Z a0) (x1 : Addr) (h0 : Heap) (n0 : Nat) (Z0 : n0 ≤ h0.size) (O0 : Old Z n0 h0) (P1 : Sta Z Z.heap "com/example/pathlatch/pathlatch/path/Predicate$Operator" "LESS_OR_EQUAL" "Lcom/example/pathlatch/pathlatch/path/Predicate$Operator;" (.ref x1)) :
    Ctr l Z [] (⟨"com/example/pathlatch/pathlatch/path/OperatorHoldsPinLaw", "pick", "(I)Lcom/example/pathlatch/pathlatch/path/Predicate$Operator;"⟩ : MethodName) method_2_code 1 (some (.object "com/example/pathlatch/pathlatch/path/Predicate$Operator")) #[(.int (2 : Int32))] h0 ({ frames := 0, cells := 0, slots := 0, locals := 0 } : Room) (fun v h L => v = some (.ref x1) ∧ Fr n0 L ∧ h = h0) := by
  refine Ctr.of (plainFor_of_name pn_com_example_pathlatch_pathlatch_path_OperatorHoldsPinLaw) (fun m => ef_m13_pick m ) ?_
  intro p e s m below meth c T0 hx hZ hby hml hown hnm hret hlk X0 e0
  have N0 := Fr.nil n0
  show Rch p e below _ (T0.setTop (mkF m 0 #[.val (.int (2 : Int32))] []))
  refine Rch.go (fun t k => XS.iloadN X0.here hx rfl (hb hby d0_0) rfl  (XS.ifYes X0.here hx rfl (pc0 := 1) (pc' := 8) rfl (hb hby d0_1) rfl (by decide) (by decide) (by decide) (XS.iloadN X0.here hx rfl (hb hby d0_8) rfl  (XS.iconst X0.here hx rfl (hb hby d0_9) (XS.icmpYes X0.here hx rfl (pc0 := 10) (pc' := 17) rfl (hb hby d0_10) rfl (by decide) (by decide) (by decide) (XS.iloadN X0.here hx rfl (hb hby d0_17) rfl  (XS.iconst X0.here hx rfl (hb hby d0_18) (XS.icmpNo X0.here hx rfl (hb hby d0_19) rfl (by decide) k)))))))) ?_
  show Rch p e below _ (T0.setTop (mkF m 22 #[.val (.int (2 : Int32))] []))
  obtain ⟨T1, X1, e1, st1⟩ := getS2 X0 hx hZ hown (host := "") (Or.inl (wd_30 hw)) Via.refl e0 (P1.ext O0.2) (g := (mkF m 22 #[.val (.int (2 : Int32))] [])) rfl (hb hby d0_22)
  refine Rch.go st1 ?_
  show Rch p e below _ (T1.setTop (mkF m 25 #[.val (.int (2 : Int32))] [(.ref x1)]))
  refine Rch.val X1 hx (t := (.object "com/example/pathlatch/pathlatch/path/Predicate$Operator")) hret hlk rfl (Or.inr (Or.inr (Or.inr (Or.inr ⟨rfl, rfl, rfl⟩)))) (hb hby d0_25) (by decide) (by decide) ?_
  try rw [e1]
  exact ⟨rfl, N0, rfl⟩
theorem ef_m15_ordinal (m : MethodId) (x1 : Addr) : entryFrame m #[(.ref x1)] 1 = mkF m 0 #[.val (.ref x1)] [] := by first | rfl | (simp [entryFrame, mkF, argsToLocals, Value.category]; done)
theorem m15_ordinal (l : Launch) (Z : State) (a0 : Array Value) (hw : HW Z a0) (x1 : Addr) (h0 : Heap) (n0 : Nat) (Z0 : n0 ≤ h0.size) (O0 : Old Z n0 h0) (P1 : Fld Z Z.heap x1 "java/lang/Enum" "ordinal" "I" (.int (2 : Int32))) :
    Ctr l Z [] (⟨"java/lang/Enum", "ordinal", "()I"⟩ : MethodName) jdk_37_method_2_code 1 (some .int) #[(.ref x1)] h0 ({ frames := 0, cells := 0, slots := 0, locals := 0 } : Room) (fun v h L => v = some (.int (2 : Int32)) ∧ Fr n0 L ∧ h = h0) := by
  refine Ctr.of (plainFor_of_name pn_java_lang_Enum) (fun m => ef_m15_ordinal m x1) ?_
  intro p e s m below meth c T0 hx hZ hby hml hown hnm hret hlk X0 e0
  have N0 := Fr.nil n0
  show Rch p e below _ (T0.setTop (mkF m 0 #[.val (.ref x1)] []))
  refine Rch.go (fun t k => XS.aloadN X0.here hx rfl (hb hby d2_0) rfl rfl k) ?_
  show Rch p e below _ (T0.setTop (mkF m 1 #[.val (.ref x1)] [(.ref x1)]))
  obtain ⟨T1, X1, e1, st1⟩ := getF X0 hx hZ hown (host := "") (Or.inl (wd_20 hw)) Via.refl e0 (P1.ext O0.2) (g := (mkF m 1 #[.val (.ref x1)] [(.ref x1)])) rfl rfl (hb hby d2_1)
  refine Rch.go st1 ?_
  show Rch p e below _ (T1.setTop (mkF m 4 #[.val (.ref x1)] [(.int (2 : Int32))]))
  refine Rch.val X1 hx (t := .int) hret hlk rfl (mayI (by simp)) (hb hby d2_4) (by decide) (by decide) ?_
  try rw [e1]
  exact ⟨rfl, N0, rfl⟩
theorem d1_96 : decode prog_113_method_4_code 96 = .ok (.dload_n 1, 1) := by decide +kernel
theorem d1_97 : decode prog_113_method_4_code 97 = .ok (.dload_n 3, 1) := by decide +kernel
theorem d1_98 : decode prog_113_method_4_code 98 = .ok (.dcmp .g, 1) := by decide +kernel
theorem d1_99 : decode prog_113_method_4_code 99 = .ok (.ifCond .gt 7, 3) := by decide +kernel
theorem d1_102 : decode prog_113_method_4_code 102 = .ok (.iconst 1, 1) := by decide +kernel
theorem d1_103 : decode prog_113_method_4_code 103 = .ok (.goto 32, 3) := by decide +kernel
theorem ef_m14_holds (m : MethodId) (x1 : Addr) (y2 y3 : UInt64) : entryFrame m #[(.ref x1), (.double y2), (.double y3)] 5 = mkF m 0 #[.val (.ref x1), .val (.double y2), .second, .val (.double y3), .second] [] := by first | rfl | (simp [entryFrame, mkF, argsToLocals, Value.category]; done)
theorem m14_holds (l : Launch) (Z : State) (a0 : Array Value) (hw : HW Z a0) (x1 : Addr) (y2 y3 : UInt64) (h0 : Heap) (n0 : Nat) (Z0 : n0 ≤ h0.size) (O0 : Old Z n0 h0) (P1 : Exa Z Z.heap x1 "com/example/pathlatch/pathlatch/path/Predicate$Operator") (P2 : Fld Z Z.heap x1 "java/lang/Enum" "ordinal" "I" (.int (2 : Int32))) (P3 : (cmpValue (FP.dcmp y2 y3) .g) = (-1 : Int32)) :
    Ctr l Z [] (⟨"com/example/pathlatch/pathlatch/path/Predicate$Operator", "holds", "(DD)Z"⟩ : MethodName) prog_113_method_4_code 5 (some .boolean) #[(.ref x1), (.double y2), (.double y3)] h0 ({ frames := 1, cells := 0, slots := 0, locals := 12 } : Room) (fun v h L => v = some (.int (1 : Int32)) ∧ Fr n0 L ∧ h = h0) := by
  refine Ctr.of (plainFor_of_name pn_com_example_pathlatch_pathlatch_path_Predicate_Operator) (fun m => ef_m14_holds m x1 y2 y3) ?_
  intro p e s m below meth c T0 hx hZ hby hml hown hnm hret hlk X0 e0
  have N0 := Fr.nil n0
  show Rch p e below _ (T0.setTop (mkF m 0 #[.val (.ref x1), .val (.double y2), .second, .val (.double y3), .second] []))
  refine Rch.go (fun t k => XS.aloadN X0.here hx rfl (hb hby d1_0) rfl rfl k) ?_
  show Rch p e below _ (T0.setTop (mkF m 1 #[.val (.ref x1), .val (.double y2), .second, .val (.double y3), .second] [(.ref x1)]))
  obtain ⟨v1, T1, L1, X1, Q1, st1⟩ := callUp X0 hx hZ (m15_ordinal l Z a0 hw x1 h0 n0 Z0 O0 P2) e0 hown (wd_13 hw) (wd_14 hw) (wd_15 hw) (by decide) (wd_17 hw) (wd_16 hw) (wd_19 hw) (wd_18 hw) (by decide) (hb hby d1_1) 0 (by decide) (by decide) (by decide) (by decide) (by rw [hml]; rfl) x1 (P1.ext O0.2) [] [] rfl (lenOf pd_1 rfl) rfl (Nat.le_of_eq rfl) (Ls := #[.val (.ref x1), .val (.double y2), .second, .val (.double y3), .second])
  obtain ⟨rfl, M1, e1⟩ := Q1
  have N1 := Fr.app N0 M1
  refine Rch.go st1 ?_
  show Rch p e below _ (T1.setTop (mkF m 4 #[.val (.ref x1), .val (.double y2), .second, .val (.double y3), .second] [(.int (2 : Int32))]))
  refine Rch.go (fun t k => XS.tswIn X1.here hx rfl (pc0 := 4) (pc' := 96) (o := 92) rfl (hb hby d1_4) rfl (by decide) (by decide) (by decide) (by decide) (XS.dloadN X1.here hx rfl (hb hby d1_96) rfl  (XS.dloadN X1.here hx rfl (hb hby d1_97) rfl  k))) ?_
  show Rch p e below _ (T1.setTop (mkF m 98 #[.val (.ref x1), .val (.double y2), .second, .val (.double y3), .second] [(.double y3), (.double y2)]))
  refine Rch.go (fun t k => XS.dcmpS X1.here hx rfl (hb hby d1_98) rfl P3 (XS.ifNo X1.here hx rfl (hb hby d1_99) rfl (by decide) (XS.iconst X1.here hx rfl (hb hby d1_102) (XS.goto X1.here hx rfl (pc0 := 103) (pc' := 135) rfl (hb hby d1_103) (by decide) (by decide) k)))) ?_
  show Rch p e below _ (T1.setTop (mkF m 135 #[.val (.ref x1), .val (.double y2), .second, .val (.double y3), .second] [(.int (1 : Int32))]))
  refine Rch.val X1 hx (t := .boolean) hret hlk rfl (mayI (by simp)) (hb hby d1_135) (by decide) (by decide) ?_
  try rw [e1]
  exact ⟨rfl, N1, rfl⟩
theorem ef_m16_holds (m : MethodId) (x1 : Addr) (y2 y3 : UInt64) : entryFrame m #[(.ref x1), (.double y2), (.double y3)] 5 = mkF m 0 #[.val (.ref x1), .val (.double y2), .second, .val (.double y3), .second] [] := by first | rfl | (simp [entryFrame, mkF, argsToLocals, Value.category]; done)
theorem m16_holds (l : Launch) (Z : State) (a0 : Array Value) (hw : HW Z a0) (x1 : Addr) (y2 y3 : UInt64) (h0 : Heap) (n0 : Nat) (Z0 : n0 ≤ h0.size) (O0 : Old Z n0 h0) (P1 : Exa Z Z.heap x1 "com/example/pathlatch/pathlatch/path/Predicate$Operator") (P2 : Fld Z Z.heap x1 "java/lang/Enum" "ordinal" "I" (.int (2 : Int32))) (P3 : (cmpValue (FP.dcmp y2 y3) .g) = (0 : Int32)) :
    Ctr l Z [] (⟨"com/example/pathlatch/pathlatch/path/Predicate$Operator", "holds", "(DD)Z"⟩ : MethodName) prog_113_method_4_code 5 (some .boolean) #[(.ref x1), (.double y2), (.double y3)] h0 ({ frames := 1, cells := 0, slots := 0, locals := 12 } : Room) (fun v h L => v = some (.int (1 : Int32)) ∧ Fr n0 L ∧ h = h0) := by
  refine Ctr.of (plainFor_of_name pn_com_example_pathlatch_pathlatch_path_Predicate_Operator) (fun m => ef_m16_holds m x1 y2 y3) ?_
  intro p e s m below meth c T0 hx hZ hby hml hown hnm hret hlk X0 e0
  have N0 := Fr.nil n0
  show Rch p e below _ (T0.setTop (mkF m 0 #[.val (.ref x1), .val (.double y2), .second, .val (.double y3), .second] []))
  refine Rch.go (fun t k => XS.aloadN X0.here hx rfl (hb hby d1_0) rfl rfl k) ?_
  show Rch p e below _ (T0.setTop (mkF m 1 #[.val (.ref x1), .val (.double y2), .second, .val (.double y3), .second] [(.ref x1)]))
  obtain ⟨v1, T1, L1, X1, Q1, st1⟩ := callUp X0 hx hZ (m15_ordinal l Z a0 hw x1 h0 n0 Z0 O0 P2) e0 hown (wd_13 hw) (wd_14 hw) (wd_15 hw) (by decide) (wd_17 hw) (wd_16 hw) (wd_19 hw) (wd_18 hw) (by decide) (hb hby d1_1) 0 (by decide) (by decide) (by decide) (by decide) (by rw [hml]; rfl) x1 (P1.ext O0.2) [] [] rfl (lenOf pd_1 rfl) rfl (Nat.le_of_eq rfl) (Ls := #[.val (.ref x1), .val (.double y2), .second, .val (.double y3), .second])
  obtain ⟨rfl, M1, e1⟩ := Q1
  have N1 := Fr.app N0 M1
  refine Rch.go st1 ?_
  show Rch p e below _ (T1.setTop (mkF m 4 #[.val (.ref x1), .val (.double y2), .second, .val (.double y3), .second] [(.int (2 : Int32))]))
  refine Rch.go (fun t k => XS.tswIn X1.here hx rfl (pc0 := 4) (pc' := 96) (o := 92) rfl (hb hby d1_4) rfl (by decide) (by decide) (by decide) (by decide) (XS.dloadN X1.here hx rfl (hb hby d1_96) rfl  (XS.dloadN X1.here hx rfl (hb hby d1_97) rfl  k))) ?_
  show Rch p e below _ (T1.setTop (mkF m 98 #[.val (.ref x1), .val (.double y2), .second, .val (.double y3), .second] [(.double y3), (.double y2)]))
  refine Rch.go (fun t k => XS.dcmpS X1.here hx rfl (hb hby d1_98) rfl P3 (XS.ifNo X1.here hx rfl (hb hby d1_99) rfl (by decide) (XS.iconst X1.here hx rfl (hb hby d1_102) (XS.goto X1.here hx rfl (pc0 := 103) (pc' := 135) rfl (hb hby d1_103) (by decide) (by decide) k)))) ?_
  show Rch p e below _ (T1.setTop (mkF m 135 #[.val (.ref x1), .val (.double y2), .second, .val (.double y3), .second] [(.int (1 : Int32))]))
  refine Rch.val X1 hx (t := .boolean) hret hlk rfl (mayI (by simp)) (hb hby d1_135) (by decide) (by decide) ?_
  try rw [e1]
  exact ⟨rfl, N1, rfl⟩
theorem d1_106 : decode prog_113_method_4_code 106 = .ok (.iconst 0, 1) := by decide +kernel
theorem d1_107 : decode prog_113_method_4_code 107 = .ok (.goto 28, 3) := by decide +kernel
theorem ef_m17_holds (m : MethodId) (x1 : Addr) (y2 y3 : UInt64) : entryFrame m #[(.ref x1), (.double y2), (.double y3)] 5 = mkF m 0 #[.val (.ref x1), .val (.double y2), .second, .val (.double y3), .second] [] := by first | rfl | (simp [entryFrame, mkF, argsToLocals, Value.category]; done)
theorem m17_holds (l : Launch) (Z : State) (a0 : Array Value) (hw : HW Z a0) (x1 : Addr) (y2 y3 : UInt64) (h0 : Heap) (n0 : Nat) (Z0 : n0 ≤ h0.size) (O0 : Old Z n0 h0) (P1 : Exa Z Z.heap x1 "com/example/pathlatch/pathlatch/path/Predicate$Operator") (P2 : Fld Z Z.heap x1 "java/lang/Enum" "ordinal" "I" (.int (2 : Int32))) (P3 : (cmpValue (FP.dcmp y2 y3) .g) = (1 : Int32)) :
    Ctr l Z [] (⟨"com/example/pathlatch/pathlatch/path/Predicate$Operator", "holds", "(DD)Z"⟩ : MethodName) prog_113_method_4_code 5 (some .boolean) #[(.ref x1), (.double y2), (.double y3)] h0 ({ frames := 1, cells := 0, slots := 0, locals := 12 } : Room) (fun v h L => v = some (.int (0 : Int32)) ∧ Fr n0 L ∧ h = h0) := by
  refine Ctr.of (plainFor_of_name pn_com_example_pathlatch_pathlatch_path_Predicate_Operator) (fun m => ef_m17_holds m x1 y2 y3) ?_
  intro p e s m below meth c T0 hx hZ hby hml hown hnm hret hlk X0 e0
  have N0 := Fr.nil n0
  show Rch p e below _ (T0.setTop (mkF m 0 #[.val (.ref x1), .val (.double y2), .second, .val (.double y3), .second] []))
  refine Rch.go (fun t k => XS.aloadN X0.here hx rfl (hb hby d1_0) rfl rfl k) ?_
  show Rch p e below _ (T0.setTop (mkF m 1 #[.val (.ref x1), .val (.double y2), .second, .val (.double y3), .second] [(.ref x1)]))
  obtain ⟨v1, T1, L1, X1, Q1, st1⟩ := callUp X0 hx hZ (m15_ordinal l Z a0 hw x1 h0 n0 Z0 O0 P2) e0 hown (wd_13 hw) (wd_14 hw) (wd_15 hw) (by decide) (wd_17 hw) (wd_16 hw) (wd_19 hw) (wd_18 hw) (by decide) (hb hby d1_1) 0 (by decide) (by decide) (by decide) (by decide) (by rw [hml]; rfl) x1 (P1.ext O0.2) [] [] rfl (lenOf pd_1 rfl) rfl (Nat.le_of_eq rfl) (Ls := #[.val (.ref x1), .val (.double y2), .second, .val (.double y3), .second])
  obtain ⟨rfl, M1, e1⟩ := Q1
  have N1 := Fr.app N0 M1
  refine Rch.go st1 ?_
  show Rch p e below _ (T1.setTop (mkF m 4 #[.val (.ref x1), .val (.double y2), .second, .val (.double y3), .second] [(.int (2 : Int32))]))
  refine Rch.go (fun t k => XS.tswIn X1.here hx rfl (pc0 := 4) (pc' := 96) (o := 92) rfl (hb hby d1_4) rfl (by decide) (by decide) (by decide) (by decide) (XS.dloadN X1.here hx rfl (hb hby d1_96) rfl  (XS.dloadN X1.here hx rfl (hb hby d1_97) rfl  k))) ?_
  show Rch p e below _ (T1.setTop (mkF m 98 #[.val (.ref x1), .val (.double y2), .second, .val (.double y3), .second] [(.double y3), (.double y2)]))
  refine Rch.go (fun t k => XS.dcmpS X1.here hx rfl (hb hby d1_98) rfl P3 (XS.ifYes X1.here hx rfl (pc0 := 99) (pc' := 106) rfl (hb hby d1_99) rfl (by decide) (by decide) (by decide) (XS.iconst X1.here hx rfl (hb hby d1_106) (XS.goto X1.here hx rfl (pc0 := 107) (pc' := 135) rfl (hb hby d1_107) (by decide) (by decide) k)))) ?_
  show Rch p e below _ (T1.setTop (mkF m 135 #[.val (.ref x1), .val (.double y2), .second, .val (.double y3), .second] [(.int (0 : Int32))]))
  refine Rch.val X1 hx (t := .boolean) hret hlk rfl (mayI (by simp)) (hb hby d1_135) (by decide) (by decide) ?_
  try rw [e1]
  exact ⟨rfl, N1, rfl⟩
theorem ef_m18_holds (m : MethodId) (x1 : Addr) (y2 : UInt64) : entryFrame m #[(.ref x1), (.double y2), (.double y2)] 5 = mkF m 0 #[.val (.ref x1), .val (.double y2), .second, .val (.double y2), .second] [] := by first | rfl | (simp [entryFrame, mkF, argsToLocals, Value.category]; done)
theorem m18_holds (l : Launch) (Z : State) (a0 : Array Value) (hw : HW Z a0) (x1 : Addr) (y2 : UInt64) (h0 : Heap) (n0 : Nat) (Z0 : n0 ≤ h0.size) (O0 : Old Z n0 h0) (P1 : Exa Z Z.heap x1 "com/example/pathlatch/pathlatch/path/Predicate$Operator") (P2 : Fld Z Z.heap x1 "java/lang/Enum" "ordinal" "I" (.int (2 : Int32))) (P3 : (cmpValue (FP.dcmp y2 y2) .g) = (0 : Int32)) :
    Ctr l Z [] (⟨"com/example/pathlatch/pathlatch/path/Predicate$Operator", "holds", "(DD)Z"⟩ : MethodName) prog_113_method_4_code 5 (some .boolean) #[(.ref x1), (.double y2), (.double y2)] h0 ({ frames := 1, cells := 0, slots := 0, locals := 12 } : Room) (fun v h L => v = some (.int (1 : Int32)) ∧ Fr n0 L ∧ h = h0) := by
  refine Ctr.of (plainFor_of_name pn_com_example_pathlatch_pathlatch_path_Predicate_Operator) (fun m => ef_m18_holds m x1 y2) ?_
  intro p e s m below meth c T0 hx hZ hby hml hown hnm hret hlk X0 e0
  have N0 := Fr.nil n0
  show Rch p e below _ (T0.setTop (mkF m 0 #[.val (.ref x1), .val (.double y2), .second, .val (.double y2), .second] []))
  refine Rch.go (fun t k => XS.aloadN X0.here hx rfl (hb hby d1_0) rfl rfl k) ?_
  show Rch p e below _ (T0.setTop (mkF m 1 #[.val (.ref x1), .val (.double y2), .second, .val (.double y2), .second] [(.ref x1)]))
  obtain ⟨v1, T1, L1, X1, Q1, st1⟩ := callUp X0 hx hZ (m15_ordinal l Z a0 hw x1 h0 n0 Z0 O0 P2) e0 hown (wd_13 hw) (wd_14 hw) (wd_15 hw) (by decide) (wd_17 hw) (wd_16 hw) (wd_19 hw) (wd_18 hw) (by decide) (hb hby d1_1) 0 (by decide) (by decide) (by decide) (by decide) (by rw [hml]; rfl) x1 (P1.ext O0.2) [] [] rfl (lenOf pd_1 rfl) rfl (Nat.le_of_eq rfl) (Ls := #[.val (.ref x1), .val (.double y2), .second, .val (.double y2), .second])
  obtain ⟨rfl, M1, e1⟩ := Q1
  have N1 := Fr.app N0 M1
  refine Rch.go st1 ?_
  show Rch p e below _ (T1.setTop (mkF m 4 #[.val (.ref x1), .val (.double y2), .second, .val (.double y2), .second] [(.int (2 : Int32))]))
  refine Rch.go (fun t k => XS.tswIn X1.here hx rfl (pc0 := 4) (pc' := 96) (o := 92) rfl (hb hby d1_4) rfl (by decide) (by decide) (by decide) (by decide) (XS.dloadN X1.here hx rfl (hb hby d1_96) rfl  (XS.dloadN X1.here hx rfl (hb hby d1_97) rfl  k))) ?_
  show Rch p e below _ (T1.setTop (mkF m 98 #[.val (.ref x1), .val (.double y2), .second, .val (.double y2), .second] [(.double y2), (.double y2)]))
  refine Rch.go (fun t k => XS.dcmpS X1.here hx rfl (hb hby d1_98) rfl P3 (XS.ifNo X1.here hx rfl (hb hby d1_99) rfl (by decide) (XS.iconst X1.here hx rfl (hb hby d1_102) (XS.goto X1.here hx rfl (pc0 := 103) (pc' := 135) rfl (hb hby d1_103) (by decide) (by decide) k)))) ?_
  show Rch p e below _ (T1.setTop (mkF m 135 #[.val (.ref x1), .val (.double y2), .second, .val (.double y2), .second] [(.int (1 : Int32))]))
  refine Rch.val X1 hx (t := .boolean) hret hlk rfl (mayI (by simp)) (hb hby d1_135) (by decide) (by decide) ?_
  try rw [e1]
  exact ⟨rfl, N1, rfl⟩
theorem d0_26 : decode method_2_code 26 = .ok (.iload_n 0, 1) := by decide +kernel
theorem d0_27 : decode method_2_code 27 = .ok (.iconst 3, 1) := by decide +kernel
theorem d0_28 : decode method_2_code 28 = .ok (.if_icmp .ne 7, 3) := by decide +kernel
theorem d0_31 : decode method_2_code 31 = .ok (.getstatic 19, 3) := by decide +kernel
theorem wd_26 {Z a0} (hw : HW Z a0) : (Cond.fieldLink "com/example/pathlatch/pathlatch/path/OperatorHoldsPinLaw" (19 : Nat) "com/example/pathlatch/pathlatch/path/Predicate$Operator" "LESS" "Lcom/example/pathlatch/pathlatch/path/Predicate$Operator;").before a0 Z = true := hw.at 26 rfl
theorem d0_34 : decode method_2_code 34 = .ok (.areturn, 1) := by decide +kernel
theorem ef_m19_pick (m : MethodId) : entryFrame m #[(.int (3 : Int32))] 1 = mkF m 0 #[.val (.int (3 : Int32))] [] := by first | rfl | (simp [entryFrame, mkF, argsToLocals, Value.category]; done)
theorem m19_pick (l : Launch) (Z : State) (a0 : Array Value) (hw : HW Z a0) (x1 : Addr) (h0 : Heap) (n0 : Nat) (Z0 : n0 ≤ h0.size) (O0 : Old Z n0 h0) (P1 : Sta Z Z.heap "com/example/pathlatch/pathlatch/path/Predicate$Operator" "LESS" "Lcom/example/pathlatch/pathlatch/path/Predicate$Operator;" (.ref x1)) :
    Ctr l Z [] (⟨"com/example/pathlatch/pathlatch/path/OperatorHoldsPinLaw", "pick", "(I)Lcom/example/pathlatch/pathlatch/path/Predicate$Operator;"⟩ : MethodName) method_2_code 1 (some (.object "com/example/pathlatch/pathlatch/path/Predicate$Operator")) #[(.int (3 : Int32))] h0 ({ frames := 0, cells := 0, slots := 0, locals := 0 } : Room) (fun v h L => v = some (.ref x1) ∧ Fr n0 L ∧ h = h0) := by
  refine Ctr.of (plainFor_of_name pn_com_example_pathlatch_pathlatch_path_OperatorHoldsPinLaw) (fun m => ef_m19_pick m ) ?_
  intro p e s m below meth c T0 hx hZ hby hml hown hnm hret hlk X0 e0
  have N0 := Fr.nil n0
  show Rch p e below _ (T0.setTop (mkF m 0 #[.val (.int (3 : Int32))] []))
  refine Rch.go (fun t k => XS.iloadN X0.here hx rfl (hb hby d0_0) rfl  (XS.ifYes X0.here hx rfl (pc0 := 1) (pc' := 8) rfl (hb hby d0_1) rfl (by decide) (by decide) (by decide) (XS.iloadN X0.here hx rfl (hb hby d0_8) rfl  (XS.iconst X0.here hx rfl (hb hby d0_9) (XS.icmpYes X0.here hx rfl (pc0 := 10) (pc' := 17) rfl (hb hby d0_10) rfl (by decide) (by decide) (by decide) (XS.iloadN X0.here hx rfl (hb hby d0_17) rfl  (XS.iconst X0.here hx rfl (hb hby d0_18) (XS.icmpYes X0.here hx rfl (pc0 := 19) (pc' := 26) rfl (hb hby d0_19) rfl (by decide) (by decide) (by decide) (XS.iloadN X0.here hx rfl (hb hby d0_26) rfl  (XS.iconst X0.here hx rfl (hb hby d0_27) (XS.icmpNo X0.here hx rfl (hb hby d0_28) rfl (by decide) k))))))))))) ?_
  show Rch p e below _ (T0.setTop (mkF m 31 #[.val (.int (3 : Int32))] []))
  obtain ⟨T1, X1, e1, st1⟩ := getS2 X0 hx hZ hown (host := "") (Or.inl (wd_26 hw)) Via.refl e0 (P1.ext O0.2) (g := (mkF m 31 #[.val (.int (3 : Int32))] [])) rfl (hb hby d0_31)
  refine Rch.go st1 ?_
  show Rch p e below _ (T1.setTop (mkF m 34 #[.val (.int (3 : Int32))] [(.ref x1)]))
  refine Rch.val X1 hx (t := (.object "com/example/pathlatch/pathlatch/path/Predicate$Operator")) hret hlk rfl (Or.inr (Or.inr (Or.inr (Or.inr ⟨rfl, rfl, rfl⟩)))) (hb hby d0_34) (by decide) (by decide) ?_
  try rw [e1]
  exact ⟨rfl, N0, rfl⟩
theorem ef_m21_ordinal (m : MethodId) (x1 : Addr) : entryFrame m #[(.ref x1)] 1 = mkF m 0 #[.val (.ref x1)] [] := by first | rfl | (simp [entryFrame, mkF, argsToLocals, Value.category]; done)
theorem m21_ordinal (l : Launch) (Z : State) (a0 : Array Value) (hw : HW Z a0) (x1 : Addr) (h0 : Heap) (n0 : Nat) (Z0 : n0 ≤ h0.size) (O0 : Old Z n0 h0) (P1 : Fld Z Z.heap x1 "java/lang/Enum" "ordinal" "I" (.int (3 : Int32))) :
    Ctr l Z [] (⟨"java/lang/Enum", "ordinal", "()I"⟩ : MethodName) jdk_37_method_2_code 1 (some .int) #[(.ref x1)] h0 ({ frames := 0, cells := 0, slots := 0, locals := 0 } : Room) (fun v h L => v = some (.int (3 : Int32)) ∧ Fr n0 L ∧ h = h0) := by
  refine Ctr.of (plainFor_of_name pn_java_lang_Enum) (fun m => ef_m21_ordinal m x1) ?_
  intro p e s m below meth c T0 hx hZ hby hml hown hnm hret hlk X0 e0
  have N0 := Fr.nil n0
  show Rch p e below _ (T0.setTop (mkF m 0 #[.val (.ref x1)] []))
  refine Rch.go (fun t k => XS.aloadN X0.here hx rfl (hb hby d2_0) rfl rfl k) ?_
  show Rch p e below _ (T0.setTop (mkF m 1 #[.val (.ref x1)] [(.ref x1)]))
  obtain ⟨T1, X1, e1, st1⟩ := getF X0 hx hZ hown (host := "") (Or.inl (wd_20 hw)) Via.refl e0 (P1.ext O0.2) (g := (mkF m 1 #[.val (.ref x1)] [(.ref x1)])) rfl rfl (hb hby d2_1)
  refine Rch.go st1 ?_
  show Rch p e below _ (T1.setTop (mkF m 4 #[.val (.ref x1)] [(.int (3 : Int32))]))
  refine Rch.val X1 hx (t := .int) hret hlk rfl (mayI (by simp)) (hb hby d2_4) (by decide) (by decide) ?_
  try rw [e1]
  exact ⟨rfl, N0, rfl⟩
theorem d1_82 : decode prog_113_method_4_code 82 = .ok (.dload_n 1, 1) := by decide +kernel
theorem d1_83 : decode prog_113_method_4_code 83 = .ok (.dload_n 3, 1) := by decide +kernel
theorem d1_84 : decode prog_113_method_4_code 84 = .ok (.dcmp .g, 1) := by decide +kernel
theorem d1_85 : decode prog_113_method_4_code 85 = .ok (.ifCond .ge 7, 3) := by decide +kernel
theorem d1_88 : decode prog_113_method_4_code 88 = .ok (.iconst 1, 1) := by decide +kernel
theorem d1_89 : decode prog_113_method_4_code 89 = .ok (.goto 46, 3) := by decide +kernel
theorem ef_m20_holds (m : MethodId) (x1 : Addr) (y2 y3 : UInt64) : entryFrame m #[(.ref x1), (.double y2), (.double y3)] 5 = mkF m 0 #[.val (.ref x1), .val (.double y2), .second, .val (.double y3), .second] [] := by first | rfl | (simp [entryFrame, mkF, argsToLocals, Value.category]; done)
theorem m20_holds (l : Launch) (Z : State) (a0 : Array Value) (hw : HW Z a0) (x1 : Addr) (y2 y3 : UInt64) (h0 : Heap) (n0 : Nat) (Z0 : n0 ≤ h0.size) (O0 : Old Z n0 h0) (P1 : Exa Z Z.heap x1 "com/example/pathlatch/pathlatch/path/Predicate$Operator") (P2 : Fld Z Z.heap x1 "java/lang/Enum" "ordinal" "I" (.int (3 : Int32))) (P3 : (cmpValue (FP.dcmp y2 y3) .g) = (-1 : Int32)) :
    Ctr l Z [] (⟨"com/example/pathlatch/pathlatch/path/Predicate$Operator", "holds", "(DD)Z"⟩ : MethodName) prog_113_method_4_code 5 (some .boolean) #[(.ref x1), (.double y2), (.double y3)] h0 ({ frames := 1, cells := 0, slots := 0, locals := 12 } : Room) (fun v h L => v = some (.int (1 : Int32)) ∧ Fr n0 L ∧ h = h0) := by
  refine Ctr.of (plainFor_of_name pn_com_example_pathlatch_pathlatch_path_Predicate_Operator) (fun m => ef_m20_holds m x1 y2 y3) ?_
  intro p e s m below meth c T0 hx hZ hby hml hown hnm hret hlk X0 e0
  have N0 := Fr.nil n0
  show Rch p e below _ (T0.setTop (mkF m 0 #[.val (.ref x1), .val (.double y2), .second, .val (.double y3), .second] []))
  refine Rch.go (fun t k => XS.aloadN X0.here hx rfl (hb hby d1_0) rfl rfl k) ?_
  show Rch p e below _ (T0.setTop (mkF m 1 #[.val (.ref x1), .val (.double y2), .second, .val (.double y3), .second] [(.ref x1)]))
  obtain ⟨v1, T1, L1, X1, Q1, st1⟩ := callUp X0 hx hZ (m21_ordinal l Z a0 hw x1 h0 n0 Z0 O0 P2) e0 hown (wd_13 hw) (wd_14 hw) (wd_15 hw) (by decide) (wd_17 hw) (wd_16 hw) (wd_19 hw) (wd_18 hw) (by decide) (hb hby d1_1) 0 (by decide) (by decide) (by decide) (by decide) (by rw [hml]; rfl) x1 (P1.ext O0.2) [] [] rfl (lenOf pd_1 rfl) rfl (Nat.le_of_eq rfl) (Ls := #[.val (.ref x1), .val (.double y2), .second, .val (.double y3), .second])
  obtain ⟨rfl, M1, e1⟩ := Q1
  have N1 := Fr.app N0 M1
  refine Rch.go st1 ?_
  show Rch p e below _ (T1.setTop (mkF m 4 #[.val (.ref x1), .val (.double y2), .second, .val (.double y3), .second] [(.int (3 : Int32))]))
  refine Rch.go (fun t k => XS.tswIn X1.here hx rfl (pc0 := 4) (pc' := 82) (o := 78) rfl (hb hby d1_4) rfl (by decide) (by decide) (by decide) (by decide) (XS.dloadN X1.here hx rfl (hb hby d1_82) rfl  (XS.dloadN X1.here hx rfl (hb hby d1_83) rfl  k))) ?_
  show Rch p e below _ (T1.setTop (mkF m 84 #[.val (.ref x1), .val (.double y2), .second, .val (.double y3), .second] [(.double y3), (.double y2)]))
  refine Rch.go (fun t k => XS.dcmpS X1.here hx rfl (hb hby d1_84) rfl P3 (XS.ifNo X1.here hx rfl (hb hby d1_85) rfl (by decide) (XS.iconst X1.here hx rfl (hb hby d1_88) (XS.goto X1.here hx rfl (pc0 := 89) (pc' := 135) rfl (hb hby d1_89) (by decide) (by decide) k)))) ?_
  show Rch p e below _ (T1.setTop (mkF m 135 #[.val (.ref x1), .val (.double y2), .second, .val (.double y3), .second] [(.int (1 : Int32))]))
  refine Rch.val X1 hx (t := .boolean) hret hlk rfl (mayI (by simp)) (hb hby d1_135) (by decide) (by decide) ?_
  try rw [e1]
  exact ⟨rfl, N1, rfl⟩
theorem d1_92 : decode prog_113_method_4_code 92 = .ok (.iconst 0, 1) := by decide +kernel
theorem d1_93 : decode prog_113_method_4_code 93 = .ok (.goto 42, 3) := by decide +kernel
theorem ef_m22_holds (m : MethodId) (x1 : Addr) (y2 y3 : UInt64) : entryFrame m #[(.ref x1), (.double y2), (.double y3)] 5 = mkF m 0 #[.val (.ref x1), .val (.double y2), .second, .val (.double y3), .second] [] := by first | rfl | (simp [entryFrame, mkF, argsToLocals, Value.category]; done)
theorem m22_holds (l : Launch) (Z : State) (a0 : Array Value) (hw : HW Z a0) (x1 : Addr) (y2 y3 : UInt64) (h0 : Heap) (n0 : Nat) (Z0 : n0 ≤ h0.size) (O0 : Old Z n0 h0) (P1 : Exa Z Z.heap x1 "com/example/pathlatch/pathlatch/path/Predicate$Operator") (P2 : Fld Z Z.heap x1 "java/lang/Enum" "ordinal" "I" (.int (3 : Int32))) (P3 : (cmpValue (FP.dcmp y2 y3) .g) = (0 : Int32)) :
    Ctr l Z [] (⟨"com/example/pathlatch/pathlatch/path/Predicate$Operator", "holds", "(DD)Z"⟩ : MethodName) prog_113_method_4_code 5 (some .boolean) #[(.ref x1), (.double y2), (.double y3)] h0 ({ frames := 1, cells := 0, slots := 0, locals := 12 } : Room) (fun v h L => v = some (.int (0 : Int32)) ∧ Fr n0 L ∧ h = h0) := by
  refine Ctr.of (plainFor_of_name pn_com_example_pathlatch_pathlatch_path_Predicate_Operator) (fun m => ef_m22_holds m x1 y2 y3) ?_
  intro p e s m below meth c T0 hx hZ hby hml hown hnm hret hlk X0 e0
  have N0 := Fr.nil n0
  show Rch p e below _ (T0.setTop (mkF m 0 #[.val (.ref x1), .val (.double y2), .second, .val (.double y3), .second] []))
  refine Rch.go (fun t k => XS.aloadN X0.here hx rfl (hb hby d1_0) rfl rfl k) ?_
  show Rch p e below _ (T0.setTop (mkF m 1 #[.val (.ref x1), .val (.double y2), .second, .val (.double y3), .second] [(.ref x1)]))
  obtain ⟨v1, T1, L1, X1, Q1, st1⟩ := callUp X0 hx hZ (m21_ordinal l Z a0 hw x1 h0 n0 Z0 O0 P2) e0 hown (wd_13 hw) (wd_14 hw) (wd_15 hw) (by decide) (wd_17 hw) (wd_16 hw) (wd_19 hw) (wd_18 hw) (by decide) (hb hby d1_1) 0 (by decide) (by decide) (by decide) (by decide) (by rw [hml]; rfl) x1 (P1.ext O0.2) [] [] rfl (lenOf pd_1 rfl) rfl (Nat.le_of_eq rfl) (Ls := #[.val (.ref x1), .val (.double y2), .second, .val (.double y3), .second])
  obtain ⟨rfl, M1, e1⟩ := Q1
  have N1 := Fr.app N0 M1
  refine Rch.go st1 ?_
  show Rch p e below _ (T1.setTop (mkF m 4 #[.val (.ref x1), .val (.double y2), .second, .val (.double y3), .second] [(.int (3 : Int32))]))
  refine Rch.go (fun t k => XS.tswIn X1.here hx rfl (pc0 := 4) (pc' := 82) (o := 78) rfl (hb hby d1_4) rfl (by decide) (by decide) (by decide) (by decide) (XS.dloadN X1.here hx rfl (hb hby d1_82) rfl  (XS.dloadN X1.here hx rfl (hb hby d1_83) rfl  k))) ?_
  show Rch p e below _ (T1.setTop (mkF m 84 #[.val (.ref x1), .val (.double y2), .second, .val (.double y3), .second] [(.double y3), (.double y2)]))
  refine Rch.go (fun t k => XS.dcmpS X1.here hx rfl (hb hby d1_84) rfl P3 (XS.ifYes X1.here hx rfl (pc0 := 85) (pc' := 92) rfl (hb hby d1_85) rfl (by decide) (by decide) (by decide) (XS.iconst X1.here hx rfl (hb hby d1_92) (XS.goto X1.here hx rfl (pc0 := 93) (pc' := 135) rfl (hb hby d1_93) (by decide) (by decide) k)))) ?_
  show Rch p e below _ (T1.setTop (mkF m 135 #[.val (.ref x1), .val (.double y2), .second, .val (.double y3), .second] [(.int (0 : Int32))]))
  refine Rch.val X1 hx (t := .boolean) hret hlk rfl (mayI (by simp)) (hb hby d1_135) (by decide) (by decide) ?_
  try rw [e1]
  exact ⟨rfl, N1, rfl⟩
theorem ef_m23_holds (m : MethodId) (x1 : Addr) (y2 y3 : UInt64) : entryFrame m #[(.ref x1), (.double y2), (.double y3)] 5 = mkF m 0 #[.val (.ref x1), .val (.double y2), .second, .val (.double y3), .second] [] := by first | rfl | (simp [entryFrame, mkF, argsToLocals, Value.category]; done)
theorem m23_holds (l : Launch) (Z : State) (a0 : Array Value) (hw : HW Z a0) (x1 : Addr) (y2 y3 : UInt64) (h0 : Heap) (n0 : Nat) (Z0 : n0 ≤ h0.size) (O0 : Old Z n0 h0) (P1 : Exa Z Z.heap x1 "com/example/pathlatch/pathlatch/path/Predicate$Operator") (P2 : Fld Z Z.heap x1 "java/lang/Enum" "ordinal" "I" (.int (3 : Int32))) (P3 : (cmpValue (FP.dcmp y2 y3) .g) = (1 : Int32)) :
    Ctr l Z [] (⟨"com/example/pathlatch/pathlatch/path/Predicate$Operator", "holds", "(DD)Z"⟩ : MethodName) prog_113_method_4_code 5 (some .boolean) #[(.ref x1), (.double y2), (.double y3)] h0 ({ frames := 1, cells := 0, slots := 0, locals := 12 } : Room) (fun v h L => v = some (.int (0 : Int32)) ∧ Fr n0 L ∧ h = h0) := by
  refine Ctr.of (plainFor_of_name pn_com_example_pathlatch_pathlatch_path_Predicate_Operator) (fun m => ef_m23_holds m x1 y2 y3) ?_
  intro p e s m below meth c T0 hx hZ hby hml hown hnm hret hlk X0 e0
  have N0 := Fr.nil n0
  show Rch p e below _ (T0.setTop (mkF m 0 #[.val (.ref x1), .val (.double y2), .second, .val (.double y3), .second] []))
  refine Rch.go (fun t k => XS.aloadN X0.here hx rfl (hb hby d1_0) rfl rfl k) ?_
  show Rch p e below _ (T0.setTop (mkF m 1 #[.val (.ref x1), .val (.double y2), .second, .val (.double y3), .second] [(.ref x1)]))
  obtain ⟨v1, T1, L1, X1, Q1, st1⟩ := callUp X0 hx hZ (m21_ordinal l Z a0 hw x1 h0 n0 Z0 O0 P2) e0 hown (wd_13 hw) (wd_14 hw) (wd_15 hw) (by decide) (wd_17 hw) (wd_16 hw) (wd_19 hw) (wd_18 hw) (by decide) (hb hby d1_1) 0 (by decide) (by decide) (by decide) (by decide) (by rw [hml]; rfl) x1 (P1.ext O0.2) [] [] rfl (lenOf pd_1 rfl) rfl (Nat.le_of_eq rfl) (Ls := #[.val (.ref x1), .val (.double y2), .second, .val (.double y3), .second])
  obtain ⟨rfl, M1, e1⟩ := Q1
  have N1 := Fr.app N0 M1
  refine Rch.go st1 ?_
  show Rch p e below _ (T1.setTop (mkF m 4 #[.val (.ref x1), .val (.double y2), .second, .val (.double y3), .second] [(.int (3 : Int32))]))
  refine Rch.go (fun t k => XS.tswIn X1.here hx rfl (pc0 := 4) (pc' := 82) (o := 78) rfl (hb hby d1_4) rfl (by decide) (by decide) (by decide) (by decide) (XS.dloadN X1.here hx rfl (hb hby d1_82) rfl  (XS.dloadN X1.here hx rfl (hb hby d1_83) rfl  k))) ?_
  show Rch p e below _ (T1.setTop (mkF m 84 #[.val (.ref x1), .val (.double y2), .second, .val (.double y3), .second] [(.double y3), (.double y2)]))
  refine Rch.go (fun t k => XS.dcmpS X1.here hx rfl (hb hby d1_84) rfl P3 (XS.ifYes X1.here hx rfl (pc0 := 85) (pc' := 92) rfl (hb hby d1_85) rfl (by decide) (by decide) (by decide) (XS.iconst X1.here hx rfl (hb hby d1_92) (XS.goto X1.here hx rfl (pc0 := 93) (pc' := 135) rfl (hb hby d1_93) (by decide) (by decide) k)))) ?_
  show Rch p e below _ (T1.setTop (mkF m 135 #[.val (.ref x1), .val (.double y2), .second, .val (.double y3), .second] [(.int (0 : Int32))]))
  refine Rch.val X1 hx (t := .boolean) hret hlk rfl (mayI (by simp)) (hb hby d1_135) (by decide) (by decide) ?_
  try rw [e1]
  exact ⟨rfl, N1, rfl⟩
theorem ef_m24_holds (m : MethodId) (x1 : Addr) (y2 : UInt64) : entryFrame m #[(.ref x1), (.double y2), (.double y2)] 5 = mkF m 0 #[.val (.ref x1), .val (.double y2), .second, .val (.double y2), .second] [] := by first | rfl | (simp [entryFrame, mkF, argsToLocals, Value.category]; done)
theorem m24_holds (l : Launch) (Z : State) (a0 : Array Value) (hw : HW Z a0) (x1 : Addr) (y2 : UInt64) (h0 : Heap) (n0 : Nat) (Z0 : n0 ≤ h0.size) (O0 : Old Z n0 h0) (P1 : Exa Z Z.heap x1 "com/example/pathlatch/pathlatch/path/Predicate$Operator") (P2 : Fld Z Z.heap x1 "java/lang/Enum" "ordinal" "I" (.int (3 : Int32))) (P3 : (cmpValue (FP.dcmp y2 y2) .g) = (0 : Int32)) :
    Ctr l Z [] (⟨"com/example/pathlatch/pathlatch/path/Predicate$Operator", "holds", "(DD)Z"⟩ : MethodName) prog_113_method_4_code 5 (some .boolean) #[(.ref x1), (.double y2), (.double y2)] h0 ({ frames := 1, cells := 0, slots := 0, locals := 12 } : Room) (fun v h L => v = some (.int (0 : Int32)) ∧ Fr n0 L ∧ h = h0) := by
  refine Ctr.of (plainFor_of_name pn_com_example_pathlatch_pathlatch_path_Predicate_Operator) (fun m => ef_m24_holds m x1 y2) ?_
  intro p e s m below meth c T0 hx hZ hby hml hown hnm hret hlk X0 e0
  have N0 := Fr.nil n0
  show Rch p e below _ (T0.setTop (mkF m 0 #[.val (.ref x1), .val (.double y2), .second, .val (.double y2), .second] []))
  refine Rch.go (fun t k => XS.aloadN X0.here hx rfl (hb hby d1_0) rfl rfl k) ?_
  show Rch p e below _ (T0.setTop (mkF m 1 #[.val (.ref x1), .val (.double y2), .second, .val (.double y2), .second] [(.ref x1)]))
  obtain ⟨v1, T1, L1, X1, Q1, st1⟩ := callUp X0 hx hZ (m21_ordinal l Z a0 hw x1 h0 n0 Z0 O0 P2) e0 hown (wd_13 hw) (wd_14 hw) (wd_15 hw) (by decide) (wd_17 hw) (wd_16 hw) (wd_19 hw) (wd_18 hw) (by decide) (hb hby d1_1) 0 (by decide) (by decide) (by decide) (by decide) (by rw [hml]; rfl) x1 (P1.ext O0.2) [] [] rfl (lenOf pd_1 rfl) rfl (Nat.le_of_eq rfl) (Ls := #[.val (.ref x1), .val (.double y2), .second, .val (.double y2), .second])
  obtain ⟨rfl, M1, e1⟩ := Q1
  have N1 := Fr.app N0 M1
  refine Rch.go st1 ?_
  show Rch p e below _ (T1.setTop (mkF m 4 #[.val (.ref x1), .val (.double y2), .second, .val (.double y2), .second] [(.int (3 : Int32))]))
  refine Rch.go (fun t k => XS.tswIn X1.here hx rfl (pc0 := 4) (pc' := 82) (o := 78) rfl (hb hby d1_4) rfl (by decide) (by decide) (by decide) (by decide) (XS.dloadN X1.here hx rfl (hb hby d1_82) rfl  (XS.dloadN X1.here hx rfl (hb hby d1_83) rfl  k))) ?_
  show Rch p e below _ (T1.setTop (mkF m 84 #[.val (.ref x1), .val (.double y2), .second, .val (.double y2), .second] [(.double y2), (.double y2)]))
  refine Rch.go (fun t k => XS.dcmpS X1.here hx rfl (hb hby d1_84) rfl P3 (XS.ifYes X1.here hx rfl (pc0 := 85) (pc' := 92) rfl (hb hby d1_85) rfl (by decide) (by decide) (by decide) (XS.iconst X1.here hx rfl (hb hby d1_92) (XS.goto X1.here hx rfl (pc0 := 93) (pc' := 135) rfl (hb hby d1_93) (by decide) (by decide) k)))) ?_
  show Rch p e below _ (T1.setTop (mkF m 135 #[.val (.ref x1), .val (.double y2), .second, .val (.double y2), .second] [(.int (0 : Int32))]))
  refine Rch.val X1 hx (t := .boolean) hret hlk rfl (mayI (by simp)) (hb hby d1_135) (by decide) (by decide) ?_
  try rw [e1]
  exact ⟨rfl, N1, rfl⟩
theorem d0_35 : decode method_2_code 35 = .ok (.iload_n 0, 1) := by decide +kernel
theorem d0_36 : decode method_2_code 36 = .ok (.iconst 4, 1) := by decide +kernel
theorem d0_37 : decode method_2_code 37 = .ok (.if_icmp .ne 7, 3) := by decide +kernel
theorem d0_40 : decode method_2_code 40 = .ok (.getstatic 22, 3) := by decide +kernel
theorem wd_24 {Z a0} (hw : HW Z a0) : (Cond.fieldLink "com/example/pathlatch/pathlatch/path/OperatorHoldsPinLaw" (22 : Nat) "com/example/pathlatch/pathlatch/path/Predicate$Operator" "GREATER_OR_EQUAL" "Lcom/example/pathlatch/pathlatch/path/Predicate$Operator;").before a0 Z = true := hw.at 24 rfl
theorem d0_43 : decode method_2_code 43 = .ok (.areturn, 1) := by decide +kernel
theorem ef_m25_pick (m : MethodId) : entryFrame m #[(.int (4 : Int32))] 1 = mkF m 0 #[.val (.int (4 : Int32))] [] := by first | rfl | (simp [entryFrame, mkF, argsToLocals, Value.category]; done)
theorem m25_pick (l : Launch) (Z : State) (a0 : Array Value) (hw : HW Z a0) (x1 : Addr) (h0 : Heap) (n0 : Nat) (Z0 : n0 ≤ h0.size) (O0 : Old Z n0 h0) (P1 : Sta Z Z.heap "com/example/pathlatch/pathlatch/path/Predicate$Operator" "GREATER_OR_EQUAL" "Lcom/example/pathlatch/pathlatch/path/Predicate$Operator;" (.ref x1)) :
    Ctr l Z [] (⟨"com/example/pathlatch/pathlatch/path/OperatorHoldsPinLaw", "pick", "(I)Lcom/example/pathlatch/pathlatch/path/Predicate$Operator;"⟩ : MethodName) method_2_code 1 (some (.object "com/example/pathlatch/pathlatch/path/Predicate$Operator")) #[(.int (4 : Int32))] h0 ({ frames := 0, cells := 0, slots := 0, locals := 0 } : Room) (fun v h L => v = some (.ref x1) ∧ Fr n0 L ∧ h = h0) := by
  refine Ctr.of (plainFor_of_name pn_com_example_pathlatch_pathlatch_path_OperatorHoldsPinLaw) (fun m => ef_m25_pick m ) ?_
  intro p e s m below meth c T0 hx hZ hby hml hown hnm hret hlk X0 e0
  have N0 := Fr.nil n0
  show Rch p e below _ (T0.setTop (mkF m 0 #[.val (.int (4 : Int32))] []))
  refine Rch.go (fun t k => XS.iloadN X0.here hx rfl (hb hby d0_0) rfl  (XS.ifYes X0.here hx rfl (pc0 := 1) (pc' := 8) rfl (hb hby d0_1) rfl (by decide) (by decide) (by decide) (XS.iloadN X0.here hx rfl (hb hby d0_8) rfl  (XS.iconst X0.here hx rfl (hb hby d0_9) (XS.icmpYes X0.here hx rfl (pc0 := 10) (pc' := 17) rfl (hb hby d0_10) rfl (by decide) (by decide) (by decide) (XS.iloadN X0.here hx rfl (hb hby d0_17) rfl  (XS.iconst X0.here hx rfl (hb hby d0_18) (XS.icmpYes X0.here hx rfl (pc0 := 19) (pc' := 26) rfl (hb hby d0_19) rfl (by decide) (by decide) (by decide) (XS.iloadN X0.here hx rfl (hb hby d0_26) rfl  (XS.iconst X0.here hx rfl (hb hby d0_27) (XS.icmpYes X0.here hx rfl (pc0 := 28) (pc' := 35) rfl (hb hby d0_28) rfl (by decide) (by decide) (by decide) (XS.iloadN X0.here hx rfl (hb hby d0_35) rfl  k)))))))))))) ?_
  show Rch p e below _ (T0.setTop (mkF m 36 #[.val (.int (4 : Int32))] [(.int (4 : Int32))]))
  refine Rch.go (fun t k => XS.iconst X0.here hx rfl (hb hby d0_36) (XS.icmpNo X0.here hx rfl (hb hby d0_37) rfl (by decide) k)) ?_
  show Rch p e below _ (T0.setTop (mkF m 40 #[.val (.int (4 : Int32))] []))
  obtain ⟨T1, X1, e1, st1⟩ := getS2 X0 hx hZ hown (host := "") (Or.inl (wd_24 hw)) Via.refl e0 (P1.ext O0.2) (g := (mkF m 40 #[.val (.int (4 : Int32))] [])) rfl (hb hby d0_40)
  refine Rch.go st1 ?_
  show Rch p e below _ (T1.setTop (mkF m 43 #[.val (.int (4 : Int32))] [(.ref x1)]))
  refine Rch.val X1 hx (t := (.object "com/example/pathlatch/pathlatch/path/Predicate$Operator")) hret hlk rfl (Or.inr (Or.inr (Or.inr (Or.inr ⟨rfl, rfl, rfl⟩)))) (hb hby d0_43) (by decide) (by decide) ?_
  try rw [e1]
  exact ⟨rfl, N0, rfl⟩
theorem ef_m27_ordinal (m : MethodId) (x1 : Addr) : entryFrame m #[(.ref x1)] 1 = mkF m 0 #[.val (.ref x1)] [] := by first | rfl | (simp [entryFrame, mkF, argsToLocals, Value.category]; done)
theorem m27_ordinal (l : Launch) (Z : State) (a0 : Array Value) (hw : HW Z a0) (x1 : Addr) (h0 : Heap) (n0 : Nat) (Z0 : n0 ≤ h0.size) (O0 : Old Z n0 h0) (P1 : Fld Z Z.heap x1 "java/lang/Enum" "ordinal" "I" (.int (4 : Int32))) :
    Ctr l Z [] (⟨"java/lang/Enum", "ordinal", "()I"⟩ : MethodName) jdk_37_method_2_code 1 (some .int) #[(.ref x1)] h0 ({ frames := 0, cells := 0, slots := 0, locals := 0 } : Room) (fun v h L => v = some (.int (4 : Int32)) ∧ Fr n0 L ∧ h = h0) := by
  refine Ctr.of (plainFor_of_name pn_java_lang_Enum) (fun m => ef_m27_ordinal m x1) ?_
  intro p e s m below meth c T0 hx hZ hby hml hown hnm hret hlk X0 e0
  have N0 := Fr.nil n0
  show Rch p e below _ (T0.setTop (mkF m 0 #[.val (.ref x1)] []))
  refine Rch.go (fun t k => XS.aloadN X0.here hx rfl (hb hby d2_0) rfl rfl k) ?_
  show Rch p e below _ (T0.setTop (mkF m 1 #[.val (.ref x1)] [(.ref x1)]))
  obtain ⟨T1, X1, e1, st1⟩ := getF X0 hx hZ hown (host := "") (Or.inl (wd_20 hw)) Via.refl e0 (P1.ext O0.2) (g := (mkF m 1 #[.val (.ref x1)] [(.ref x1)])) rfl rfl (hb hby d2_1)
  refine Rch.go st1 ?_
  show Rch p e below _ (T1.setTop (mkF m 4 #[.val (.ref x1)] [(.int (4 : Int32))]))
  refine Rch.val X1 hx (t := .int) hret hlk rfl (mayI (by simp)) (hb hby d2_4) (by decide) (by decide) ?_
  try rw [e1]
  exact ⟨rfl, N0, rfl⟩
theorem d1_124 : decode prog_113_method_4_code 124 = .ok (.dload_n 1, 1) := by decide +kernel
theorem d1_125 : decode prog_113_method_4_code 125 = .ok (.dload_n 3, 1) := by decide +kernel
theorem d1_126 : decode prog_113_method_4_code 126 = .ok (.dcmp .l, 1) := by decide +kernel
theorem d1_127 : decode prog_113_method_4_code 127 = .ok (.ifCond .lt 7, 3) := by decide +kernel
theorem d1_134 : decode prog_113_method_4_code 134 = .ok (.iconst 0, 1) := by decide +kernel
theorem ef_m26_holds (m : MethodId) (x1 : Addr) (y2 y3 : UInt64) : entryFrame m #[(.ref x1), (.double y2), (.double y3)] 5 = mkF m 0 #[.val (.ref x1), .val (.double y2), .second, .val (.double y3), .second] [] := by first | rfl | (simp [entryFrame, mkF, argsToLocals, Value.category]; done)
theorem m26_holds (l : Launch) (Z : State) (a0 : Array Value) (hw : HW Z a0) (x1 : Addr) (y2 y3 : UInt64) (h0 : Heap) (n0 : Nat) (Z0 : n0 ≤ h0.size) (O0 : Old Z n0 h0) (P1 : Exa Z Z.heap x1 "com/example/pathlatch/pathlatch/path/Predicate$Operator") (P2 : Fld Z Z.heap x1 "java/lang/Enum" "ordinal" "I" (.int (4 : Int32))) (P3 : (cmpValue (FP.dcmp y2 y3) .l) = (-1 : Int32)) :
    Ctr l Z [] (⟨"com/example/pathlatch/pathlatch/path/Predicate$Operator", "holds", "(DD)Z"⟩ : MethodName) prog_113_method_4_code 5 (some .boolean) #[(.ref x1), (.double y2), (.double y3)] h0 ({ frames := 1, cells := 0, slots := 0, locals := 12 } : Room) (fun v h L => v = some (.int (0 : Int32)) ∧ Fr n0 L ∧ h = h0) := by
  refine Ctr.of (plainFor_of_name pn_com_example_pathlatch_pathlatch_path_Predicate_Operator) (fun m => ef_m26_holds m x1 y2 y3) ?_
  intro p e s m below meth c T0 hx hZ hby hml hown hnm hret hlk X0 e0
  have N0 := Fr.nil n0
  show Rch p e below _ (T0.setTop (mkF m 0 #[.val (.ref x1), .val (.double y2), .second, .val (.double y3), .second] []))
  refine Rch.go (fun t k => XS.aloadN X0.here hx rfl (hb hby d1_0) rfl rfl k) ?_
  show Rch p e below _ (T0.setTop (mkF m 1 #[.val (.ref x1), .val (.double y2), .second, .val (.double y3), .second] [(.ref x1)]))
  obtain ⟨v1, T1, L1, X1, Q1, st1⟩ := callUp X0 hx hZ (m27_ordinal l Z a0 hw x1 h0 n0 Z0 O0 P2) e0 hown (wd_13 hw) (wd_14 hw) (wd_15 hw) (by decide) (wd_17 hw) (wd_16 hw) (wd_19 hw) (wd_18 hw) (by decide) (hb hby d1_1) 0 (by decide) (by decide) (by decide) (by decide) (by rw [hml]; rfl) x1 (P1.ext O0.2) [] [] rfl (lenOf pd_1 rfl) rfl (Nat.le_of_eq rfl) (Ls := #[.val (.ref x1), .val (.double y2), .second, .val (.double y3), .second])
  obtain ⟨rfl, M1, e1⟩ := Q1
  have N1 := Fr.app N0 M1
  refine Rch.go st1 ?_
  show Rch p e below _ (T1.setTop (mkF m 4 #[.val (.ref x1), .val (.double y2), .second, .val (.double y3), .second] [(.int (4 : Int32))]))
  refine Rch.go (fun t k => XS.tswIn X1.here hx rfl (pc0 := 4) (pc' := 124) (o := 120) rfl (hb hby d1_4) rfl (by decide) (by decide) (by decide) (by decide) (XS.dloadN X1.here hx rfl (hb hby d1_124) rfl  (XS.dloadN X1.here hx rfl (hb hby d1_125) rfl  k))) ?_
  show Rch p e below _ (T1.setTop (mkF m 126 #[.val (.ref x1), .val (.double y2), .second, .val (.double y3), .second] [(.double y3), (.double y2)]))
  refine Rch.go (fun t k => XS.dcmpS X1.here hx rfl (hb hby d1_126) rfl P3 (XS.ifYes X1.here hx rfl (pc0 := 127) (pc' := 134) rfl (hb hby d1_127) rfl (by decide) (by decide) (by decide) (XS.iconst X1.here hx rfl (hb hby d1_134) k))) ?_
  show Rch p e below _ (T1.setTop (mkF m 135 #[.val (.ref x1), .val (.double y2), .second, .val (.double y3), .second] [(.int (0 : Int32))]))
  refine Rch.val X1 hx (t := .boolean) hret hlk rfl (mayI (by simp)) (hb hby d1_135) (by decide) (by decide) ?_
  try rw [e1]
  exact ⟨rfl, N1, rfl⟩
theorem d1_130 : decode prog_113_method_4_code 130 = .ok (.iconst 1, 1) := by decide +kernel
theorem d1_131 : decode prog_113_method_4_code 131 = .ok (.goto 4, 3) := by decide +kernel
theorem ef_m28_holds (m : MethodId) (x1 : Addr) (y2 y3 : UInt64) : entryFrame m #[(.ref x1), (.double y2), (.double y3)] 5 = mkF m 0 #[.val (.ref x1), .val (.double y2), .second, .val (.double y3), .second] [] := by first | rfl | (simp [entryFrame, mkF, argsToLocals, Value.category]; done)
theorem m28_holds (l : Launch) (Z : State) (a0 : Array Value) (hw : HW Z a0) (x1 : Addr) (y2 y3 : UInt64) (h0 : Heap) (n0 : Nat) (Z0 : n0 ≤ h0.size) (O0 : Old Z n0 h0) (P1 : Exa Z Z.heap x1 "com/example/pathlatch/pathlatch/path/Predicate$Operator") (P2 : Fld Z Z.heap x1 "java/lang/Enum" "ordinal" "I" (.int (4 : Int32))) (P3 : (cmpValue (FP.dcmp y2 y3) .l) = (0 : Int32)) :
    Ctr l Z [] (⟨"com/example/pathlatch/pathlatch/path/Predicate$Operator", "holds", "(DD)Z"⟩ : MethodName) prog_113_method_4_code 5 (some .boolean) #[(.ref x1), (.double y2), (.double y3)] h0 ({ frames := 1, cells := 0, slots := 0, locals := 12 } : Room) (fun v h L => v = some (.int (1 : Int32)) ∧ Fr n0 L ∧ h = h0) := by
  refine Ctr.of (plainFor_of_name pn_com_example_pathlatch_pathlatch_path_Predicate_Operator) (fun m => ef_m28_holds m x1 y2 y3) ?_
  intro p e s m below meth c T0 hx hZ hby hml hown hnm hret hlk X0 e0
  have N0 := Fr.nil n0
  show Rch p e below _ (T0.setTop (mkF m 0 #[.val (.ref x1), .val (.double y2), .second, .val (.double y3), .second] []))
  refine Rch.go (fun t k => XS.aloadN X0.here hx rfl (hb hby d1_0) rfl rfl k) ?_
  show Rch p e below _ (T0.setTop (mkF m 1 #[.val (.ref x1), .val (.double y2), .second, .val (.double y3), .second] [(.ref x1)]))
  obtain ⟨v1, T1, L1, X1, Q1, st1⟩ := callUp X0 hx hZ (m27_ordinal l Z a0 hw x1 h0 n0 Z0 O0 P2) e0 hown (wd_13 hw) (wd_14 hw) (wd_15 hw) (by decide) (wd_17 hw) (wd_16 hw) (wd_19 hw) (wd_18 hw) (by decide) (hb hby d1_1) 0 (by decide) (by decide) (by decide) (by decide) (by rw [hml]; rfl) x1 (P1.ext O0.2) [] [] rfl (lenOf pd_1 rfl) rfl (Nat.le_of_eq rfl) (Ls := #[.val (.ref x1), .val (.double y2), .second, .val (.double y3), .second])
  obtain ⟨rfl, M1, e1⟩ := Q1
  have N1 := Fr.app N0 M1
  refine Rch.go st1 ?_
  show Rch p e below _ (T1.setTop (mkF m 4 #[.val (.ref x1), .val (.double y2), .second, .val (.double y3), .second] [(.int (4 : Int32))]))
  refine Rch.go (fun t k => XS.tswIn X1.here hx rfl (pc0 := 4) (pc' := 124) (o := 120) rfl (hb hby d1_4) rfl (by decide) (by decide) (by decide) (by decide) (XS.dloadN X1.here hx rfl (hb hby d1_124) rfl  (XS.dloadN X1.here hx rfl (hb hby d1_125) rfl  k))) ?_
  show Rch p e below _ (T1.setTop (mkF m 126 #[.val (.ref x1), .val (.double y2), .second, .val (.double y3), .second] [(.double y3), (.double y2)]))
  refine Rch.go (fun t k => XS.dcmpS X1.here hx rfl (hb hby d1_126) rfl P3 (XS.ifNo X1.here hx rfl (hb hby d1_127) rfl (by decide) (XS.iconst X1.here hx rfl (hb hby d1_130) (XS.goto X1.here hx rfl (pc0 := 131) (pc' := 135) rfl (hb hby d1_131) (by decide) (by decide) k)))) ?_
  show Rch p e below _ (T1.setTop (mkF m 135 #[.val (.ref x1), .val (.double y2), .second, .val (.double y3), .second] [(.int (1 : Int32))]))
  refine Rch.val X1 hx (t := .boolean) hret hlk rfl (mayI (by simp)) (hb hby d1_135) (by decide) (by decide) ?_
  try rw [e1]
  exact ⟨rfl, N1, rfl⟩
theorem ef_m29_holds (m : MethodId) (x1 : Addr) (y2 y3 : UInt64) : entryFrame m #[(.ref x1), (.double y2), (.double y3)] 5 = mkF m 0 #[.val (.ref x1), .val (.double y2), .second, .val (.double y3), .second] [] := by first | rfl | (simp [entryFrame, mkF, argsToLocals, Value.category]; done)
theorem m29_holds (l : Launch) (Z : State) (a0 : Array Value) (hw : HW Z a0) (x1 : Addr) (y2 y3 : UInt64) (h0 : Heap) (n0 : Nat) (Z0 : n0 ≤ h0.size) (O0 : Old Z n0 h0) (P1 : Exa Z Z.heap x1 "com/example/pathlatch/pathlatch/path/Predicate$Operator") (P2 : Fld Z Z.heap x1 "java/lang/Enum" "ordinal" "I" (.int (4 : Int32))) (P3 : (cmpValue (FP.dcmp y2 y3) .l) = (1 : Int32)) :
    Ctr l Z [] (⟨"com/example/pathlatch/pathlatch/path/Predicate$Operator", "holds", "(DD)Z"⟩ : MethodName) prog_113_method_4_code 5 (some .boolean) #[(.ref x1), (.double y2), (.double y3)] h0 ({ frames := 1, cells := 0, slots := 0, locals := 12 } : Room) (fun v h L => v = some (.int (1 : Int32)) ∧ Fr n0 L ∧ h = h0) := by
  refine Ctr.of (plainFor_of_name pn_com_example_pathlatch_pathlatch_path_Predicate_Operator) (fun m => ef_m29_holds m x1 y2 y3) ?_
  intro p e s m below meth c T0 hx hZ hby hml hown hnm hret hlk X0 e0
  have N0 := Fr.nil n0
  show Rch p e below _ (T0.setTop (mkF m 0 #[.val (.ref x1), .val (.double y2), .second, .val (.double y3), .second] []))
  refine Rch.go (fun t k => XS.aloadN X0.here hx rfl (hb hby d1_0) rfl rfl k) ?_
  show Rch p e below _ (T0.setTop (mkF m 1 #[.val (.ref x1), .val (.double y2), .second, .val (.double y3), .second] [(.ref x1)]))
  obtain ⟨v1, T1, L1, X1, Q1, st1⟩ := callUp X0 hx hZ (m27_ordinal l Z a0 hw x1 h0 n0 Z0 O0 P2) e0 hown (wd_13 hw) (wd_14 hw) (wd_15 hw) (by decide) (wd_17 hw) (wd_16 hw) (wd_19 hw) (wd_18 hw) (by decide) (hb hby d1_1) 0 (by decide) (by decide) (by decide) (by decide) (by rw [hml]; rfl) x1 (P1.ext O0.2) [] [] rfl (lenOf pd_1 rfl) rfl (Nat.le_of_eq rfl) (Ls := #[.val (.ref x1), .val (.double y2), .second, .val (.double y3), .second])
  obtain ⟨rfl, M1, e1⟩ := Q1
  have N1 := Fr.app N0 M1
  refine Rch.go st1 ?_
  show Rch p e below _ (T1.setTop (mkF m 4 #[.val (.ref x1), .val (.double y2), .second, .val (.double y3), .second] [(.int (4 : Int32))]))
  refine Rch.go (fun t k => XS.tswIn X1.here hx rfl (pc0 := 4) (pc' := 124) (o := 120) rfl (hb hby d1_4) rfl (by decide) (by decide) (by decide) (by decide) (XS.dloadN X1.here hx rfl (hb hby d1_124) rfl  (XS.dloadN X1.here hx rfl (hb hby d1_125) rfl  k))) ?_
  show Rch p e below _ (T1.setTop (mkF m 126 #[.val (.ref x1), .val (.double y2), .second, .val (.double y3), .second] [(.double y3), (.double y2)]))
  refine Rch.go (fun t k => XS.dcmpS X1.here hx rfl (hb hby d1_126) rfl P3 (XS.ifNo X1.here hx rfl (hb hby d1_127) rfl (by decide) (XS.iconst X1.here hx rfl (hb hby d1_130) (XS.goto X1.here hx rfl (pc0 := 131) (pc' := 135) rfl (hb hby d1_131) (by decide) (by decide) k)))) ?_
  show Rch p e below _ (T1.setTop (mkF m 135 #[.val (.ref x1), .val (.double y2), .second, .val (.double y3), .second] [(.int (1 : Int32))]))
  refine Rch.val X1 hx (t := .boolean) hret hlk rfl (mayI (by simp)) (hb hby d1_135) (by decide) (by decide) ?_
  try rw [e1]
  exact ⟨rfl, N1, rfl⟩
theorem ef_m30_holds (m : MethodId) (x1 : Addr) (y2 : UInt64) : entryFrame m #[(.ref x1), (.double y2), (.double y2)] 5 = mkF m 0 #[.val (.ref x1), .val (.double y2), .second, .val (.double y2), .second] [] := by first | rfl | (simp [entryFrame, mkF, argsToLocals, Value.category]; done)
theorem m30_holds (l : Launch) (Z : State) (a0 : Array Value) (hw : HW Z a0) (x1 : Addr) (y2 : UInt64) (h0 : Heap) (n0 : Nat) (Z0 : n0 ≤ h0.size) (O0 : Old Z n0 h0) (P1 : Exa Z Z.heap x1 "com/example/pathlatch/pathlatch/path/Predicate$Operator") (P2 : Fld Z Z.heap x1 "java/lang/Enum" "ordinal" "I" (.int (4 : Int32))) (P3 : (cmpValue (FP.dcmp y2 y2) .l) = (0 : Int32)) :
    Ctr l Z [] (⟨"com/example/pathlatch/pathlatch/path/Predicate$Operator", "holds", "(DD)Z"⟩ : MethodName) prog_113_method_4_code 5 (some .boolean) #[(.ref x1), (.double y2), (.double y2)] h0 ({ frames := 1, cells := 0, slots := 0, locals := 12 } : Room) (fun v h L => v = some (.int (1 : Int32)) ∧ Fr n0 L ∧ h = h0) := by
  refine Ctr.of (plainFor_of_name pn_com_example_pathlatch_pathlatch_path_Predicate_Operator) (fun m => ef_m30_holds m x1 y2) ?_
  intro p e s m below meth c T0 hx hZ hby hml hown hnm hret hlk X0 e0
  have N0 := Fr.nil n0
  show Rch p e below _ (T0.setTop (mkF m 0 #[.val (.ref x1), .val (.double y2), .second, .val (.double y2), .second] []))
  refine Rch.go (fun t k => XS.aloadN X0.here hx rfl (hb hby d1_0) rfl rfl k) ?_
  show Rch p e below _ (T0.setTop (mkF m 1 #[.val (.ref x1), .val (.double y2), .second, .val (.double y2), .second] [(.ref x1)]))
  obtain ⟨v1, T1, L1, X1, Q1, st1⟩ := callUp X0 hx hZ (m27_ordinal l Z a0 hw x1 h0 n0 Z0 O0 P2) e0 hown (wd_13 hw) (wd_14 hw) (wd_15 hw) (by decide) (wd_17 hw) (wd_16 hw) (wd_19 hw) (wd_18 hw) (by decide) (hb hby d1_1) 0 (by decide) (by decide) (by decide) (by decide) (by rw [hml]; rfl) x1 (P1.ext O0.2) [] [] rfl (lenOf pd_1 rfl) rfl (Nat.le_of_eq rfl) (Ls := #[.val (.ref x1), .val (.double y2), .second, .val (.double y2), .second])
  obtain ⟨rfl, M1, e1⟩ := Q1
  have N1 := Fr.app N0 M1
  refine Rch.go st1 ?_
  show Rch p e below _ (T1.setTop (mkF m 4 #[.val (.ref x1), .val (.double y2), .second, .val (.double y2), .second] [(.int (4 : Int32))]))
  refine Rch.go (fun t k => XS.tswIn X1.here hx rfl (pc0 := 4) (pc' := 124) (o := 120) rfl (hb hby d1_4) rfl (by decide) (by decide) (by decide) (by decide) (XS.dloadN X1.here hx rfl (hb hby d1_124) rfl  (XS.dloadN X1.here hx rfl (hb hby d1_125) rfl  k))) ?_
  show Rch p e below _ (T1.setTop (mkF m 126 #[.val (.ref x1), .val (.double y2), .second, .val (.double y2), .second] [(.double y2), (.double y2)]))
  refine Rch.go (fun t k => XS.dcmpS X1.here hx rfl (hb hby d1_126) rfl P3 (XS.ifNo X1.here hx rfl (hb hby d1_127) rfl (by decide) (XS.iconst X1.here hx rfl (hb hby d1_130) (XS.goto X1.here hx rfl (pc0 := 131) (pc' := 135) rfl (hb hby d1_131) (by decide) (by decide) k)))) ?_
  show Rch p e below _ (T1.setTop (mkF m 135 #[.val (.ref x1), .val (.double y2), .second, .val (.double y2), .second] [(.int (1 : Int32))]))
  refine Rch.val X1 hx (t := .boolean) hret hlk rfl (mayI (by simp)) (hb hby d1_135) (by decide) (by decide) ?_
  try rw [e1]
  exact ⟨rfl, N1, rfl⟩
theorem d0_44 : decode method_2_code 44 = .ok (.getstatic 25, 3) := by decide +kernel
theorem wd_28 {Z a0} (hw : HW Z a0) : (Cond.fieldLink "com/example/pathlatch/pathlatch/path/OperatorHoldsPinLaw" (25 : Nat) "com/example/pathlatch/pathlatch/path/Predicate$Operator" "GREATER" "Lcom/example/pathlatch/pathlatch/path/Predicate$Operator;").before a0 Z = true := hw.at 28 rfl
theorem d0_47 : decode method_2_code 47 = .ok (.areturn, 1) := by decide +kernel
theorem ef_m31_pick (m : MethodId) : entryFrame m #[(.int (5 : Int32))] 1 = mkF m 0 #[.val (.int (5 : Int32))] [] := by first | rfl | (simp [entryFrame, mkF, argsToLocals, Value.category]; done)
theorem m31_pick (l : Launch) (Z : State) (a0 : Array Value) (hw : HW Z a0) (x1 : Addr) (h0 : Heap) (n0 : Nat) (Z0 : n0 ≤ h0.size) (O0 : Old Z n0 h0) (P1 : Sta Z Z.heap "com/example/pathlatch/pathlatch/path/Predicate$Operator" "GREATER" "Lcom/example/pathlatch/pathlatch/path/Predicate$Operator;" (.ref x1)) :
    Ctr l Z [] (⟨"com/example/pathlatch/pathlatch/path/OperatorHoldsPinLaw", "pick", "(I)Lcom/example/pathlatch/pathlatch/path/Predicate$Operator;"⟩ : MethodName) method_2_code 1 (some (.object "com/example/pathlatch/pathlatch/path/Predicate$Operator")) #[(.int (5 : Int32))] h0 ({ frames := 0, cells := 0, slots := 0, locals := 0 } : Room) (fun v h L => v = some (.ref x1) ∧ Fr n0 L ∧ h = h0) := by
  refine Ctr.of (plainFor_of_name pn_com_example_pathlatch_pathlatch_path_OperatorHoldsPinLaw) (fun m => ef_m31_pick m ) ?_
  intro p e s m below meth c T0 hx hZ hby hml hown hnm hret hlk X0 e0
  have N0 := Fr.nil n0
  show Rch p e below _ (T0.setTop (mkF m 0 #[.val (.int (5 : Int32))] []))
  refine Rch.go (fun t k => XS.iloadN X0.here hx rfl (hb hby d0_0) rfl  (XS.ifYes X0.here hx rfl (pc0 := 1) (pc' := 8) rfl (hb hby d0_1) rfl (by decide) (by decide) (by decide) (XS.iloadN X0.here hx rfl (hb hby d0_8) rfl  (XS.iconst X0.here hx rfl (hb hby d0_9) (XS.icmpYes X0.here hx rfl (pc0 := 10) (pc' := 17) rfl (hb hby d0_10) rfl (by decide) (by decide) (by decide) (XS.iloadN X0.here hx rfl (hb hby d0_17) rfl  (XS.iconst X0.here hx rfl (hb hby d0_18) (XS.icmpYes X0.here hx rfl (pc0 := 19) (pc' := 26) rfl (hb hby d0_19) rfl (by decide) (by decide) (by decide) (XS.iloadN X0.here hx rfl (hb hby d0_26) rfl  (XS.iconst X0.here hx rfl (hb hby d0_27) (XS.icmpYes X0.here hx rfl (pc0 := 28) (pc' := 35) rfl (hb hby d0_28) rfl (by decide) (by decide) (by decide) (XS.iloadN X0.here hx rfl (hb hby d0_35) rfl  k)))))))))))) ?_
  show Rch p e below _ (T0.setTop (mkF m 36 #[.val (.int (5 : Int32))] [(.int (5 : Int32))]))
  refine Rch.go (fun t k => XS.iconst X0.here hx rfl (hb hby d0_36) (XS.icmpYes X0.here hx rfl (pc0 := 37) (pc' := 44) rfl (hb hby d0_37) rfl (by decide) (by decide) (by decide) k)) ?_
  show Rch p e below _ (T0.setTop (mkF m 44 #[.val (.int (5 : Int32))] []))
  obtain ⟨T1, X1, e1, st1⟩ := getS2 X0 hx hZ hown (host := "") (Or.inl (wd_28 hw)) Via.refl e0 (P1.ext O0.2) (g := (mkF m 44 #[.val (.int (5 : Int32))] [])) rfl (hb hby d0_44)
  refine Rch.go st1 ?_
  show Rch p e below _ (T1.setTop (mkF m 47 #[.val (.int (5 : Int32))] [(.ref x1)]))
  refine Rch.val X1 hx (t := (.object "com/example/pathlatch/pathlatch/path/Predicate$Operator")) hret hlk rfl (Or.inr (Or.inr (Or.inr (Or.inr ⟨rfl, rfl, rfl⟩)))) (hb hby d0_47) (by decide) (by decide) ?_
  try rw [e1]
  exact ⟨rfl, N0, rfl⟩
theorem ef_m33_ordinal (m : MethodId) (x1 : Addr) : entryFrame m #[(.ref x1)] 1 = mkF m 0 #[.val (.ref x1)] [] := by first | rfl | (simp [entryFrame, mkF, argsToLocals, Value.category]; done)
theorem m33_ordinal (l : Launch) (Z : State) (a0 : Array Value) (hw : HW Z a0) (x1 : Addr) (h0 : Heap) (n0 : Nat) (Z0 : n0 ≤ h0.size) (O0 : Old Z n0 h0) (P1 : Fld Z Z.heap x1 "java/lang/Enum" "ordinal" "I" (.int (5 : Int32))) :
    Ctr l Z [] (⟨"java/lang/Enum", "ordinal", "()I"⟩ : MethodName) jdk_37_method_2_code 1 (some .int) #[(.ref x1)] h0 ({ frames := 0, cells := 0, slots := 0, locals := 0 } : Room) (fun v h L => v = some (.int (5 : Int32)) ∧ Fr n0 L ∧ h = h0) := by
  refine Ctr.of (plainFor_of_name pn_java_lang_Enum) (fun m => ef_m33_ordinal m x1) ?_
  intro p e s m below meth c T0 hx hZ hby hml hown hnm hret hlk X0 e0
  have N0 := Fr.nil n0
  show Rch p e below _ (T0.setTop (mkF m 0 #[.val (.ref x1)] []))
  refine Rch.go (fun t k => XS.aloadN X0.here hx rfl (hb hby d2_0) rfl rfl k) ?_
  show Rch p e below _ (T0.setTop (mkF m 1 #[.val (.ref x1)] [(.ref x1)]))
  obtain ⟨T1, X1, e1, st1⟩ := getF X0 hx hZ hown (host := "") (Or.inl (wd_20 hw)) Via.refl e0 (P1.ext O0.2) (g := (mkF m 1 #[.val (.ref x1)] [(.ref x1)])) rfl rfl (hb hby d2_1)
  refine Rch.go st1 ?_
  show Rch p e below _ (T1.setTop (mkF m 4 #[.val (.ref x1)] [(.int (5 : Int32))]))
  refine Rch.val X1 hx (t := .int) hret hlk rfl (mayI (by simp)) (hb hby d2_4) (by decide) (by decide) ?_
  try rw [e1]
  exact ⟨rfl, N0, rfl⟩
theorem d1_110 : decode prog_113_method_4_code 110 = .ok (.dload_n 1, 1) := by decide +kernel
theorem d1_111 : decode prog_113_method_4_code 111 = .ok (.dload_n 3, 1) := by decide +kernel
theorem d1_112 : decode prog_113_method_4_code 112 = .ok (.dcmp .l, 1) := by decide +kernel
theorem d1_113 : decode prog_113_method_4_code 113 = .ok (.ifCond .le 7, 3) := by decide +kernel
theorem d1_120 : decode prog_113_method_4_code 120 = .ok (.iconst 0, 1) := by decide +kernel
theorem d1_121 : decode prog_113_method_4_code 121 = .ok (.goto 14, 3) := by decide +kernel
theorem ef_m32_holds (m : MethodId) (x1 : Addr) (y2 y3 : UInt64) : entryFrame m #[(.ref x1), (.double y2), (.double y3)] 5 = mkF m 0 #[.val (.ref x1), .val (.double y2), .second, .val (.double y3), .second] [] := by first | rfl | (simp [entryFrame, mkF, argsToLocals, Value.category]; done)
theorem m32_holds (l : Launch) (Z : State) (a0 : Array Value) (hw : HW Z a0) (x1 : Addr) (y2 y3 : UInt64) (h0 : Heap) (n0 : Nat) (Z0 : n0 ≤ h0.size) (O0 : Old Z n0 h0) (P1 : Exa Z Z.heap x1 "com/example/pathlatch/pathlatch/path/Predicate$Operator") (P2 : Fld Z Z.heap x1 "java/lang/Enum" "ordinal" "I" (.int (5 : Int32))) (P3 : (cmpValue (FP.dcmp y2 y3) .l) = (-1 : Int32)) :
    Ctr l Z [] (⟨"com/example/pathlatch/pathlatch/path/Predicate$Operator", "holds", "(DD)Z"⟩ : MethodName) prog_113_method_4_code 5 (some .boolean) #[(.ref x1), (.double y2), (.double y3)] h0 ({ frames := 1, cells := 0, slots := 0, locals := 12 } : Room) (fun v h L => v = some (.int (0 : Int32)) ∧ Fr n0 L ∧ h = h0) := by
  refine Ctr.of (plainFor_of_name pn_com_example_pathlatch_pathlatch_path_Predicate_Operator) (fun m => ef_m32_holds m x1 y2 y3) ?_
  intro p e s m below meth c T0 hx hZ hby hml hown hnm hret hlk X0 e0
  have N0 := Fr.nil n0
  show Rch p e below _ (T0.setTop (mkF m 0 #[.val (.ref x1), .val (.double y2), .second, .val (.double y3), .second] []))
  refine Rch.go (fun t k => XS.aloadN X0.here hx rfl (hb hby d1_0) rfl rfl k) ?_
  show Rch p e below _ (T0.setTop (mkF m 1 #[.val (.ref x1), .val (.double y2), .second, .val (.double y3), .second] [(.ref x1)]))
  obtain ⟨v1, T1, L1, X1, Q1, st1⟩ := callUp X0 hx hZ (m33_ordinal l Z a0 hw x1 h0 n0 Z0 O0 P2) e0 hown (wd_13 hw) (wd_14 hw) (wd_15 hw) (by decide) (wd_17 hw) (wd_16 hw) (wd_19 hw) (wd_18 hw) (by decide) (hb hby d1_1) 0 (by decide) (by decide) (by decide) (by decide) (by rw [hml]; rfl) x1 (P1.ext O0.2) [] [] rfl (lenOf pd_1 rfl) rfl (Nat.le_of_eq rfl) (Ls := #[.val (.ref x1), .val (.double y2), .second, .val (.double y3), .second])
  obtain ⟨rfl, M1, e1⟩ := Q1
  have N1 := Fr.app N0 M1
  refine Rch.go st1 ?_
  show Rch p e below _ (T1.setTop (mkF m 4 #[.val (.ref x1), .val (.double y2), .second, .val (.double y3), .second] [(.int (5 : Int32))]))
  refine Rch.go (fun t k => XS.tswIn X1.here hx rfl (pc0 := 4) (pc' := 110) (o := 106) rfl (hb hby d1_4) rfl (by decide) (by decide) (by decide) (by decide) (XS.dloadN X1.here hx rfl (hb hby d1_110) rfl  (XS.dloadN X1.here hx rfl (hb hby d1_111) rfl  k))) ?_
  show Rch p e below _ (T1.setTop (mkF m 112 #[.val (.ref x1), .val (.double y2), .second, .val (.double y3), .second] [(.double y3), (.double y2)]))
  refine Rch.go (fun t k => XS.dcmpS X1.here hx rfl (hb hby d1_112) rfl P3 (XS.ifYes X1.here hx rfl (pc0 := 113) (pc' := 120) rfl (hb hby d1_113) rfl (by decide) (by decide) (by decide) (XS.iconst X1.here hx rfl (hb hby d1_120) (XS.goto X1.here hx rfl (pc0 := 121) (pc' := 135) rfl (hb hby d1_121) (by decide) (by decide) k)))) ?_
  show Rch p e below _ (T1.setTop (mkF m 135 #[.val (.ref x1), .val (.double y2), .second, .val (.double y3), .second] [(.int (0 : Int32))]))
  refine Rch.val X1 hx (t := .boolean) hret hlk rfl (mayI (by simp)) (hb hby d1_135) (by decide) (by decide) ?_
  try rw [e1]
  exact ⟨rfl, N1, rfl⟩
theorem ef_m34_holds (m : MethodId) (x1 : Addr) (y2 y3 : UInt64) : entryFrame m #[(.ref x1), (.double y2), (.double y3)] 5 = mkF m 0 #[.val (.ref x1), .val (.double y2), .second, .val (.double y3), .second] [] := by first | rfl | (simp [entryFrame, mkF, argsToLocals, Value.category]; done)
theorem m34_holds (l : Launch) (Z : State) (a0 : Array Value) (hw : HW Z a0) (x1 : Addr) (y2 y3 : UInt64) (h0 : Heap) (n0 : Nat) (Z0 : n0 ≤ h0.size) (O0 : Old Z n0 h0) (P1 : Exa Z Z.heap x1 "com/example/pathlatch/pathlatch/path/Predicate$Operator") (P2 : Fld Z Z.heap x1 "java/lang/Enum" "ordinal" "I" (.int (5 : Int32))) (P3 : (cmpValue (FP.dcmp y2 y3) .l) = (0 : Int32)) :
    Ctr l Z [] (⟨"com/example/pathlatch/pathlatch/path/Predicate$Operator", "holds", "(DD)Z"⟩ : MethodName) prog_113_method_4_code 5 (some .boolean) #[(.ref x1), (.double y2), (.double y3)] h0 ({ frames := 1, cells := 0, slots := 0, locals := 12 } : Room) (fun v h L => v = some (.int (0 : Int32)) ∧ Fr n0 L ∧ h = h0) := by
  refine Ctr.of (plainFor_of_name pn_com_example_pathlatch_pathlatch_path_Predicate_Operator) (fun m => ef_m34_holds m x1 y2 y3) ?_
  intro p e s m below meth c T0 hx hZ hby hml hown hnm hret hlk X0 e0
  have N0 := Fr.nil n0
  show Rch p e below _ (T0.setTop (mkF m 0 #[.val (.ref x1), .val (.double y2), .second, .val (.double y3), .second] []))
  refine Rch.go (fun t k => XS.aloadN X0.here hx rfl (hb hby d1_0) rfl rfl k) ?_
  show Rch p e below _ (T0.setTop (mkF m 1 #[.val (.ref x1), .val (.double y2), .second, .val (.double y3), .second] [(.ref x1)]))
  obtain ⟨v1, T1, L1, X1, Q1, st1⟩ := callUp X0 hx hZ (m33_ordinal l Z a0 hw x1 h0 n0 Z0 O0 P2) e0 hown (wd_13 hw) (wd_14 hw) (wd_15 hw) (by decide) (wd_17 hw) (wd_16 hw) (wd_19 hw) (wd_18 hw) (by decide) (hb hby d1_1) 0 (by decide) (by decide) (by decide) (by decide) (by rw [hml]; rfl) x1 (P1.ext O0.2) [] [] rfl (lenOf pd_1 rfl) rfl (Nat.le_of_eq rfl) (Ls := #[.val (.ref x1), .val (.double y2), .second, .val (.double y3), .second])
  obtain ⟨rfl, M1, e1⟩ := Q1
  have N1 := Fr.app N0 M1
  refine Rch.go st1 ?_
  show Rch p e below _ (T1.setTop (mkF m 4 #[.val (.ref x1), .val (.double y2), .second, .val (.double y3), .second] [(.int (5 : Int32))]))
  refine Rch.go (fun t k => XS.tswIn X1.here hx rfl (pc0 := 4) (pc' := 110) (o := 106) rfl (hb hby d1_4) rfl (by decide) (by decide) (by decide) (by decide) (XS.dloadN X1.here hx rfl (hb hby d1_110) rfl  (XS.dloadN X1.here hx rfl (hb hby d1_111) rfl  k))) ?_
  show Rch p e below _ (T1.setTop (mkF m 112 #[.val (.ref x1), .val (.double y2), .second, .val (.double y3), .second] [(.double y3), (.double y2)]))
  refine Rch.go (fun t k => XS.dcmpS X1.here hx rfl (hb hby d1_112) rfl P3 (XS.ifYes X1.here hx rfl (pc0 := 113) (pc' := 120) rfl (hb hby d1_113) rfl (by decide) (by decide) (by decide) (XS.iconst X1.here hx rfl (hb hby d1_120) (XS.goto X1.here hx rfl (pc0 := 121) (pc' := 135) rfl (hb hby d1_121) (by decide) (by decide) k)))) ?_
  show Rch p e below _ (T1.setTop (mkF m 135 #[.val (.ref x1), .val (.double y2), .second, .val (.double y3), .second] [(.int (0 : Int32))]))
  refine Rch.val X1 hx (t := .boolean) hret hlk rfl (mayI (by simp)) (hb hby d1_135) (by decide) (by decide) ?_
  try rw [e1]
  exact ⟨rfl, N1, rfl⟩
theorem d1_116 : decode prog_113_method_4_code 116 = .ok (.iconst 1, 1) := by decide +kernel
theorem d1_117 : decode prog_113_method_4_code 117 = .ok (.goto 18, 3) := by decide +kernel
theorem ef_m35_holds (m : MethodId) (x1 : Addr) (y2 y3 : UInt64) : entryFrame m #[(.ref x1), (.double y2), (.double y3)] 5 = mkF m 0 #[.val (.ref x1), .val (.double y2), .second, .val (.double y3), .second] [] := by first | rfl | (simp [entryFrame, mkF, argsToLocals, Value.category]; done)
theorem m35_holds (l : Launch) (Z : State) (a0 : Array Value) (hw : HW Z a0) (x1 : Addr) (y2 y3 : UInt64) (h0 : Heap) (n0 : Nat) (Z0 : n0 ≤ h0.size) (O0 : Old Z n0 h0) (P1 : Exa Z Z.heap x1 "com/example/pathlatch/pathlatch/path/Predicate$Operator") (P2 : Fld Z Z.heap x1 "java/lang/Enum" "ordinal" "I" (.int (5 : Int32))) (P3 : (cmpValue (FP.dcmp y2 y3) .l) = (1 : Int32)) :
    Ctr l Z [] (⟨"com/example/pathlatch/pathlatch/path/Predicate$Operator", "holds", "(DD)Z"⟩ : MethodName) prog_113_method_4_code 5 (some .boolean) #[(.ref x1), (.double y2), (.double y3)] h0 ({ frames := 1, cells := 0, slots := 0, locals := 12 } : Room) (fun v h L => v = some (.int (1 : Int32)) ∧ Fr n0 L ∧ h = h0) := by
  refine Ctr.of (plainFor_of_name pn_com_example_pathlatch_pathlatch_path_Predicate_Operator) (fun m => ef_m35_holds m x1 y2 y3) ?_
  intro p e s m below meth c T0 hx hZ hby hml hown hnm hret hlk X0 e0
  have N0 := Fr.nil n0
  show Rch p e below _ (T0.setTop (mkF m 0 #[.val (.ref x1), .val (.double y2), .second, .val (.double y3), .second] []))
  refine Rch.go (fun t k => XS.aloadN X0.here hx rfl (hb hby d1_0) rfl rfl k) ?_
  show Rch p e below _ (T0.setTop (mkF m 1 #[.val (.ref x1), .val (.double y2), .second, .val (.double y3), .second] [(.ref x1)]))
  obtain ⟨v1, T1, L1, X1, Q1, st1⟩ := callUp X0 hx hZ (m33_ordinal l Z a0 hw x1 h0 n0 Z0 O0 P2) e0 hown (wd_13 hw) (wd_14 hw) (wd_15 hw) (by decide) (wd_17 hw) (wd_16 hw) (wd_19 hw) (wd_18 hw) (by decide) (hb hby d1_1) 0 (by decide) (by decide) (by decide) (by decide) (by rw [hml]; rfl) x1 (P1.ext O0.2) [] [] rfl (lenOf pd_1 rfl) rfl (Nat.le_of_eq rfl) (Ls := #[.val (.ref x1), .val (.double y2), .second, .val (.double y3), .second])
  obtain ⟨rfl, M1, e1⟩ := Q1
  have N1 := Fr.app N0 M1
  refine Rch.go st1 ?_
  show Rch p e below _ (T1.setTop (mkF m 4 #[.val (.ref x1), .val (.double y2), .second, .val (.double y3), .second] [(.int (5 : Int32))]))
  refine Rch.go (fun t k => XS.tswIn X1.here hx rfl (pc0 := 4) (pc' := 110) (o := 106) rfl (hb hby d1_4) rfl (by decide) (by decide) (by decide) (by decide) (XS.dloadN X1.here hx rfl (hb hby d1_110) rfl  (XS.dloadN X1.here hx rfl (hb hby d1_111) rfl  k))) ?_
  show Rch p e below _ (T1.setTop (mkF m 112 #[.val (.ref x1), .val (.double y2), .second, .val (.double y3), .second] [(.double y3), (.double y2)]))
  refine Rch.go (fun t k => XS.dcmpS X1.here hx rfl (hb hby d1_112) rfl P3 (XS.ifNo X1.here hx rfl (hb hby d1_113) rfl (by decide) (XS.iconst X1.here hx rfl (hb hby d1_116) (XS.goto X1.here hx rfl (pc0 := 117) (pc' := 135) rfl (hb hby d1_117) (by decide) (by decide) k)))) ?_
  show Rch p e below _ (T1.setTop (mkF m 135 #[.val (.ref x1), .val (.double y2), .second, .val (.double y3), .second] [(.int (1 : Int32))]))
  refine Rch.val X1 hx (t := .boolean) hret hlk rfl (mayI (by simp)) (hb hby d1_135) (by decide) (by decide) ?_
  try rw [e1]
  exact ⟨rfl, N1, rfl⟩
theorem ef_m36_holds (m : MethodId) (x1 : Addr) (y2 : UInt64) : entryFrame m #[(.ref x1), (.double y2), (.double y2)] 5 = mkF m 0 #[.val (.ref x1), .val (.double y2), .second, .val (.double y2), .second] [] := by first | rfl | (simp [entryFrame, mkF, argsToLocals, Value.category]; done)
theorem m36_holds (l : Launch) (Z : State) (a0 : Array Value) (hw : HW Z a0) (x1 : Addr) (y2 : UInt64) (h0 : Heap) (n0 : Nat) (Z0 : n0 ≤ h0.size) (O0 : Old Z n0 h0) (P1 : Exa Z Z.heap x1 "com/example/pathlatch/pathlatch/path/Predicate$Operator") (P2 : Fld Z Z.heap x1 "java/lang/Enum" "ordinal" "I" (.int (5 : Int32))) (P3 : (cmpValue (FP.dcmp y2 y2) .l) = (0 : Int32)) :
    Ctr l Z [] (⟨"com/example/pathlatch/pathlatch/path/Predicate$Operator", "holds", "(DD)Z"⟩ : MethodName) prog_113_method_4_code 5 (some .boolean) #[(.ref x1), (.double y2), (.double y2)] h0 ({ frames := 1, cells := 0, slots := 0, locals := 12 } : Room) (fun v h L => v = some (.int (0 : Int32)) ∧ Fr n0 L ∧ h = h0) := by
  refine Ctr.of (plainFor_of_name pn_com_example_pathlatch_pathlatch_path_Predicate_Operator) (fun m => ef_m36_holds m x1 y2) ?_
  intro p e s m below meth c T0 hx hZ hby hml hown hnm hret hlk X0 e0
  have N0 := Fr.nil n0
  show Rch p e below _ (T0.setTop (mkF m 0 #[.val (.ref x1), .val (.double y2), .second, .val (.double y2), .second] []))
  refine Rch.go (fun t k => XS.aloadN X0.here hx rfl (hb hby d1_0) rfl rfl k) ?_
  show Rch p e below _ (T0.setTop (mkF m 1 #[.val (.ref x1), .val (.double y2), .second, .val (.double y2), .second] [(.ref x1)]))
  obtain ⟨v1, T1, L1, X1, Q1, st1⟩ := callUp X0 hx hZ (m33_ordinal l Z a0 hw x1 h0 n0 Z0 O0 P2) e0 hown (wd_13 hw) (wd_14 hw) (wd_15 hw) (by decide) (wd_17 hw) (wd_16 hw) (wd_19 hw) (wd_18 hw) (by decide) (hb hby d1_1) 0 (by decide) (by decide) (by decide) (by decide) (by rw [hml]; rfl) x1 (P1.ext O0.2) [] [] rfl (lenOf pd_1 rfl) rfl (Nat.le_of_eq rfl) (Ls := #[.val (.ref x1), .val (.double y2), .second, .val (.double y2), .second])
  obtain ⟨rfl, M1, e1⟩ := Q1
  have N1 := Fr.app N0 M1
  refine Rch.go st1 ?_
  show Rch p e below _ (T1.setTop (mkF m 4 #[.val (.ref x1), .val (.double y2), .second, .val (.double y2), .second] [(.int (5 : Int32))]))
  refine Rch.go (fun t k => XS.tswIn X1.here hx rfl (pc0 := 4) (pc' := 110) (o := 106) rfl (hb hby d1_4) rfl (by decide) (by decide) (by decide) (by decide) (XS.dloadN X1.here hx rfl (hb hby d1_110) rfl  (XS.dloadN X1.here hx rfl (hb hby d1_111) rfl  k))) ?_
  show Rch p e below _ (T1.setTop (mkF m 112 #[.val (.ref x1), .val (.double y2), .second, .val (.double y2), .second] [(.double y2), (.double y2)]))
  refine Rch.go (fun t k => XS.dcmpS X1.here hx rfl (hb hby d1_112) rfl P3 (XS.ifYes X1.here hx rfl (pc0 := 113) (pc' := 120) rfl (hb hby d1_113) rfl (by decide) (by decide) (by decide) (XS.iconst X1.here hx rfl (hb hby d1_120) (XS.goto X1.here hx rfl (pc0 := 121) (pc' := 135) rfl (hb hby d1_121) (by decide) (by decide) k)))) ?_
  show Rch p e below _ (T1.setTop (mkF m 135 #[.val (.ref x1), .val (.double y2), .second, .val (.double y2), .second] [(.int (0 : Int32))]))
  refine Rch.val X1 hx (t := .boolean) hret hlk rfl (mayI (by simp)) (hb hby d1_135) (by decide) (by decide) ?_
  try rw [e1]
  exact ⟨rfl, N1, rfl⟩
theorem ef_law_1 (m : MethodId) (p0 p1 p2 p3 : Int32) : entryFrame m #[(.int p0), (.int p1), (.int p2), (.int p3)] maxLocals = mkF m 0 #[.val (.int p0), .val (.int p1), .val (.int p2), .val (.int p3), .unset, .unset, .unset, .unset, .unset, .unset, .unset, .unset, .unset, .unset] [] := by first | rfl | (simp [entryFrame, mkF, argsToLocals, Value.category, maxLocals]; done)
theorem law_1 (l : Launch) (Z : State) (a0 : Array Value) (hw : HW Z a0) (p0 p1 p2 p3 : Int32) (ro0 ro1 ro2 ro3 ro4 ro5 : Addr) (h0 : Heap) (n0 : Nat) (Z0 : n0 ≤ h0.size) (O0 : Old Z n0 h0) (G : Olds Z ro0 ro1 ro2 ro3 ro4 ro5) :
    Ctr l Z tables_1 x code maxLocals ret #[(.int p0), (.int p1), (.int p2), (.int p3)] h0 room_1 (fun v h L => v = some (.int (1 : Int32)) ∧ Fr n0 L) := by
  refine Ctr.of (plainFor_of_name pn_com_example_pathlatch_pathlatch_path_OperatorHoldsPinLaw) (fun m => ef_law_1 m p0 p1 p2 p3) ?_
  intro p e s m below meth c T0 hx hZ hby hml hown hnm hret hlk X0 e0
  have N0 := Fr.nil n0
  have hret : meth.sig.returnType = some .boolean := hret
  show Rch p e below _ (T0.setTop (mkF m 0 #[.val (.int p0), .val (.int p1), .val (.int p2), .val (.int p3), .unset, .unset, .unset, .unset, .unset, .unset, .unset, .unset, .unset, .unset] []))
  refine Rch.go (fun t k => XS.iloadN X0.here hx rfl (hb hby at_0) rfl  k) ?_
  show Rch p e below _ (T0.setTop (mkF m 1 #[.val (.int p0), .val (.int p1), .val (.int p2), .val (.int p3), .unset, .unset, .unset, .unset, .unset, .unset, .unset, .unset, .unset, .unset] [(.int p0)]))
  refine Rch.go (fun t k => Jvm.Stand.ldcI X0 hx hown (mvT hZ (wd_0 hw)) rfl (hb hby at_1) (XS.iand X0.here hx rfl (hb hby at_3) rfl (XS.bipush X0.here hx rfl (hb hby at_4) (iremM X0 hx rfl (hb hby at_6) rfl (by decide) k)))) ?_
  show Rch p e below _ (T0.setTop (mkF m 7 #[.val (.int p0), .val (.int p1), .val (.int p2), .val (.int p3), .unset, .unset, .unset, .unset, .unset, .unset, .unset, .unset, .unset, .unset] [(.int ((p0 &&& (2147483647 : Int32)) % (6 : Int32)))]))
  rcases own_mod6 p0 with hq | hq | hq | hq | hq | hq
  · rw [hq]
    show Rch p e below _ (T0.setTop (mkF m 7 #[.val (.int p0), .val (.int p1), .val (.int p2), .val (.int p3), .unset, .unset, .unset, .unset, .unset, .unset, .unset, .unset, .unset, .unset] [(.int (0 : Int32))]))
    refine Rch.go (fun t k => XS.istore X0.here hx rfl (hb hby at_7) rfl  (l' := #[.val (.int p0), .val (.int p1), .val (.int p2), .val (.int p3), .val (.int (0 : Int32)), .unset, .unset, .unset, .unset, .unset, .unset, .unset, .unset, .unset]) rfl (XS.iloadN X0.here hx rfl (hb hby at_9) rfl  (XS.iconst X0.here hx rfl (hb hby at_10) (XS.iand X0.here hx rfl (hb hby at_11) rfl k)))) ?_
    show Rch p e below _ (T0.setTop (mkF m 12 #[.val (.int p0), .val (.int p1), .val (.int p2), .val (.int p3), .val (.int (0 : Int32)), .unset, .unset, .unset, .unset, .unset, .unset, .unset, .unset, .unset] [(.int (p3 &&& (1 : Int32)))]))
    by_cases hm : (p3 &&& (1 : Int32)) = (0 : Int32)
    · show Rch p e below _ (T0.setTop (mkF m 12 #[.val (.int p0), .val (.int p1), .val (.int p2), .val (.int p3), .val (.int (0 : Int32)), .unset, .unset, .unset, .unset, .unset, .unset, .unset, .unset, .unset] [(.int (p3 &&& (1 : Int32)))]))
      refine Rch.go (fun t k => XS.ifYes X0.here hx rfl (pc0 := 12) (pc' := 19) rfl (hb hby at_12) rfl (XT.i0_eq_t hm) (by decide) (by decide) (XS.iloadN X0.here hx rfl (hb hby at_19) rfl  (XS.istore X0.here hx rfl (hb hby at_20) rfl  (l' := #[.val (.int p0), .val (.int p1), .val (.int p2), .val (.int p3), .val (.int (0 : Int32)), .val (.int p2), .unset, .unset, .unset, .unset, .unset, .unset, .unset, .unset]) rfl k))) ?_
      show Rch p e below _ (T0.setTop (mkF m 22 #[.val (.int p0), .val (.int p1), .val (.int p2), .val (.int p3), .val (.int (0 : Int32)), .val (.int p2), .unset, .unset, .unset, .unset, .unset, .unset, .unset, .unset] []))
      by_cases hl : p1 < p2
      · show Rch p e below _ (T0.setTop (mkF m 22 #[.val (.int p0), .val (.int p1), .val (.int p2), .val (.int p3), .val (.int (0 : Int32)), .val (.int p2), .unset, .unset, .unset, .unset, .unset, .unset, .unset, .unset] []))
        refine Rch.go (fun t k => XS.iload X0.here hx rfl (hb hby at_22) rfl  k) ?_
        show Rch p e below _ (T0.setTop (mkF m 24 #[.val (.int p0), .val (.int p1), .val (.int p2), .val (.int p3), .val (.int (0 : Int32)), .val (.int p2), .unset, .unset, .unset, .unset, .unset, .unset, .unset, .unset] [(.int (0 : Int32))]))
        obtain ⟨v1, T1, L1, X1, Q1, st1⟩ := callSt X0 hx hZ (m1_pick l Z a0 hw ro0 h0 n0 Z0 O0 G.1) e0 hown (wd_1 hw) (wd_2 hw) (wd_4 hw) (wd_3 hw) (by decide) (hb hby at_24) 0 (by decide) (by decide) (by decide) (by decide) (by rw [hml]; rfl) [(.int (0 : Int32))] [] rfl (lenOf pd_0 rfl) rfl (Nat.le_of_eq rfl) (Ls := #[.val (.int p0), .val (.int p1), .val (.int p2), .val (.int p3), .val (.int (0 : Int32)), .val (.int p2), .unset, .unset, .unset, .unset, .unset, .unset, .unset, .unset])
        obtain ⟨rfl, M1, e1⟩ := Q1
        have N1 := Fr.app N0 M1
        refine Rch.go st1 ?_
        show Rch p e below _ (T1.setTop (mkF m 27 #[.val (.int p0), .val (.int p1), .val (.int p2), .val (.int p3), .val (.int (0 : Int32)), .val (.int p2), .unset, .unset, .unset, .unset, .unset, .unset, .unset, .unset] [(.ref ro0)]))
        refine Rch.go (fun t k => XS.astore X1.here hx rfl (hb hby at_27) rfl rfl (l' := #[.val (.int p0), .val (.int p1), .val (.int p2), .val (.int p3), .val (.int (0 : Int32)), .val (.int p2), .val (.ref ro0), .unset, .unset, .unset, .unset, .unset, .unset, .unset]) rfl (XS.iloadN X1.here hx rfl (hb hby at_29) rfl  k)) ?_
        show Rch p e below _ (T1.setTop (mkF m 30 #[.val (.int p0), .val (.int p1), .val (.int p2), .val (.int p3), .val (.int (0 : Int32)), .val (.int p2), .val (.ref ro0), .unset, .unset, .unset, .unset, .unset, .unset, .unset] [(.int p1)]))
        refine Rch.go (fun t k => XS.i2dS X1.here hx rfl (hb hby at_30) rfl (v := (FP.l2d p1.toInt64)) (i2d_w _) (XS.dstore X1.here hx rfl (hb hby at_31) rfl  (l' := #[.val (.int p0), .val (.int p1), .val (.int p2), .val (.int p3), .val (.int (0 : Int32)), .val (.int p2), .val (.ref ro0), .val (.double (FP.l2d p1.toInt64)), .second, .unset, .unset, .unset, .unset, .unset]) rfl (XS.iload X1.here hx rfl (hb hby at_33) rfl  k))) ?_
        show Rch p e below _ (T1.setTop (mkF m 35 #[.val (.int p0), .val (.int p1), .val (.int p2), .val (.int p3), .val (.int (0 : Int32)), .val (.int p2), .val (.ref ro0), .val (.double (FP.l2d p1.toInt64)), .second, .unset, .unset, .unset, .unset, .unset] [(.int p2)]))
        refine Rch.go (fun t k => XS.i2dS X1.here hx rfl (hb hby at_35) rfl (v := (FP.l2d p2.toInt64)) (i2d_w _) (XS.dstore X1.here hx rfl (hb hby at_36) rfl  (l' := #[.val (.int p0), .val (.int p1), .val (.int p2), .val (.int p3), .val (.int (0 : Int32)), .val (.int p2), .val (.ref ro0), .val (.double (FP.l2d p1.toInt64)), .second, .val (.double (FP.l2d p2.toInt64)), .second, .unset, .unset, .unset]) rfl (XS.aload X1.here hx rfl (hb hby at_38) rfl rfl (XS.dload X1.here hx rfl (hb hby at_40) rfl  (XS.dload X1.here hx rfl (hb hby at_42) rfl  k))))) ?_
        show Rch p e below _ (T1.setTop (mkF m 44 #[.val (.int p0), .val (.int p1), .val (.int p2), .val (.int p3), .val (.int (0 : Int32)), .val (.int p2), .val (.ref ro0), .val (.double (FP.l2d p1.toInt64)), .second, .val (.double (FP.l2d p2.toInt64)), .second, .unset, .unset, .unset] [(.double (FP.l2d p2.toInt64)), (.double (FP.l2d p1.toInt64)), (.ref ro0)]))
        obtain ⟨v2, T2, L2, X2, Q2, st2⟩ := callVi X1 hx hZ (m2_holds l Z a0 hw ro0 (FP.l2d p1.toInt64) (FP.l2d p2.toInt64) h0 n0 Z0 O0 G.2.1 G.2.2.2.2.2.2.2.2.2.2.2.2.1 (own_dl hl .l)) e1 hown (wd_8 hw) (wd_9 hw) (wd_11 hw) (notFace_of_selects (args := #[]) (mvT hZ (wd_11 hw))) (wd_10 hw) (wd_12 hw) (wd_6 hw) (by decide) (hb hby at_44) 0 (by decide) (by decide) (by decide) (by decide) (by rw [hml]; rfl) ro0 (G.2.1.ext O0.2) [(.double (FP.l2d p1.toInt64)), (.double (FP.l2d p2.toInt64))] [] rfl (lenOf pd_2 rfl) rfl (Nat.le_of_eq rfl) (Ls := #[.val (.int p0), .val (.int p1), .val (.int p2), .val (.int p3), .val (.int (0 : Int32)), .val (.int p2), .val (.ref ro0), .val (.double (FP.l2d p1.toInt64)), .second, .val (.double (FP.l2d p2.toInt64)), .second, .unset, .unset, .unset])
        obtain ⟨rfl, M2, e2⟩ := Q2
        have N2 := Fr.app N1 M2
        refine Rch.go st2 ?_
        show Rch p e below _ (T2.setTop (mkF m 47 #[.val (.int p0), .val (.int p1), .val (.int p2), .val (.int p3), .val (.int (0 : Int32)), .val (.int p2), .val (.ref ro0), .val (.double (FP.l2d p1.toInt64)), .second, .val (.double (FP.l2d p2.toInt64)), .second, .unset, .unset, .unset] [(.int (0 : Int32))]))
        refine Rch.go (fun t k => XS.istore X2.here hx rfl (hb hby at_47) rfl  (l' := #[.val (.int p0), .val (.int p1), .val (.int p2), .val (.int p3), .val (.int (0 : Int32)), .val (.int p2), .val (.ref ro0), .val (.double (FP.l2d p1.toInt64)), .second, .val (.double (FP.l2d p2.toInt64)), .second, .val (.int (0 : Int32)), .unset, .unset]) rfl (XS.iloadN X2.here hx rfl (hb hby at_49) rfl  (XS.iload X2.here hx rfl (hb hby at_50) rfl  (XS.icmpNo X2.here hx rfl (hb hby at_52) rfl (XT.ii_ge_f hl) (XS.iconst X2.here hx rfl (hb hby at_55) (XS.goto X2.here hx rfl (pc0 := 56) (pc' := 70) rfl (hb hby at_56) (by decide) (by decide) (XS.istore X2.here hx rfl (hb hby at_70) rfl  (l' := #[.val (.int p0), .val (.int p1), .val (.int p2), .val (.int p3), .val (.int (0 : Int32)), .val (.int p2), .val (.ref ro0), .val (.double (FP.l2d p1.toInt64)), .second, .val (.double (FP.l2d p2.toInt64)), .second, .val (.int (0 : Int32)), .val (.int (-1 : Int32)), .unset]) rfl (XS.iload X2.here hx rfl (hb hby at_72) rfl  (XS.ifNo X2.here hx rfl (hb hby at_74) rfl (by decide) (XS.iload X2.here hx rfl (hb hby at_77) rfl  (XS.ifYes X2.here hx rfl (pc0 := 79) (pc' := 86) rfl (hb hby at_79) rfl (by decide) (by decide) (by decide) (XS.iconst X2.here hx rfl (hb hby at_86) k)))))))))))) ?_
        show Rch p e below _ (T2.setTop (mkF m 87 #[.val (.int p0), .val (.int p1), .val (.int p2), .val (.int p3), .val (.int (0 : Int32)), .val (.int p2), .val (.ref ro0), .val (.double (FP.l2d p1.toInt64)), .second, .val (.double (FP.l2d p2.toInt64)), .second, .val (.int (0 : Int32)), .val (.int (-1 : Int32)), .unset] [(.int (0 : Int32))]))
        refine Rch.go (fun t k => XS.istore X2.here hx rfl (hb hby at_87) rfl  (l' := #[.val (.int p0), .val (.int p1), .val (.int p2), .val (.int p3), .val (.int (0 : Int32)), .val (.int p2), .val (.ref ro0), .val (.double (FP.l2d p1.toInt64)), .second, .val (.double (FP.l2d p2.toInt64)), .second, .val (.int (0 : Int32)), .val (.int (-1 : Int32)), .val (.int (0 : Int32))]) rfl (XS.goto X2.here hx rfl (pc0 := 89) (pc' := 188) rfl (hb hby at_89) (by decide) (by decide) (XS.iload X2.here hx rfl (hb hby at_188) rfl  (XS.iload X2.here hx rfl (hb hby at_190) rfl  (XS.icmpNo X2.here hx rfl (hb hby at_192) rfl (by decide) (XS.iconst X2.here hx rfl (hb hby at_195) (XS.goto X2.here hx rfl (pc0 := 196) (pc' := 200) rfl (hb hby at_196) (by decide) (by decide) k))))))) ?_
        show Rch p e below _ (T2.setTop (mkF m 200 #[.val (.int p0), .val (.int p1), .val (.int p2), .val (.int p3), .val (.int (0 : Int32)), .val (.int p2), .val (.ref ro0), .val (.double (FP.l2d p1.toInt64)), .second, .val (.double (FP.l2d p2.toInt64)), .second, .val (.int (0 : Int32)), .val (.int (-1 : Int32)), .val (.int (0 : Int32))] [(.int (1 : Int32))]))
        refine Rch.val X2 hx (t := .boolean) hret hlk rfl (mayI (by simp)) (hb hby at_200) (by decide) (by decide) ?_
        try rw [e2]
        exact ⟨rfl, N2⟩
      · by_cases he : p1 = p2
        · show Rch p e below _ (T0.setTop (mkF m 22 #[.val (.int p0), .val (.int p1), .val (.int p2), .val (.int p3), .val (.int (0 : Int32)), .val (.int p2), .unset, .unset, .unset, .unset, .unset, .unset, .unset, .unset] []))
          refine Rch.go (fun t k => XS.iload X0.here hx rfl (hb hby at_22) rfl  k) ?_
          show Rch p e below _ (T0.setTop (mkF m 24 #[.val (.int p0), .val (.int p1), .val (.int p2), .val (.int p3), .val (.int (0 : Int32)), .val (.int p2), .unset, .unset, .unset, .unset, .unset, .unset, .unset, .unset] [(.int (0 : Int32))]))
          obtain ⟨v3, T3, L3, X3, Q3, st3⟩ := callSt X0 hx hZ (m1_pick l Z a0 hw ro0 h0 n0 Z0 O0 G.1) e0 hown (wd_1 hw) (wd_2 hw) (wd_4 hw) (wd_3 hw) (by decide) (hb hby at_24) 0 (by decide) (by decide) (by decide) (by decide) (by rw [hml]; rfl) [(.int (0 : Int32))] [] rfl (lenOf pd_0 rfl) rfl (Nat.le_of_eq rfl) (Ls := #[.val (.int p0), .val (.int p1), .val (.int p2), .val (.int p3), .val (.int (0 : Int32)), .val (.int p2), .unset, .unset, .unset, .unset, .unset, .unset, .unset, .unset])
          obtain ⟨rfl, M3, e3⟩ := Q3
          have N3 := Fr.app N0 M3
          refine Rch.go st3 ?_
          show Rch p e below _ (T3.setTop (mkF m 27 #[.val (.int p0), .val (.int p1), .val (.int p2), .val (.int p3), .val (.int (0 : Int32)), .val (.int p2), .unset, .unset, .unset, .unset, .unset, .unset, .unset, .unset] [(.ref ro0)]))
          refine Rch.go (fun t k => XS.astore X3.here hx rfl (hb hby at_27) rfl rfl (l' := #[.val (.int p0), .val (.int p1), .val (.int p2), .val (.int p3), .val (.int (0 : Int32)), .val (.int p2), .val (.ref ro0), .unset, .unset, .unset, .unset, .unset, .unset, .unset]) rfl (XS.iloadN X3.here hx rfl (hb hby at_29) rfl  k)) ?_
          show Rch p e below _ (T3.setTop (mkF m 30 #[.val (.int p0), .val (.int p1), .val (.int p2), .val (.int p3), .val (.int (0 : Int32)), .val (.int p2), .val (.ref ro0), .unset, .unset, .unset, .unset, .unset, .unset, .unset] [(.int p1)]))
          refine Rch.go (fun t k => XS.i2dS X3.here hx rfl (hb hby at_30) rfl (v := (FP.l2d p1.toInt64)) (i2d_w _) (XS.dstore X3.here hx rfl (hb hby at_31) rfl  (l' := #[.val (.int p0), .val (.int p1), .val (.int p2), .val (.int p3), .val (.int (0 : Int32)), .val (.int p2), .val (.ref ro0), .val (.double (FP.l2d p1.toInt64)), .second, .unset, .unset, .unset, .unset, .unset]) rfl (XS.iload X3.here hx rfl (hb hby at_33) rfl  k))) ?_
          show Rch p e below _ (T3.setTop (mkF m 35 #[.val (.int p0), .val (.int p1), .val (.int p2), .val (.int p3), .val (.int (0 : Int32)), .val (.int p2), .val (.ref ro0), .val (.double (FP.l2d p1.toInt64)), .second, .unset, .unset, .unset, .unset, .unset] [(.int p2)]))
          refine Rch.go (fun t k => XS.i2dS X3.here hx rfl (hb hby at_35) rfl (v := (FP.l2d p2.toInt64)) (i2d_w _) (XS.dstore X3.here hx rfl (hb hby at_36) rfl  (l' := #[.val (.int p0), .val (.int p1), .val (.int p2), .val (.int p3), .val (.int (0 : Int32)), .val (.int p2), .val (.ref ro0), .val (.double (FP.l2d p1.toInt64)), .second, .val (.double (FP.l2d p2.toInt64)), .second, .unset, .unset, .unset]) rfl (XS.aload X3.here hx rfl (hb hby at_38) rfl rfl (XS.dload X3.here hx rfl (hb hby at_40) rfl  (XS.dload X3.here hx rfl (hb hby at_42) rfl  k))))) ?_
          show Rch p e below _ (T3.setTop (mkF m 44 #[.val (.int p0), .val (.int p1), .val (.int p2), .val (.int p3), .val (.int (0 : Int32)), .val (.int p2), .val (.ref ro0), .val (.double (FP.l2d p1.toInt64)), .second, .val (.double (FP.l2d p2.toInt64)), .second, .unset, .unset, .unset] [(.double (FP.l2d p2.toInt64)), (.double (FP.l2d p1.toInt64)), (.ref ro0)]))
          obtain ⟨v4, T4, L4, X4, Q4, st4⟩ := callVi X3 hx hZ (m4_holds l Z a0 hw ro0 (FP.l2d p1.toInt64) (FP.l2d p2.toInt64) h0 n0 Z0 O0 G.2.1 G.2.2.2.2.2.2.2.2.2.2.2.2.1 (own_de he .l)) e3 hown (wd_8 hw) (wd_9 hw) (wd_11 hw) (notFace_of_selects (args := #[]) (mvT hZ (wd_11 hw))) (wd_10 hw) (wd_12 hw) (wd_6 hw) (by decide) (hb hby at_44) 0 (by decide) (by decide) (by decide) (by decide) (by rw [hml]; rfl) ro0 (G.2.1.ext O0.2) [(.double (FP.l2d p1.toInt64)), (.double (FP.l2d p2.toInt64))] [] rfl (lenOf pd_2 rfl) rfl (Nat.le_of_eq rfl) (Ls := #[.val (.int p0), .val (.int p1), .val (.int p2), .val (.int p3), .val (.int (0 : Int32)), .val (.int p2), .val (.ref ro0), .val (.double (FP.l2d p1.toInt64)), .second, .val (.double (FP.l2d p2.toInt64)), .second, .unset, .unset, .unset])
          obtain ⟨rfl, M4, e4⟩ := Q4
          have N4 := Fr.app N3 M4
          refine Rch.go st4 ?_
          show Rch p e below _ (T4.setTop (mkF m 47 #[.val (.int p0), .val (.int p1), .val (.int p2), .val (.int p3), .val (.int (0 : Int32)), .val (.int p2), .val (.ref ro0), .val (.double (FP.l2d p1.toInt64)), .second, .val (.double (FP.l2d p2.toInt64)), .second, .unset, .unset, .unset] [(.int (1 : Int32))]))
          refine Rch.go (fun t k => XS.istore X4.here hx rfl (hb hby at_47) rfl  (l' := #[.val (.int p0), .val (.int p1), .val (.int p2), .val (.int p3), .val (.int (0 : Int32)), .val (.int p2), .val (.ref ro0), .val (.double (FP.l2d p1.toInt64)), .second, .val (.double (FP.l2d p2.toInt64)), .second, .val (.int (1 : Int32)), .unset, .unset]) rfl (XS.iloadN X4.here hx rfl (hb hby at_49) rfl  (XS.iload X4.here hx rfl (hb hby at_50) rfl  (XS.icmpYes X4.here hx rfl (pc0 := 52) (pc' := 59) rfl (hb hby at_52) rfl (XT.ii_ge_t hl) (by decide) (by decide) (XS.iloadN X4.here hx rfl (hb hby at_59) rfl  (XS.iload X4.here hx rfl (hb hby at_60) rfl  (XS.icmpNo X4.here hx rfl (hb hby at_62) rfl (XT.ii_ne_f he) (XS.iconst X4.here hx rfl (hb hby at_65) (XS.goto X4.here hx rfl (pc0 := 66) (pc' := 70) rfl (hb hby at_66) (by decide) (by decide) (XS.istore X4.here hx rfl (hb hby at_70) rfl  (l' := #[.val (.int p0), .val (.int p1), .val (.int p2), .val (.int p3), .val (.int (0 : Int32)), .val (.int p2), .val (.ref ro0), .val (.double (FP.l2d p1.toInt64)), .second, .val (.double (FP.l2d p2.toInt64)), .second, .val (.int (1 : Int32)), .val (.int (0 : Int32)), .unset]) rfl (XS.iload X4.here hx rfl (hb hby at_72) rfl  (XS.ifNo X4.here hx rfl (hb hby at_74) rfl (by decide) k)))))))))))) ?_
          show Rch p e below _ (T4.setTop (mkF m 77 #[.val (.int p0), .val (.int p1), .val (.int p2), .val (.int p3), .val (.int (0 : Int32)), .val (.int p2), .val (.ref ro0), .val (.double (FP.l2d p1.toInt64)), .second, .val (.double (FP.l2d p2.toInt64)), .second, .val (.int (1 : Int32)), .val (.int (0 : Int32)), .unset] []))
          refine Rch.go (fun t k => XS.iload X4.here hx rfl (hb hby at_77) rfl  (XS.ifNo X4.here hx rfl (hb hby at_79) rfl (by decide) (XS.iconst X4.here hx rfl (hb hby at_82) (XS.goto X4.here hx rfl (pc0 := 83) (pc' := 87) rfl (hb hby at_83) (by decide) (by decide) (XS.istore X4.here hx rfl (hb hby at_87) rfl  (l' := #[.val (.int p0), .val (.int p1), .val (.int p2), .val (.int p3), .val (.int (0 : Int32)), .val (.int p2), .val (.ref ro0), .val (.double (FP.l2d p1.toInt64)), .second, .val (.double (FP.l2d p2.toInt64)), .second, .val (.int (1 : Int32)), .val (.int (0 : Int32)), .val (.int (1 : Int32))]) rfl (XS.goto X4.here hx rfl (pc0 := 89) (pc' := 188) rfl (hb hby at_89) (by decide) (by decide) (XS.iload X4.here hx rfl (hb hby at_188) rfl  (XS.iload X4.here hx rfl (hb hby at_190) rfl  (XS.icmpNo X4.here hx rfl (hb hby at_192) rfl (by decide) (XS.iconst X4.here hx rfl (hb hby at_195) (XS.goto X4.here hx rfl (pc0 := 196) (pc' := 200) rfl (hb hby at_196) (by decide) (by decide) k))))))))))) ?_
          show Rch p e below _ (T4.setTop (mkF m 200 #[.val (.int p0), .val (.int p1), .val (.int p2), .val (.int p3), .val (.int (0 : Int32)), .val (.int p2), .val (.ref ro0), .val (.double (FP.l2d p1.toInt64)), .second, .val (.double (FP.l2d p2.toInt64)), .second, .val (.int (1 : Int32)), .val (.int (0 : Int32)), .val (.int (1 : Int32))] [(.int (1 : Int32))]))
          refine Rch.val X4 hx (t := .boolean) hret hlk rfl (mayI (by simp)) (hb hby at_200) (by decide) (by decide) ?_
          try rw [e4]
          exact ⟨rfl, N4⟩
        · show Rch p e below _ (T0.setTop (mkF m 22 #[.val (.int p0), .val (.int p1), .val (.int p2), .val (.int p3), .val (.int (0 : Int32)), .val (.int p2), .unset, .unset, .unset, .unset, .unset, .unset, .unset, .unset] []))
          refine Rch.go (fun t k => XS.iload X0.here hx rfl (hb hby at_22) rfl  k) ?_
          show Rch p e below _ (T0.setTop (mkF m 24 #[.val (.int p0), .val (.int p1), .val (.int p2), .val (.int p3), .val (.int (0 : Int32)), .val (.int p2), .unset, .unset, .unset, .unset, .unset, .unset, .unset, .unset] [(.int (0 : Int32))]))
          obtain ⟨v5, T5, L5, X5, Q5, st5⟩ := callSt X0 hx hZ (m1_pick l Z a0 hw ro0 h0 n0 Z0 O0 G.1) e0 hown (wd_1 hw) (wd_2 hw) (wd_4 hw) (wd_3 hw) (by decide) (hb hby at_24) 0 (by decide) (by decide) (by decide) (by decide) (by rw [hml]; rfl) [(.int (0 : Int32))] [] rfl (lenOf pd_0 rfl) rfl (Nat.le_of_eq rfl) (Ls := #[.val (.int p0), .val (.int p1), .val (.int p2), .val (.int p3), .val (.int (0 : Int32)), .val (.int p2), .unset, .unset, .unset, .unset, .unset, .unset, .unset, .unset])
          obtain ⟨rfl, M5, e5⟩ := Q5
          have N5 := Fr.app N0 M5
          refine Rch.go st5 ?_
          show Rch p e below _ (T5.setTop (mkF m 27 #[.val (.int p0), .val (.int p1), .val (.int p2), .val (.int p3), .val (.int (0 : Int32)), .val (.int p2), .unset, .unset, .unset, .unset, .unset, .unset, .unset, .unset] [(.ref ro0)]))
          refine Rch.go (fun t k => XS.astore X5.here hx rfl (hb hby at_27) rfl rfl (l' := #[.val (.int p0), .val (.int p1), .val (.int p2), .val (.int p3), .val (.int (0 : Int32)), .val (.int p2), .val (.ref ro0), .unset, .unset, .unset, .unset, .unset, .unset, .unset]) rfl (XS.iloadN X5.here hx rfl (hb hby at_29) rfl  k)) ?_
          show Rch p e below _ (T5.setTop (mkF m 30 #[.val (.int p0), .val (.int p1), .val (.int p2), .val (.int p3), .val (.int (0 : Int32)), .val (.int p2), .val (.ref ro0), .unset, .unset, .unset, .unset, .unset, .unset, .unset] [(.int p1)]))
          refine Rch.go (fun t k => XS.i2dS X5.here hx rfl (hb hby at_30) rfl (v := (FP.l2d p1.toInt64)) (i2d_w _) (XS.dstore X5.here hx rfl (hb hby at_31) rfl  (l' := #[.val (.int p0), .val (.int p1), .val (.int p2), .val (.int p3), .val (.int (0 : Int32)), .val (.int p2), .val (.ref ro0), .val (.double (FP.l2d p1.toInt64)), .second, .unset, .unset, .unset, .unset, .unset]) rfl (XS.iload X5.here hx rfl (hb hby at_33) rfl  k))) ?_
          show Rch p e below _ (T5.setTop (mkF m 35 #[.val (.int p0), .val (.int p1), .val (.int p2), .val (.int p3), .val (.int (0 : Int32)), .val (.int p2), .val (.ref ro0), .val (.double (FP.l2d p1.toInt64)), .second, .unset, .unset, .unset, .unset, .unset] [(.int p2)]))
          refine Rch.go (fun t k => XS.i2dS X5.here hx rfl (hb hby at_35) rfl (v := (FP.l2d p2.toInt64)) (i2d_w _) (XS.dstore X5.here hx rfl (hb hby at_36) rfl  (l' := #[.val (.int p0), .val (.int p1), .val (.int p2), .val (.int p3), .val (.int (0 : Int32)), .val (.int p2), .val (.ref ro0), .val (.double (FP.l2d p1.toInt64)), .second, .val (.double (FP.l2d p2.toInt64)), .second, .unset, .unset, .unset]) rfl (XS.aload X5.here hx rfl (hb hby at_38) rfl rfl (XS.dload X5.here hx rfl (hb hby at_40) rfl  (XS.dload X5.here hx rfl (hb hby at_42) rfl  k))))) ?_
          show Rch p e below _ (T5.setTop (mkF m 44 #[.val (.int p0), .val (.int p1), .val (.int p2), .val (.int p3), .val (.int (0 : Int32)), .val (.int p2), .val (.ref ro0), .val (.double (FP.l2d p1.toInt64)), .second, .val (.double (FP.l2d p2.toInt64)), .second, .unset, .unset, .unset] [(.double (FP.l2d p2.toInt64)), (.double (FP.l2d p1.toInt64)), (.ref ro0)]))
          obtain ⟨v6, T6, L6, X6, Q6, st6⟩ := callVi X5 hx hZ (m5_holds l Z a0 hw ro0 (FP.l2d p1.toInt64) (FP.l2d p2.toInt64) h0 n0 Z0 O0 G.2.1 G.2.2.2.2.2.2.2.2.2.2.2.2.1 (own_dg hl he .l)) e5 hown (wd_8 hw) (wd_9 hw) (wd_11 hw) (notFace_of_selects (args := #[]) (mvT hZ (wd_11 hw))) (wd_10 hw) (wd_12 hw) (wd_6 hw) (by decide) (hb hby at_44) 0 (by decide) (by decide) (by decide) (by decide) (by rw [hml]; rfl) ro0 (G.2.1.ext O0.2) [(.double (FP.l2d p1.toInt64)), (.double (FP.l2d p2.toInt64))] [] rfl (lenOf pd_2 rfl) rfl (Nat.le_of_eq rfl) (Ls := #[.val (.int p0), .val (.int p1), .val (.int p2), .val (.int p3), .val (.int (0 : Int32)), .val (.int p2), .val (.ref ro0), .val (.double (FP.l2d p1.toInt64)), .second, .val (.double (FP.l2d p2.toInt64)), .second, .unset, .unset, .unset])
          obtain ⟨rfl, M6, e6⟩ := Q6
          have N6 := Fr.app N5 M6
          refine Rch.go st6 ?_
          show Rch p e below _ (T6.setTop (mkF m 47 #[.val (.int p0), .val (.int p1), .val (.int p2), .val (.int p3), .val (.int (0 : Int32)), .val (.int p2), .val (.ref ro0), .val (.double (FP.l2d p1.toInt64)), .second, .val (.double (FP.l2d p2.toInt64)), .second, .unset, .unset, .unset] [(.int (0 : Int32))]))
          refine Rch.go (fun t k => XS.istore X6.here hx rfl (hb hby at_47) rfl  (l' := #[.val (.int p0), .val (.int p1), .val (.int p2), .val (.int p3), .val (.int (0 : Int32)), .val (.int p2), .val (.ref ro0), .val (.double (FP.l2d p1.toInt64)), .second, .val (.double (FP.l2d p2.toInt64)), .second, .val (.int (0 : Int32)), .unset, .unset]) rfl (XS.iloadN X6.here hx rfl (hb hby at_49) rfl  (XS.iload X6.here hx rfl (hb hby at_50) rfl  (XS.icmpYes X6.here hx rfl (pc0 := 52) (pc' := 59) rfl (hb hby at_52) rfl (XT.ii_ge_t hl) (by decide) (by decide) (XS.iloadN X6.here hx rfl (hb hby at_59) rfl  (XS.iload X6.here hx rfl (hb hby at_60) rfl  (XS.icmpYes X6.here hx rfl (pc0 := 62) (pc' := 69) rfl (hb hby at_62) rfl (XT.ii_ne_t he) (by decide) (by decide) (XS.iconst X6.here hx rfl (hb hby at_69) (XS.istore X6.here hx rfl (hb hby at_70) rfl  (l' := #[.val (.int p0), .val (.int p1), .val (.int p2), .val (.int p3), .val (.int (0 : Int32)), .val (.int p2), .val (.ref ro0), .val (.double (FP.l2d p1.toInt64)), .second, .val (.double (FP.l2d p2.toInt64)), .second, .val (.int (0 : Int32)), .val (.int (1 : Int32)), .unset]) rfl (XS.iload X6.here hx rfl (hb hby at_72) rfl  (XS.ifNo X6.here hx rfl (hb hby at_74) rfl (by decide) (XS.iload X6.here hx rfl (hb hby at_77) rfl  k)))))))))))) ?_
          show Rch p e below _ (T6.setTop (mkF m 79 #[.val (.int p0), .val (.int p1), .val (.int p2), .val (.int p3), .val (.int (0 : Int32)), .val (.int p2), .val (.ref ro0), .val (.double (FP.l2d p1.toInt64)), .second, .val (.double (FP.l2d p2.toInt64)), .second, .val (.int (0 : Int32)), .val (.int (1 : Int32)), .unset] [(.int (1 : Int32))]))
          refine Rch.go (fun t k => XS.ifYes X6.here hx rfl (pc0 := 79) (pc' := 86) rfl (hb hby at_79) rfl (by decide) (by decide) (by decide) (XS.iconst X6.here hx rfl (hb hby at_86) (XS.istore X6.here hx rfl (hb hby at_87) rfl  (l' := #[.val (.int p0), .val (.int p1), .val (.int p2), .val (.int p3), .val (.int (0 : Int32)), .val (.int p2), .val (.ref ro0), .val (.double (FP.l2d p1.toInt64)), .second, .val (.double (FP.l2d p2.toInt64)), .second, .val (.int (0 : Int32)), .val (.int (1 : Int32)), .val (.int (0 : Int32))]) rfl (XS.goto X6.here hx rfl (pc0 := 89) (pc' := 188) rfl (hb hby at_89) (by decide) (by decide) (XS.iload X6.here hx rfl (hb hby at_188) rfl  (XS.iload X6.here hx rfl (hb hby at_190) rfl  (XS.icmpNo X6.here hx rfl (hb hby at_192) rfl (by decide) (XS.iconst X6.here hx rfl (hb hby at_195) (XS.goto X6.here hx rfl (pc0 := 196) (pc' := 200) rfl (hb hby at_196) (by decide) (by decide) k))))))))) ?_
          show Rch p e below _ (T6.setTop (mkF m 200 #[.val (.int p0), .val (.int p1), .val (.int p2), .val (.int p3), .val (.int (0 : Int32)), .val (.int p2), .val (.ref ro0), .val (.double (FP.l2d p1.toInt64)), .second, .val (.double (FP.l2d p2.toInt64)), .second, .val (.int (0 : Int32)), .val (.int (1 : Int32)), .val (.int (0 : Int32))] [(.int (1 : Int32))]))
          refine Rch.val X6 hx (t := .boolean) hret hlk rfl (mayI (by simp)) (hb hby at_200) (by decide) (by decide) ?_
          try rw [e6]
          exact ⟨rfl, N6⟩
    · show Rch p e below _ (T0.setTop (mkF m 12 #[.val (.int p0), .val (.int p1), .val (.int p2), .val (.int p3), .val (.int (0 : Int32)), .unset, .unset, .unset, .unset, .unset, .unset, .unset, .unset, .unset] [(.int (p3 &&& (1 : Int32)))]))
      refine Rch.go (fun t k => XS.ifNo X0.here hx rfl (hb hby at_12) rfl (XT.i0_eq_f hm) (XS.iloadN X0.here hx rfl (hb hby at_15) rfl  (XS.goto X0.here hx rfl (pc0 := 16) (pc' := 20) rfl (hb hby at_16) (by decide) (by decide) (XS.istore X0.here hx rfl (hb hby at_20) rfl  (l' := #[.val (.int p0), .val (.int p1), .val (.int p2), .val (.int p3), .val (.int (0 : Int32)), .val (.int p1), .unset, .unset, .unset, .unset, .unset, .unset, .unset, .unset]) rfl k)))) ?_
      show Rch p e below _ (T0.setTop (mkF m 22 #[.val (.int p0), .val (.int p1), .val (.int p2), .val (.int p3), .val (.int (0 : Int32)), .val (.int p1), .unset, .unset, .unset, .unset, .unset, .unset, .unset, .unset] []))
      refine Rch.go (fun t k => XS.iload X0.here hx rfl (hb hby at_22) rfl  k) ?_
      show Rch p e below _ (T0.setTop (mkF m 24 #[.val (.int p0), .val (.int p1), .val (.int p2), .val (.int p3), .val (.int (0 : Int32)), .val (.int p1), .unset, .unset, .unset, .unset, .unset, .unset, .unset, .unset] [(.int (0 : Int32))]))
      obtain ⟨v7, T7, L7, X7, Q7, st7⟩ := callSt X0 hx hZ (m1_pick l Z a0 hw ro0 h0 n0 Z0 O0 G.1) e0 hown (wd_1 hw) (wd_2 hw) (wd_4 hw) (wd_3 hw) (by decide) (hb hby at_24) 0 (by decide) (by decide) (by decide) (by decide) (by rw [hml]; rfl) [(.int (0 : Int32))] [] rfl (lenOf pd_0 rfl) rfl (Nat.le_of_eq rfl) (Ls := #[.val (.int p0), .val (.int p1), .val (.int p2), .val (.int p3), .val (.int (0 : Int32)), .val (.int p1), .unset, .unset, .unset, .unset, .unset, .unset, .unset, .unset])
      obtain ⟨rfl, M7, e7⟩ := Q7
      have N7 := Fr.app N0 M7
      refine Rch.go st7 ?_
      show Rch p e below _ (T7.setTop (mkF m 27 #[.val (.int p0), .val (.int p1), .val (.int p2), .val (.int p3), .val (.int (0 : Int32)), .val (.int p1), .unset, .unset, .unset, .unset, .unset, .unset, .unset, .unset] [(.ref ro0)]))
      refine Rch.go (fun t k => XS.astore X7.here hx rfl (hb hby at_27) rfl rfl (l' := #[.val (.int p0), .val (.int p1), .val (.int p2), .val (.int p3), .val (.int (0 : Int32)), .val (.int p1), .val (.ref ro0), .unset, .unset, .unset, .unset, .unset, .unset, .unset]) rfl (XS.iloadN X7.here hx rfl (hb hby at_29) rfl  k)) ?_
      show Rch p e below _ (T7.setTop (mkF m 30 #[.val (.int p0), .val (.int p1), .val (.int p2), .val (.int p3), .val (.int (0 : Int32)), .val (.int p1), .val (.ref ro0), .unset, .unset, .unset, .unset, .unset, .unset, .unset] [(.int p1)]))
      refine Rch.go (fun t k => XS.i2dS X7.here hx rfl (hb hby at_30) rfl (v := (FP.l2d p1.toInt64)) (i2d_w _) (XS.dstore X7.here hx rfl (hb hby at_31) rfl  (l' := #[.val (.int p0), .val (.int p1), .val (.int p2), .val (.int p3), .val (.int (0 : Int32)), .val (.int p1), .val (.ref ro0), .val (.double (FP.l2d p1.toInt64)), .second, .unset, .unset, .unset, .unset, .unset]) rfl (XS.iload X7.here hx rfl (hb hby at_33) rfl  k))) ?_
      show Rch p e below _ (T7.setTop (mkF m 35 #[.val (.int p0), .val (.int p1), .val (.int p2), .val (.int p3), .val (.int (0 : Int32)), .val (.int p1), .val (.ref ro0), .val (.double (FP.l2d p1.toInt64)), .second, .unset, .unset, .unset, .unset, .unset] [(.int p1)]))
      refine Rch.go (fun t k => XS.i2dS X7.here hx rfl (hb hby at_35) rfl (v := (FP.l2d p1.toInt64)) (i2d_w _) (XS.dstore X7.here hx rfl (hb hby at_36) rfl  (l' := #[.val (.int p0), .val (.int p1), .val (.int p2), .val (.int p3), .val (.int (0 : Int32)), .val (.int p1), .val (.ref ro0), .val (.double (FP.l2d p1.toInt64)), .second, .val (.double (FP.l2d p1.toInt64)), .second, .unset, .unset, .unset]) rfl (XS.aload X7.here hx rfl (hb hby at_38) rfl rfl (XS.dload X7.here hx rfl (hb hby at_40) rfl  (XS.dload X7.here hx rfl (hb hby at_42) rfl  k))))) ?_
      show Rch p e below _ (T7.setTop (mkF m 44 #[.val (.int p0), .val (.int p1), .val (.int p2), .val (.int p3), .val (.int (0 : Int32)), .val (.int p1), .val (.ref ro0), .val (.double (FP.l2d p1.toInt64)), .second, .val (.double (FP.l2d p1.toInt64)), .second, .unset, .unset, .unset] [(.double (FP.l2d p1.toInt64)), (.double (FP.l2d p1.toInt64)), (.ref ro0)]))
      obtain ⟨v8, T8, L8, X8, Q8, st8⟩ := callVi X7 hx hZ (m6_holds l Z a0 hw ro0 (FP.l2d p1.toInt64) h0 n0 Z0 O0 G.2.1 G.2.2.2.2.2.2.2.2.2.2.2.2.1 (own_de rfl .l)) e7 hown (wd_8 hw) (wd_9 hw) (wd_11 hw) (notFace_of_selects (args := #[]) (mvT hZ (wd_11 hw))) (wd_10 hw) (wd_12 hw) (wd_6 hw) (by decide) (hb hby at_44) 0 (by decide) (by decide) (by decide) (by decide) (by rw [hml]; rfl) ro0 (G.2.1.ext O0.2) [(.double (FP.l2d p1.toInt64)), (.double (FP.l2d p1.toInt64))] [] rfl (lenOf pd_2 rfl) rfl (Nat.le_of_eq rfl) (Ls := #[.val (.int p0), .val (.int p1), .val (.int p2), .val (.int p3), .val (.int (0 : Int32)), .val (.int p1), .val (.ref ro0), .val (.double (FP.l2d p1.toInt64)), .second, .val (.double (FP.l2d p1.toInt64)), .second, .unset, .unset, .unset])
      obtain ⟨rfl, M8, e8⟩ := Q8
      have N8 := Fr.app N7 M8
      refine Rch.go st8 ?_
      show Rch p e below _ (T8.setTop (mkF m 47 #[.val (.int p0), .val (.int p1), .val (.int p2), .val (.int p3), .val (.int (0 : Int32)), .val (.int p1), .val (.ref ro0), .val (.double (FP.l2d p1.toInt64)), .second, .val (.double (FP.l2d p1.toInt64)), .second, .unset, .unset, .unset] [(.int (1 : Int32))]))
      refine Rch.go (fun t k => XS.istore X8.here hx rfl (hb hby at_47) rfl  (l' := #[.val (.int p0), .val (.int p1), .val (.int p2), .val (.int p3), .val (.int (0 : Int32)), .val (.int p1), .val (.ref ro0), .val (.double (FP.l2d p1.toInt64)), .second, .val (.double (FP.l2d p1.toInt64)), .second, .val (.int (1 : Int32)), .unset, .unset]) rfl (XS.iloadN X8.here hx rfl (hb hby at_49) rfl  (XS.iload X8.here hx rfl (hb hby at_50) rfl  (XS.icmpYes X8.here hx rfl (pc0 := 52) (pc' := 59) rfl (hb hby at_52) rfl (XT.ii_ge_t Int32.lt_irrefl) (by decide) (by decide) (XS.iloadN X8.here hx rfl (hb hby at_59) rfl  (XS.iload X8.here hx rfl (hb hby at_60) rfl  (XS.icmpNo X8.here hx rfl (hb hby at_62) rfl (XT.ii_ne_f rfl) (XS.iconst X8.here hx rfl (hb hby at_65) (XS.goto X8.here hx rfl (pc0 := 66) (pc' := 70) rfl (hb hby at_66) (by decide) (by decide) (XS.istore X8.here hx rfl (hb hby at_70) rfl  (l' := #[.val (.int p0), .val (.int p1), .val (.int p2), .val (.int p3), .val (.int (0 : Int32)), .val (.int p1), .val (.ref ro0), .val (.double (FP.l2d p1.toInt64)), .second, .val (.double (FP.l2d p1.toInt64)), .second, .val (.int (1 : Int32)), .val (.int (0 : Int32)), .unset]) rfl (XS.iload X8.here hx rfl (hb hby at_72) rfl  (XS.ifNo X8.here hx rfl (hb hby at_74) rfl (by decide) k)))))))))))) ?_
      show Rch p e below _ (T8.setTop (mkF m 77 #[.val (.int p0), .val (.int p1), .val (.int p2), .val (.int p3), .val (.int (0 : Int32)), .val (.int p1), .val (.ref ro0), .val (.double (FP.l2d p1.toInt64)), .second, .val (.double (FP.l2d p1.toInt64)), .second, .val (.int (1 : Int32)), .val (.int (0 : Int32)), .unset] []))
      refine Rch.go (fun t k => XS.iload X8.here hx rfl (hb hby at_77) rfl  (XS.ifNo X8.here hx rfl (hb hby at_79) rfl (by decide) (XS.iconst X8.here hx rfl (hb hby at_82) (XS.goto X8.here hx rfl (pc0 := 83) (pc' := 87) rfl (hb hby at_83) (by decide) (by decide) (XS.istore X8.here hx rfl (hb hby at_87) rfl  (l' := #[.val (.int p0), .val (.int p1), .val (.int p2), .val (.int p3), .val (.int (0 : Int32)), .val (.int p1), .val (.ref ro0), .val (.double (FP.l2d p1.toInt64)), .second, .val (.double (FP.l2d p1.toInt64)), .second, .val (.int (1 : Int32)), .val (.int (0 : Int32)), .val (.int (1 : Int32))]) rfl (XS.goto X8.here hx rfl (pc0 := 89) (pc' := 188) rfl (hb hby at_89) (by decide) (by decide) (XS.iload X8.here hx rfl (hb hby at_188) rfl  (XS.iload X8.here hx rfl (hb hby at_190) rfl  (XS.icmpNo X8.here hx rfl (hb hby at_192) rfl (by decide) (XS.iconst X8.here hx rfl (hb hby at_195) (XS.goto X8.here hx rfl (pc0 := 196) (pc' := 200) rfl (hb hby at_196) (by decide) (by decide) k))))))))))) ?_
      show Rch p e below _ (T8.setTop (mkF m 200 #[.val (.int p0), .val (.int p1), .val (.int p2), .val (.int p3), .val (.int (0 : Int32)), .val (.int p1), .val (.ref ro0), .val (.double (FP.l2d p1.toInt64)), .second, .val (.double (FP.l2d p1.toInt64)), .second, .val (.int (1 : Int32)), .val (.int (0 : Int32)), .val (.int (1 : Int32))] [(.int (1 : Int32))]))
      refine Rch.val X8 hx (t := .boolean) hret hlk rfl (mayI (by simp)) (hb hby at_200) (by decide) (by decide) ?_
      try rw [e8]
      exact ⟨rfl, N8⟩
  · rw [hq]
    show Rch p e below _ (T0.setTop (mkF m 7 #[.val (.int p0), .val (.int p1), .val (.int p2), .val (.int p3), .unset, .unset, .unset, .unset, .unset, .unset, .unset, .unset, .unset, .unset] [(.int (1 : Int32))]))
    refine Rch.go (fun t k => XS.istore X0.here hx rfl (hb hby at_7) rfl  (l' := #[.val (.int p0), .val (.int p1), .val (.int p2), .val (.int p3), .val (.int (1 : Int32)), .unset, .unset, .unset, .unset, .unset, .unset, .unset, .unset, .unset]) rfl (XS.iloadN X0.here hx rfl (hb hby at_9) rfl  (XS.iconst X0.here hx rfl (hb hby at_10) (XS.iand X0.here hx rfl (hb hby at_11) rfl k)))) ?_
    show Rch p e below _ (T0.setTop (mkF m 12 #[.val (.int p0), .val (.int p1), .val (.int p2), .val (.int p3), .val (.int (1 : Int32)), .unset, .unset, .unset, .unset, .unset, .unset, .unset, .unset, .unset] [(.int (p3 &&& (1 : Int32)))]))
    by_cases hm : (p3 &&& (1 : Int32)) = (0 : Int32)
    · show Rch p e below _ (T0.setTop (mkF m 12 #[.val (.int p0), .val (.int p1), .val (.int p2), .val (.int p3), .val (.int (1 : Int32)), .unset, .unset, .unset, .unset, .unset, .unset, .unset, .unset, .unset] [(.int (p3 &&& (1 : Int32)))]))
      refine Rch.go (fun t k => XS.ifYes X0.here hx rfl (pc0 := 12) (pc' := 19) rfl (hb hby at_12) rfl (XT.i0_eq_t hm) (by decide) (by decide) (XS.iloadN X0.here hx rfl (hb hby at_19) rfl  (XS.istore X0.here hx rfl (hb hby at_20) rfl  (l' := #[.val (.int p0), .val (.int p1), .val (.int p2), .val (.int p3), .val (.int (1 : Int32)), .val (.int p2), .unset, .unset, .unset, .unset, .unset, .unset, .unset, .unset]) rfl k))) ?_
      show Rch p e below _ (T0.setTop (mkF m 22 #[.val (.int p0), .val (.int p1), .val (.int p2), .val (.int p3), .val (.int (1 : Int32)), .val (.int p2), .unset, .unset, .unset, .unset, .unset, .unset, .unset, .unset] []))
      by_cases hl : p1 < p2
      · show Rch p e below _ (T0.setTop (mkF m 22 #[.val (.int p0), .val (.int p1), .val (.int p2), .val (.int p3), .val (.int (1 : Int32)), .val (.int p2), .unset, .unset, .unset, .unset, .unset, .unset, .unset, .unset] []))
        refine Rch.go (fun t k => XS.iload X0.here hx rfl (hb hby at_22) rfl  k) ?_
        show Rch p e below _ (T0.setTop (mkF m 24 #[.val (.int p0), .val (.int p1), .val (.int p2), .val (.int p3), .val (.int (1 : Int32)), .val (.int p2), .unset, .unset, .unset, .unset, .unset, .unset, .unset, .unset] [(.int (1 : Int32))]))
        obtain ⟨v9, T9, L9, X9, Q9, st9⟩ := callSt X0 hx hZ (m7_pick l Z a0 hw ro1 h0 n0 Z0 O0 G.2.2.1) e0 hown (wd_1 hw) (wd_2 hw) (wd_4 hw) (wd_3 hw) (by decide) (hb hby at_24) 0 (by decide) (by decide) (by decide) (by decide) (by rw [hml]; rfl) [(.int (1 : Int32))] [] rfl (lenOf pd_0 rfl) rfl (Nat.le_of_eq rfl) (Ls := #[.val (.int p0), .val (.int p1), .val (.int p2), .val (.int p3), .val (.int (1 : Int32)), .val (.int p2), .unset, .unset, .unset, .unset, .unset, .unset, .unset, .unset])
        obtain ⟨rfl, M9, e9⟩ := Q9
        have N9 := Fr.app N0 M9
        refine Rch.go st9 ?_
        show Rch p e below _ (T9.setTop (mkF m 27 #[.val (.int p0), .val (.int p1), .val (.int p2), .val (.int p3), .val (.int (1 : Int32)), .val (.int p2), .unset, .unset, .unset, .unset, .unset, .unset, .unset, .unset] [(.ref ro1)]))
        refine Rch.go (fun t k => XS.astore X9.here hx rfl (hb hby at_27) rfl rfl (l' := #[.val (.int p0), .val (.int p1), .val (.int p2), .val (.int p3), .val (.int (1 : Int32)), .val (.int p2), .val (.ref ro1), .unset, .unset, .unset, .unset, .unset, .unset, .unset]) rfl (XS.iloadN X9.here hx rfl (hb hby at_29) rfl  k)) ?_
        show Rch p e below _ (T9.setTop (mkF m 30 #[.val (.int p0), .val (.int p1), .val (.int p2), .val (.int p3), .val (.int (1 : Int32)), .val (.int p2), .val (.ref ro1), .unset, .unset, .unset, .unset, .unset, .unset, .unset] [(.int p1)]))
        refine Rch.go (fun t k => XS.i2dS X9.here hx rfl (hb hby at_30) rfl (v := (FP.l2d p1.toInt64)) (i2d_w _) (XS.dstore X9.here hx rfl (hb hby at_31) rfl  (l' := #[.val (.int p0), .val (.int p1), .val (.int p2), .val (.int p3), .val (.int (1 : Int32)), .val (.int p2), .val (.ref ro1), .val (.double (FP.l2d p1.toInt64)), .second, .unset, .unset, .unset, .unset, .unset]) rfl (XS.iload X9.here hx rfl (hb hby at_33) rfl  k))) ?_
        show Rch p e below _ (T9.setTop (mkF m 35 #[.val (.int p0), .val (.int p1), .val (.int p2), .val (.int p3), .val (.int (1 : Int32)), .val (.int p2), .val (.ref ro1), .val (.double (FP.l2d p1.toInt64)), .second, .unset, .unset, .unset, .unset, .unset] [(.int p2)]))
        refine Rch.go (fun t k => XS.i2dS X9.here hx rfl (hb hby at_35) rfl (v := (FP.l2d p2.toInt64)) (i2d_w _) (XS.dstore X9.here hx rfl (hb hby at_36) rfl  (l' := #[.val (.int p0), .val (.int p1), .val (.int p2), .val (.int p3), .val (.int (1 : Int32)), .val (.int p2), .val (.ref ro1), .val (.double (FP.l2d p1.toInt64)), .second, .val (.double (FP.l2d p2.toInt64)), .second, .unset, .unset, .unset]) rfl (XS.aload X9.here hx rfl (hb hby at_38) rfl rfl (XS.dload X9.here hx rfl (hb hby at_40) rfl  (XS.dload X9.here hx rfl (hb hby at_42) rfl  k))))) ?_
        show Rch p e below _ (T9.setTop (mkF m 44 #[.val (.int p0), .val (.int p1), .val (.int p2), .val (.int p3), .val (.int (1 : Int32)), .val (.int p2), .val (.ref ro1), .val (.double (FP.l2d p1.toInt64)), .second, .val (.double (FP.l2d p2.toInt64)), .second, .unset, .unset, .unset] [(.double (FP.l2d p2.toInt64)), (.double (FP.l2d p1.toInt64)), (.ref ro1)]))
        obtain ⟨v10, T10, L10, X10, Q10, st10⟩ := callVi X9 hx hZ (m8_holds l Z a0 hw ro1 (FP.l2d p1.toInt64) (FP.l2d p2.toInt64) h0 n0 Z0 O0 G.2.2.2.1 G.2.2.2.2.2.2.2.2.2.2.2.2.2.1 (own_dl hl .l)) e9 hown (wd_8 hw) (wd_9 hw) (wd_11 hw) (notFace_of_selects (args := #[]) (mvT hZ (wd_11 hw))) (wd_10 hw) (wd_12 hw) (wd_6 hw) (by decide) (hb hby at_44) 0 (by decide) (by decide) (by decide) (by decide) (by rw [hml]; rfl) ro1 (G.2.2.2.1.ext O0.2) [(.double (FP.l2d p1.toInt64)), (.double (FP.l2d p2.toInt64))] [] rfl (lenOf pd_2 rfl) rfl (Nat.le_of_eq rfl) (Ls := #[.val (.int p0), .val (.int p1), .val (.int p2), .val (.int p3), .val (.int (1 : Int32)), .val (.int p2), .val (.ref ro1), .val (.double (FP.l2d p1.toInt64)), .second, .val (.double (FP.l2d p2.toInt64)), .second, .unset, .unset, .unset])
        obtain ⟨rfl, M10, e10⟩ := Q10
        have N10 := Fr.app N9 M10
        refine Rch.go st10 ?_
        show Rch p e below _ (T10.setTop (mkF m 47 #[.val (.int p0), .val (.int p1), .val (.int p2), .val (.int p3), .val (.int (1 : Int32)), .val (.int p2), .val (.ref ro1), .val (.double (FP.l2d p1.toInt64)), .second, .val (.double (FP.l2d p2.toInt64)), .second, .unset, .unset, .unset] [(.int (1 : Int32))]))
        refine Rch.go (fun t k => XS.istore X10.here hx rfl (hb hby at_47) rfl  (l' := #[.val (.int p0), .val (.int p1), .val (.int p2), .val (.int p3), .val (.int (1 : Int32)), .val (.int p2), .val (.ref ro1), .val (.double (FP.l2d p1.toInt64)), .second, .val (.double (FP.l2d p2.toInt64)), .second, .val (.int (1 : Int32)), .unset, .unset]) rfl (XS.iloadN X10.here hx rfl (hb hby at_49) rfl  (XS.iload X10.here hx rfl (hb hby at_50) rfl  (XS.icmpNo X10.here hx rfl (hb hby at_52) rfl (XT.ii_ge_f hl) (XS.iconst X10.here hx rfl (hb hby at_55) (XS.goto X10.here hx rfl (pc0 := 56) (pc' := 70) rfl (hb hby at_56) (by decide) (by decide) (XS.istore X10.here hx rfl (hb hby at_70) rfl  (l' := #[.val (.int p0), .val (.int p1), .val (.int p2), .val (.int p3), .val (.int (1 : Int32)), .val (.int p2), .val (.ref ro1), .val (.double (FP.l2d p1.toInt64)), .second, .val (.double (FP.l2d p2.toInt64)), .second, .val (.int (1 : Int32)), .val (.int (-1 : Int32)), .unset]) rfl (XS.iload X10.here hx rfl (hb hby at_72) rfl  (XS.ifYes X10.here hx rfl (pc0 := 74) (pc' := 92) rfl (hb hby at_74) rfl (by decide) (by decide) (by decide) (XS.iload X10.here hx rfl (hb hby at_92) rfl  (XS.iconst X10.here hx rfl (hb hby at_94) (XS.icmpNo X10.here hx rfl (hb hby at_95) rfl (by decide) k)))))))))))) ?_
        show Rch p e below _ (T10.setTop (mkF m 98 #[.val (.int p0), .val (.int p1), .val (.int p2), .val (.int p3), .val (.int (1 : Int32)), .val (.int p2), .val (.ref ro1), .val (.double (FP.l2d p1.toInt64)), .second, .val (.double (FP.l2d p2.toInt64)), .second, .val (.int (1 : Int32)), .val (.int (-1 : Int32)), .unset] []))
        refine Rch.go (fun t k => XS.iload X10.here hx rfl (hb hby at_98) rfl  (XS.ifNo X10.here hx rfl (hb hby at_100) rfl (by decide) (XS.iconst X10.here hx rfl (hb hby at_103) (XS.goto X10.here hx rfl (pc0 := 104) (pc' := 108) rfl (hb hby at_104) (by decide) (by decide) (XS.istore X10.here hx rfl (hb hby at_108) rfl  (l' := #[.val (.int p0), .val (.int p1), .val (.int p2), .val (.int p3), .val (.int (1 : Int32)), .val (.int p2), .val (.ref ro1), .val (.double (FP.l2d p1.toInt64)), .second, .val (.double (FP.l2d p2.toInt64)), .second, .val (.int (1 : Int32)), .val (.int (-1 : Int32)), .val (.int (1 : Int32))]) rfl (XS.goto X10.here hx rfl (pc0 := 110) (pc' := 188) rfl (hb hby at_110) (by decide) (by decide) (XS.iload X10.here hx rfl (hb hby at_188) rfl  (XS.iload X10.here hx rfl (hb hby at_190) rfl  (XS.icmpNo X10.here hx rfl (hb hby at_192) rfl (by decide) (XS.iconst X10.here hx rfl (hb hby at_195) (XS.goto X10.here hx rfl (pc0 := 196) (pc' := 200) rfl (hb hby at_196) (by decide) (by decide) k))))))))))) ?_
        show Rch p e below _ (T10.setTop (mkF m 200 #[.val (.int p0), .val (.int p1), .val (.int p2), .val (.int p3), .val (.int (1 : Int32)), .val (.int p2), .val (.ref ro1), .val (.double (FP.l2d p1.toInt64)), .second, .val (.double (FP.l2d p2.toInt64)), .second, .val (.int (1 : Int32)), .val (.int (-1 : Int32)), .val (.int (1 : Int32))] [(.int (1 : Int32))]))
        refine Rch.val X10 hx (t := .boolean) hret hlk rfl (mayI (by simp)) (hb hby at_200) (by decide) (by decide) ?_
        try rw [e10]
        exact ⟨rfl, N10⟩
      · by_cases he : p1 = p2
        · show Rch p e below _ (T0.setTop (mkF m 22 #[.val (.int p0), .val (.int p1), .val (.int p2), .val (.int p3), .val (.int (1 : Int32)), .val (.int p2), .unset, .unset, .unset, .unset, .unset, .unset, .unset, .unset] []))
          refine Rch.go (fun t k => XS.iload X0.here hx rfl (hb hby at_22) rfl  k) ?_
          show Rch p e below _ (T0.setTop (mkF m 24 #[.val (.int p0), .val (.int p1), .val (.int p2), .val (.int p3), .val (.int (1 : Int32)), .val (.int p2), .unset, .unset, .unset, .unset, .unset, .unset, .unset, .unset] [(.int (1 : Int32))]))
          obtain ⟨v11, T11, L11, X11, Q11, st11⟩ := callSt X0 hx hZ (m7_pick l Z a0 hw ro1 h0 n0 Z0 O0 G.2.2.1) e0 hown (wd_1 hw) (wd_2 hw) (wd_4 hw) (wd_3 hw) (by decide) (hb hby at_24) 0 (by decide) (by decide) (by decide) (by decide) (by rw [hml]; rfl) [(.int (1 : Int32))] [] rfl (lenOf pd_0 rfl) rfl (Nat.le_of_eq rfl) (Ls := #[.val (.int p0), .val (.int p1), .val (.int p2), .val (.int p3), .val (.int (1 : Int32)), .val (.int p2), .unset, .unset, .unset, .unset, .unset, .unset, .unset, .unset])
          obtain ⟨rfl, M11, e11⟩ := Q11
          have N11 := Fr.app N0 M11
          refine Rch.go st11 ?_
          show Rch p e below _ (T11.setTop (mkF m 27 #[.val (.int p0), .val (.int p1), .val (.int p2), .val (.int p3), .val (.int (1 : Int32)), .val (.int p2), .unset, .unset, .unset, .unset, .unset, .unset, .unset, .unset] [(.ref ro1)]))
          refine Rch.go (fun t k => XS.astore X11.here hx rfl (hb hby at_27) rfl rfl (l' := #[.val (.int p0), .val (.int p1), .val (.int p2), .val (.int p3), .val (.int (1 : Int32)), .val (.int p2), .val (.ref ro1), .unset, .unset, .unset, .unset, .unset, .unset, .unset]) rfl (XS.iloadN X11.here hx rfl (hb hby at_29) rfl  k)) ?_
          show Rch p e below _ (T11.setTop (mkF m 30 #[.val (.int p0), .val (.int p1), .val (.int p2), .val (.int p3), .val (.int (1 : Int32)), .val (.int p2), .val (.ref ro1), .unset, .unset, .unset, .unset, .unset, .unset, .unset] [(.int p1)]))
          refine Rch.go (fun t k => XS.i2dS X11.here hx rfl (hb hby at_30) rfl (v := (FP.l2d p1.toInt64)) (i2d_w _) (XS.dstore X11.here hx rfl (hb hby at_31) rfl  (l' := #[.val (.int p0), .val (.int p1), .val (.int p2), .val (.int p3), .val (.int (1 : Int32)), .val (.int p2), .val (.ref ro1), .val (.double (FP.l2d p1.toInt64)), .second, .unset, .unset, .unset, .unset, .unset]) rfl (XS.iload X11.here hx rfl (hb hby at_33) rfl  k))) ?_
          show Rch p e below _ (T11.setTop (mkF m 35 #[.val (.int p0), .val (.int p1), .val (.int p2), .val (.int p3), .val (.int (1 : Int32)), .val (.int p2), .val (.ref ro1), .val (.double (FP.l2d p1.toInt64)), .second, .unset, .unset, .unset, .unset, .unset] [(.int p2)]))
          refine Rch.go (fun t k => XS.i2dS X11.here hx rfl (hb hby at_35) rfl (v := (FP.l2d p2.toInt64)) (i2d_w _) (XS.dstore X11.here hx rfl (hb hby at_36) rfl  (l' := #[.val (.int p0), .val (.int p1), .val (.int p2), .val (.int p3), .val (.int (1 : Int32)), .val (.int p2), .val (.ref ro1), .val (.double (FP.l2d p1.toInt64)), .second, .val (.double (FP.l2d p2.toInt64)), .second, .unset, .unset, .unset]) rfl (XS.aload X11.here hx rfl (hb hby at_38) rfl rfl (XS.dload X11.here hx rfl (hb hby at_40) rfl  (XS.dload X11.here hx rfl (hb hby at_42) rfl  k))))) ?_
          show Rch p e below _ (T11.setTop (mkF m 44 #[.val (.int p0), .val (.int p1), .val (.int p2), .val (.int p3), .val (.int (1 : Int32)), .val (.int p2), .val (.ref ro1), .val (.double (FP.l2d p1.toInt64)), .second, .val (.double (FP.l2d p2.toInt64)), .second, .unset, .unset, .unset] [(.double (FP.l2d p2.toInt64)), (.double (FP.l2d p1.toInt64)), (.ref ro1)]))
          obtain ⟨v12, T12, L12, X12, Q12, st12⟩ := callVi X11 hx hZ (m10_holds l Z a0 hw ro1 (FP.l2d p1.toInt64) (FP.l2d p2.toInt64) h0 n0 Z0 O0 G.2.2.2.1 G.2.2.2.2.2.2.2.2.2.2.2.2.2.1 (own_de he .l)) e11 hown (wd_8 hw) (wd_9 hw) (wd_11 hw) (notFace_of_selects (args := #[]) (mvT hZ (wd_11 hw))) (wd_10 hw) (wd_12 hw) (wd_6 hw) (by decide) (hb hby at_44) 0 (by decide) (by decide) (by decide) (by decide) (by rw [hml]; rfl) ro1 (G.2.2.2.1.ext O0.2) [(.double (FP.l2d p1.toInt64)), (.double (FP.l2d p2.toInt64))] [] rfl (lenOf pd_2 rfl) rfl (Nat.le_of_eq rfl) (Ls := #[.val (.int p0), .val (.int p1), .val (.int p2), .val (.int p3), .val (.int (1 : Int32)), .val (.int p2), .val (.ref ro1), .val (.double (FP.l2d p1.toInt64)), .second, .val (.double (FP.l2d p2.toInt64)), .second, .unset, .unset, .unset])
          obtain ⟨rfl, M12, e12⟩ := Q12
          have N12 := Fr.app N11 M12
          refine Rch.go st12 ?_
          show Rch p e below _ (T12.setTop (mkF m 47 #[.val (.int p0), .val (.int p1), .val (.int p2), .val (.int p3), .val (.int (1 : Int32)), .val (.int p2), .val (.ref ro1), .val (.double (FP.l2d p1.toInt64)), .second, .val (.double (FP.l2d p2.toInt64)), .second, .unset, .unset, .unset] [(.int (0 : Int32))]))
          refine Rch.go (fun t k => XS.istore X12.here hx rfl (hb hby at_47) rfl  (l' := #[.val (.int p0), .val (.int p1), .val (.int p2), .val (.int p3), .val (.int (1 : Int32)), .val (.int p2), .val (.ref ro1), .val (.double (FP.l2d p1.toInt64)), .second, .val (.double (FP.l2d p2.toInt64)), .second, .val (.int (0 : Int32)), .unset, .unset]) rfl (XS.iloadN X12.here hx rfl (hb hby at_49) rfl  (XS.iload X12.here hx rfl (hb hby at_50) rfl  (XS.icmpYes X12.here hx rfl (pc0 := 52) (pc' := 59) rfl (hb hby at_52) rfl (XT.ii_ge_t hl) (by decide) (by decide) (XS.iloadN X12.here hx rfl (hb hby at_59) rfl  (XS.iload X12.here hx rfl (hb hby at_60) rfl  (XS.icmpNo X12.here hx rfl (hb hby at_62) rfl (XT.ii_ne_f he) (XS.iconst X12.here hx rfl (hb hby at_65) (XS.goto X12.here hx rfl (pc0 := 66) (pc' := 70) rfl (hb hby at_66) (by decide) (by decide) (XS.istore X12.here hx rfl (hb hby at_70) rfl  (l' := #[.val (.int p0), .val (.int p1), .val (.int p2), .val (.int p3), .val (.int (1 : Int32)), .val (.int p2), .val (.ref ro1), .val (.double (FP.l2d p1.toInt64)), .second, .val (.double (FP.l2d p2.toInt64)), .second, .val (.int (0 : Int32)), .val (.int (0 : Int32)), .unset]) rfl (XS.iload X12.here hx rfl (hb hby at_72) rfl  (XS.ifYes X12.here hx rfl (pc0 := 74) (pc' := 92) rfl (hb hby at_74) rfl (by decide) (by decide) (by decide) k)))))))))))) ?_
          show Rch p e below _ (T12.setTop (mkF m 92 #[.val (.int p0), .val (.int p1), .val (.int p2), .val (.int p3), .val (.int (1 : Int32)), .val (.int p2), .val (.ref ro1), .val (.double (FP.l2d p1.toInt64)), .second, .val (.double (FP.l2d p2.toInt64)), .second, .val (.int (0 : Int32)), .val (.int (0 : Int32)), .unset] []))
          refine Rch.go (fun t k => XS.iload X12.here hx rfl (hb hby at_92) rfl  (XS.iconst X12.here hx rfl (hb hby at_94) (XS.icmpNo X12.here hx rfl (hb hby at_95) rfl (by decide) (XS.iload X12.here hx rfl (hb hby at_98) rfl  (XS.ifYes X12.here hx rfl (pc0 := 100) (pc' := 107) rfl (hb hby at_100) rfl (by decide) (by decide) (by decide) (XS.iconst X12.here hx rfl (hb hby at_107) (XS.istore X12.here hx rfl (hb hby at_108) rfl  (l' := #[.val (.int p0), .val (.int p1), .val (.int p2), .val (.int p3), .val (.int (1 : Int32)), .val (.int p2), .val (.ref ro1), .val (.double (FP.l2d p1.toInt64)), .second, .val (.double (FP.l2d p2.toInt64)), .second, .val (.int (0 : Int32)), .val (.int (0 : Int32)), .val (.int (0 : Int32))]) rfl (XS.goto X12.here hx rfl (pc0 := 110) (pc' := 188) rfl (hb hby at_110) (by decide) (by decide) (XS.iload X12.here hx rfl (hb hby at_188) rfl  (XS.iload X12.here hx rfl (hb hby at_190) rfl  (XS.icmpNo X12.here hx rfl (hb hby at_192) rfl (by decide) (XS.iconst X12.here hx rfl (hb hby at_195) k)))))))))))) ?_
          show Rch p e below _ (T12.setTop (mkF m 196 #[.val (.int p0), .val (.int p1), .val (.int p2), .val (.int p3), .val (.int (1 : Int32)), .val (.int p2), .val (.ref ro1), .val (.double (FP.l2d p1.toInt64)), .second, .val (.double (FP.l2d p2.toInt64)), .second, .val (.int (0 : Int32)), .val (.int (0 : Int32)), .val (.int (0 : Int32))] [(.int (1 : Int32))]))
          refine Rch.go (fun t k => XS.goto X12.here hx rfl (pc0 := 196) (pc' := 200) rfl (hb hby at_196) (by decide) (by decide) k) ?_
          show Rch p e below _ (T12.setTop (mkF m 200 #[.val (.int p0), .val (.int p1), .val (.int p2), .val (.int p3), .val (.int (1 : Int32)), .val (.int p2), .val (.ref ro1), .val (.double (FP.l2d p1.toInt64)), .second, .val (.double (FP.l2d p2.toInt64)), .second, .val (.int (0 : Int32)), .val (.int (0 : Int32)), .val (.int (0 : Int32))] [(.int (1 : Int32))]))
          refine Rch.val X12 hx (t := .boolean) hret hlk rfl (mayI (by simp)) (hb hby at_200) (by decide) (by decide) ?_
          try rw [e12]
          exact ⟨rfl, N12⟩
        · show Rch p e below _ (T0.setTop (mkF m 22 #[.val (.int p0), .val (.int p1), .val (.int p2), .val (.int p3), .val (.int (1 : Int32)), .val (.int p2), .unset, .unset, .unset, .unset, .unset, .unset, .unset, .unset] []))
          refine Rch.go (fun t k => XS.iload X0.here hx rfl (hb hby at_22) rfl  k) ?_
          show Rch p e below _ (T0.setTop (mkF m 24 #[.val (.int p0), .val (.int p1), .val (.int p2), .val (.int p3), .val (.int (1 : Int32)), .val (.int p2), .unset, .unset, .unset, .unset, .unset, .unset, .unset, .unset] [(.int (1 : Int32))]))
          obtain ⟨v13, T13, L13, X13, Q13, st13⟩ := callSt X0 hx hZ (m7_pick l Z a0 hw ro1 h0 n0 Z0 O0 G.2.2.1) e0 hown (wd_1 hw) (wd_2 hw) (wd_4 hw) (wd_3 hw) (by decide) (hb hby at_24) 0 (by decide) (by decide) (by decide) (by decide) (by rw [hml]; rfl) [(.int (1 : Int32))] [] rfl (lenOf pd_0 rfl) rfl (Nat.le_of_eq rfl) (Ls := #[.val (.int p0), .val (.int p1), .val (.int p2), .val (.int p3), .val (.int (1 : Int32)), .val (.int p2), .unset, .unset, .unset, .unset, .unset, .unset, .unset, .unset])
          obtain ⟨rfl, M13, e13⟩ := Q13
          have N13 := Fr.app N0 M13
          refine Rch.go st13 ?_
          show Rch p e below _ (T13.setTop (mkF m 27 #[.val (.int p0), .val (.int p1), .val (.int p2), .val (.int p3), .val (.int (1 : Int32)), .val (.int p2), .unset, .unset, .unset, .unset, .unset, .unset, .unset, .unset] [(.ref ro1)]))
          refine Rch.go (fun t k => XS.astore X13.here hx rfl (hb hby at_27) rfl rfl (l' := #[.val (.int p0), .val (.int p1), .val (.int p2), .val (.int p3), .val (.int (1 : Int32)), .val (.int p2), .val (.ref ro1), .unset, .unset, .unset, .unset, .unset, .unset, .unset]) rfl (XS.iloadN X13.here hx rfl (hb hby at_29) rfl  k)) ?_
          show Rch p e below _ (T13.setTop (mkF m 30 #[.val (.int p0), .val (.int p1), .val (.int p2), .val (.int p3), .val (.int (1 : Int32)), .val (.int p2), .val (.ref ro1), .unset, .unset, .unset, .unset, .unset, .unset, .unset] [(.int p1)]))
          refine Rch.go (fun t k => XS.i2dS X13.here hx rfl (hb hby at_30) rfl (v := (FP.l2d p1.toInt64)) (i2d_w _) (XS.dstore X13.here hx rfl (hb hby at_31) rfl  (l' := #[.val (.int p0), .val (.int p1), .val (.int p2), .val (.int p3), .val (.int (1 : Int32)), .val (.int p2), .val (.ref ro1), .val (.double (FP.l2d p1.toInt64)), .second, .unset, .unset, .unset, .unset, .unset]) rfl (XS.iload X13.here hx rfl (hb hby at_33) rfl  k))) ?_
          show Rch p e below _ (T13.setTop (mkF m 35 #[.val (.int p0), .val (.int p1), .val (.int p2), .val (.int p3), .val (.int (1 : Int32)), .val (.int p2), .val (.ref ro1), .val (.double (FP.l2d p1.toInt64)), .second, .unset, .unset, .unset, .unset, .unset] [(.int p2)]))
          refine Rch.go (fun t k => XS.i2dS X13.here hx rfl (hb hby at_35) rfl (v := (FP.l2d p2.toInt64)) (i2d_w _) (XS.dstore X13.here hx rfl (hb hby at_36) rfl  (l' := #[.val (.int p0), .val (.int p1), .val (.int p2), .val (.int p3), .val (.int (1 : Int32)), .val (.int p2), .val (.ref ro1), .val (.double (FP.l2d p1.toInt64)), .second, .val (.double (FP.l2d p2.toInt64)), .second, .unset, .unset, .unset]) rfl (XS.aload X13.here hx rfl (hb hby at_38) rfl rfl (XS.dload X13.here hx rfl (hb hby at_40) rfl  (XS.dload X13.here hx rfl (hb hby at_42) rfl  k))))) ?_
          show Rch p e below _ (T13.setTop (mkF m 44 #[.val (.int p0), .val (.int p1), .val (.int p2), .val (.int p3), .val (.int (1 : Int32)), .val (.int p2), .val (.ref ro1), .val (.double (FP.l2d p1.toInt64)), .second, .val (.double (FP.l2d p2.toInt64)), .second, .unset, .unset, .unset] [(.double (FP.l2d p2.toInt64)), (.double (FP.l2d p1.toInt64)), (.ref ro1)]))
          obtain ⟨v14, T14, L14, X14, Q14, st14⟩ := callVi X13 hx hZ (m11_holds l Z a0 hw ro1 (FP.l2d p1.toInt64) (FP.l2d p2.toInt64) h0 n0 Z0 O0 G.2.2.2.1 G.2.2.2.2.2.2.2.2.2.2.2.2.2.1 (own_dg hl he .l)) e13 hown (wd_8 hw) (wd_9 hw) (wd_11 hw) (notFace_of_selects (args := #[]) (mvT hZ (wd_11 hw))) (wd_10 hw) (wd_12 hw) (wd_6 hw) (by decide) (hb hby at_44) 0 (by decide) (by decide) (by decide) (by decide) (by rw [hml]; rfl) ro1 (G.2.2.2.1.ext O0.2) [(.double (FP.l2d p1.toInt64)), (.double (FP.l2d p2.toInt64))] [] rfl (lenOf pd_2 rfl) rfl (Nat.le_of_eq rfl) (Ls := #[.val (.int p0), .val (.int p1), .val (.int p2), .val (.int p3), .val (.int (1 : Int32)), .val (.int p2), .val (.ref ro1), .val (.double (FP.l2d p1.toInt64)), .second, .val (.double (FP.l2d p2.toInt64)), .second, .unset, .unset, .unset])
          obtain ⟨rfl, M14, e14⟩ := Q14
          have N14 := Fr.app N13 M14
          refine Rch.go st14 ?_
          show Rch p e below _ (T14.setTop (mkF m 47 #[.val (.int p0), .val (.int p1), .val (.int p2), .val (.int p3), .val (.int (1 : Int32)), .val (.int p2), .val (.ref ro1), .val (.double (FP.l2d p1.toInt64)), .second, .val (.double (FP.l2d p2.toInt64)), .second, .unset, .unset, .unset] [(.int (1 : Int32))]))
          refine Rch.go (fun t k => XS.istore X14.here hx rfl (hb hby at_47) rfl  (l' := #[.val (.int p0), .val (.int p1), .val (.int p2), .val (.int p3), .val (.int (1 : Int32)), .val (.int p2), .val (.ref ro1), .val (.double (FP.l2d p1.toInt64)), .second, .val (.double (FP.l2d p2.toInt64)), .second, .val (.int (1 : Int32)), .unset, .unset]) rfl (XS.iloadN X14.here hx rfl (hb hby at_49) rfl  (XS.iload X14.here hx rfl (hb hby at_50) rfl  (XS.icmpYes X14.here hx rfl (pc0 := 52) (pc' := 59) rfl (hb hby at_52) rfl (XT.ii_ge_t hl) (by decide) (by decide) (XS.iloadN X14.here hx rfl (hb hby at_59) rfl  (XS.iload X14.here hx rfl (hb hby at_60) rfl  (XS.icmpYes X14.here hx rfl (pc0 := 62) (pc' := 69) rfl (hb hby at_62) rfl (XT.ii_ne_t he) (by decide) (by decide) (XS.iconst X14.here hx rfl (hb hby at_69) (XS.istore X14.here hx rfl (hb hby at_70) rfl  (l' := #[.val (.int p0), .val (.int p1), .val (.int p2), .val (.int p3), .val (.int (1 : Int32)), .val (.int p2), .val (.ref ro1), .val (.double (FP.l2d p1.toInt64)), .second, .val (.double (FP.l2d p2.toInt64)), .second, .val (.int (1 : Int32)), .val (.int (1 : Int32)), .unset]) rfl (XS.iload X14.here hx rfl (hb hby at_72) rfl  (XS.ifYes X14.here hx rfl (pc0 := 74) (pc' := 92) rfl (hb hby at_74) rfl (by decide) (by decide) (by decide) (XS.iload X14.here hx rfl (hb hby at_92) rfl  k)))))))))))) ?_
          show Rch p e below _ (T14.setTop (mkF m 94 #[.val (.int p0), .val (.int p1), .val (.int p2), .val (.int p3), .val (.int (1 : Int32)), .val (.int p2), .val (.ref ro1), .val (.double (FP.l2d p1.toInt64)), .second, .val (.double (FP.l2d p2.toInt64)), .second, .val (.int (1 : Int32)), .val (.int (1 : Int32)), .unset] [(.int (1 : Int32))]))
          refine Rch.go (fun t k => XS.iconst X14.here hx rfl (hb hby at_94) (XS.icmpNo X14.here hx rfl (hb hby at_95) rfl (by decide) (XS.iload X14.here hx rfl (hb hby at_98) rfl  (XS.ifNo X14.here hx rfl (hb hby at_100) rfl (by decide) (XS.iconst X14.here hx rfl (hb hby at_103) (XS.goto X14.here hx rfl (pc0 := 104) (pc' := 108) rfl (hb hby at_104) (by decide) (by decide) (XS.istore X14.here hx rfl (hb hby at_108) rfl  (l' := #[.val (.int p0), .val (.int p1), .val (.int p2), .val (.int p3), .val (.int (1 : Int32)), .val (.int p2), .val (.ref ro1), .val (.double (FP.l2d p1.toInt64)), .second, .val (.double (FP.l2d p2.toInt64)), .second, .val (.int (1 : Int32)), .val (.int (1 : Int32)), .val (.int (1 : Int32))]) rfl (XS.goto X14.here hx rfl (pc0 := 110) (pc' := 188) rfl (hb hby at_110) (by decide) (by decide) (XS.iload X14.here hx rfl (hb hby at_188) rfl  (XS.iload X14.here hx rfl (hb hby at_190) rfl  (XS.icmpNo X14.here hx rfl (hb hby at_192) rfl (by decide) (XS.iconst X14.here hx rfl (hb hby at_195) k)))))))))))) ?_
          show Rch p e below _ (T14.setTop (mkF m 196 #[.val (.int p0), .val (.int p1), .val (.int p2), .val (.int p3), .val (.int (1 : Int32)), .val (.int p2), .val (.ref ro1), .val (.double (FP.l2d p1.toInt64)), .second, .val (.double (FP.l2d p2.toInt64)), .second, .val (.int (1 : Int32)), .val (.int (1 : Int32)), .val (.int (1 : Int32))] [(.int (1 : Int32))]))
          refine Rch.go (fun t k => XS.goto X14.here hx rfl (pc0 := 196) (pc' := 200) rfl (hb hby at_196) (by decide) (by decide) k) ?_
          show Rch p e below _ (T14.setTop (mkF m 200 #[.val (.int p0), .val (.int p1), .val (.int p2), .val (.int p3), .val (.int (1 : Int32)), .val (.int p2), .val (.ref ro1), .val (.double (FP.l2d p1.toInt64)), .second, .val (.double (FP.l2d p2.toInt64)), .second, .val (.int (1 : Int32)), .val (.int (1 : Int32)), .val (.int (1 : Int32))] [(.int (1 : Int32))]))
          refine Rch.val X14 hx (t := .boolean) hret hlk rfl (mayI (by simp)) (hb hby at_200) (by decide) (by decide) ?_
          try rw [e14]
          exact ⟨rfl, N14⟩
    · show Rch p e below _ (T0.setTop (mkF m 12 #[.val (.int p0), .val (.int p1), .val (.int p2), .val (.int p3), .val (.int (1 : Int32)), .unset, .unset, .unset, .unset, .unset, .unset, .unset, .unset, .unset] [(.int (p3 &&& (1 : Int32)))]))
      refine Rch.go (fun t k => XS.ifNo X0.here hx rfl (hb hby at_12) rfl (XT.i0_eq_f hm) (XS.iloadN X0.here hx rfl (hb hby at_15) rfl  (XS.goto X0.here hx rfl (pc0 := 16) (pc' := 20) rfl (hb hby at_16) (by decide) (by decide) (XS.istore X0.here hx rfl (hb hby at_20) rfl  (l' := #[.val (.int p0), .val (.int p1), .val (.int p2), .val (.int p3), .val (.int (1 : Int32)), .val (.int p1), .unset, .unset, .unset, .unset, .unset, .unset, .unset, .unset]) rfl k)))) ?_
      show Rch p e below _ (T0.setTop (mkF m 22 #[.val (.int p0), .val (.int p1), .val (.int p2), .val (.int p3), .val (.int (1 : Int32)), .val (.int p1), .unset, .unset, .unset, .unset, .unset, .unset, .unset, .unset] []))
      refine Rch.go (fun t k => XS.iload X0.here hx rfl (hb hby at_22) rfl  k) ?_
      show Rch p e below _ (T0.setTop (mkF m 24 #[.val (.int p0), .val (.int p1), .val (.int p2), .val (.int p3), .val (.int (1 : Int32)), .val (.int p1), .unset, .unset, .unset, .unset, .unset, .unset, .unset, .unset] [(.int (1 : Int32))]))
      obtain ⟨v15, T15, L15, X15, Q15, st15⟩ := callSt X0 hx hZ (m7_pick l Z a0 hw ro1 h0 n0 Z0 O0 G.2.2.1) e0 hown (wd_1 hw) (wd_2 hw) (wd_4 hw) (wd_3 hw) (by decide) (hb hby at_24) 0 (by decide) (by decide) (by decide) (by decide) (by rw [hml]; rfl) [(.int (1 : Int32))] [] rfl (lenOf pd_0 rfl) rfl (Nat.le_of_eq rfl) (Ls := #[.val (.int p0), .val (.int p1), .val (.int p2), .val (.int p3), .val (.int (1 : Int32)), .val (.int p1), .unset, .unset, .unset, .unset, .unset, .unset, .unset, .unset])
      obtain ⟨rfl, M15, e15⟩ := Q15
      have N15 := Fr.app N0 M15
      refine Rch.go st15 ?_
      show Rch p e below _ (T15.setTop (mkF m 27 #[.val (.int p0), .val (.int p1), .val (.int p2), .val (.int p3), .val (.int (1 : Int32)), .val (.int p1), .unset, .unset, .unset, .unset, .unset, .unset, .unset, .unset] [(.ref ro1)]))
      refine Rch.go (fun t k => XS.astore X15.here hx rfl (hb hby at_27) rfl rfl (l' := #[.val (.int p0), .val (.int p1), .val (.int p2), .val (.int p3), .val (.int (1 : Int32)), .val (.int p1), .val (.ref ro1), .unset, .unset, .unset, .unset, .unset, .unset, .unset]) rfl (XS.iloadN X15.here hx rfl (hb hby at_29) rfl  k)) ?_
      show Rch p e below _ (T15.setTop (mkF m 30 #[.val (.int p0), .val (.int p1), .val (.int p2), .val (.int p3), .val (.int (1 : Int32)), .val (.int p1), .val (.ref ro1), .unset, .unset, .unset, .unset, .unset, .unset, .unset] [(.int p1)]))
      refine Rch.go (fun t k => XS.i2dS X15.here hx rfl (hb hby at_30) rfl (v := (FP.l2d p1.toInt64)) (i2d_w _) (XS.dstore X15.here hx rfl (hb hby at_31) rfl  (l' := #[.val (.int p0), .val (.int p1), .val (.int p2), .val (.int p3), .val (.int (1 : Int32)), .val (.int p1), .val (.ref ro1), .val (.double (FP.l2d p1.toInt64)), .second, .unset, .unset, .unset, .unset, .unset]) rfl (XS.iload X15.here hx rfl (hb hby at_33) rfl  k))) ?_
      show Rch p e below _ (T15.setTop (mkF m 35 #[.val (.int p0), .val (.int p1), .val (.int p2), .val (.int p3), .val (.int (1 : Int32)), .val (.int p1), .val (.ref ro1), .val (.double (FP.l2d p1.toInt64)), .second, .unset, .unset, .unset, .unset, .unset] [(.int p1)]))
      refine Rch.go (fun t k => XS.i2dS X15.here hx rfl (hb hby at_35) rfl (v := (FP.l2d p1.toInt64)) (i2d_w _) (XS.dstore X15.here hx rfl (hb hby at_36) rfl  (l' := #[.val (.int p0), .val (.int p1), .val (.int p2), .val (.int p3), .val (.int (1 : Int32)), .val (.int p1), .val (.ref ro1), .val (.double (FP.l2d p1.toInt64)), .second, .val (.double (FP.l2d p1.toInt64)), .second, .unset, .unset, .unset]) rfl (XS.aload X15.here hx rfl (hb hby at_38) rfl rfl (XS.dload X15.here hx rfl (hb hby at_40) rfl  (XS.dload X15.here hx rfl (hb hby at_42) rfl  k))))) ?_
      show Rch p e below _ (T15.setTop (mkF m 44 #[.val (.int p0), .val (.int p1), .val (.int p2), .val (.int p3), .val (.int (1 : Int32)), .val (.int p1), .val (.ref ro1), .val (.double (FP.l2d p1.toInt64)), .second, .val (.double (FP.l2d p1.toInt64)), .second, .unset, .unset, .unset] [(.double (FP.l2d p1.toInt64)), (.double (FP.l2d p1.toInt64)), (.ref ro1)]))
      obtain ⟨v16, T16, L16, X16, Q16, st16⟩ := callVi X15 hx hZ (m12_holds l Z a0 hw ro1 (FP.l2d p1.toInt64) h0 n0 Z0 O0 G.2.2.2.1 G.2.2.2.2.2.2.2.2.2.2.2.2.2.1 (own_de rfl .l)) e15 hown (wd_8 hw) (wd_9 hw) (wd_11 hw) (notFace_of_selects (args := #[]) (mvT hZ (wd_11 hw))) (wd_10 hw) (wd_12 hw) (wd_6 hw) (by decide) (hb hby at_44) 0 (by decide) (by decide) (by decide) (by decide) (by rw [hml]; rfl) ro1 (G.2.2.2.1.ext O0.2) [(.double (FP.l2d p1.toInt64)), (.double (FP.l2d p1.toInt64))] [] rfl (lenOf pd_2 rfl) rfl (Nat.le_of_eq rfl) (Ls := #[.val (.int p0), .val (.int p1), .val (.int p2), .val (.int p3), .val (.int (1 : Int32)), .val (.int p1), .val (.ref ro1), .val (.double (FP.l2d p1.toInt64)), .second, .val (.double (FP.l2d p1.toInt64)), .second, .unset, .unset, .unset])
      obtain ⟨rfl, M16, e16⟩ := Q16
      have N16 := Fr.app N15 M16
      refine Rch.go st16 ?_
      show Rch p e below _ (T16.setTop (mkF m 47 #[.val (.int p0), .val (.int p1), .val (.int p2), .val (.int p3), .val (.int (1 : Int32)), .val (.int p1), .val (.ref ro1), .val (.double (FP.l2d p1.toInt64)), .second, .val (.double (FP.l2d p1.toInt64)), .second, .unset, .unset, .unset] [(.int (0 : Int32))]))
      refine Rch.go (fun t k => XS.istore X16.here hx rfl (hb hby at_47) rfl  (l' := #[.val (.int p0), .val (.int p1), .val (.int p2), .val (.int p3), .val (.int (1 : Int32)), .val (.int p1), .val (.ref ro1), .val (.double (FP.l2d p1.toInt64)), .second, .val (.double (FP.l2d p1.toInt64)), .second, .val (.int (0 : Int32)), .unset, .unset]) rfl (XS.iloadN X16.here hx rfl (hb hby at_49) rfl  (XS.iload X16.here hx rfl (hb hby at_50) rfl  (XS.icmpYes X16.here hx rfl (pc0 := 52) (pc' := 59) rfl (hb hby at_52) rfl (XT.ii_ge_t Int32.lt_irrefl) (by decide) (by decide) (XS.iloadN X16.here hx rfl (hb hby at_59) rfl  (XS.iload X16.here hx rfl (hb hby at_60) rfl  (XS.icmpNo X16.here hx rfl (hb hby at_62) rfl (XT.ii_ne_f rfl) (XS.iconst X16.here hx rfl (hb hby at_65) (XS.goto X16.here hx rfl (pc0 := 66) (pc' := 70) rfl (hb hby at_66) (by decide) (by decide) (XS.istore X16.here hx rfl (hb hby at_70) rfl  (l' := #[.val (.int p0), .val (.int p1), .val (.int p2), .val (.int p3), .val (.int (1 : Int32)), .val (.int p1), .val (.ref ro1), .val (.double (FP.l2d p1.toInt64)), .second, .val (.double (FP.l2d p1.toInt64)), .second, .val (.int (0 : Int32)), .val (.int (0 : Int32)), .unset]) rfl (XS.iload X16.here hx rfl (hb hby at_72) rfl  (XS.ifYes X16.here hx rfl (pc0 := 74) (pc' := 92) rfl (hb hby at_74) rfl (by decide) (by decide) (by decide) k)))))))))))) ?_
      show Rch p e below _ (T16.setTop (mkF m 92 #[.val (.int p0), .val (.int p1), .val (.int p2), .val (.int p3), .val (.int (1 : Int32)), .val (.int p1), .val (.ref ro1), .val (.double (FP.l2d p1.toInt64)), .second, .val (.double (FP.l2d p1.toInt64)), .second, .val (.int (0 : Int32)), .val (.int (0 : Int32)), .unset] []))
      refine Rch.go (fun t k => XS.iload X16.here hx rfl (hb hby at_92) rfl  (XS.iconst X16.here hx rfl (hb hby at_94) (XS.icmpNo X16.here hx rfl (hb hby at_95) rfl (by decide) (XS.iload X16.here hx rfl (hb hby at_98) rfl  (XS.ifYes X16.here hx rfl (pc0 := 100) (pc' := 107) rfl (hb hby at_100) rfl (by decide) (by decide) (by decide) (XS.iconst X16.here hx rfl (hb hby at_107) (XS.istore X16.here hx rfl (hb hby at_108) rfl  (l' := #[.val (.int p0), .val (.int p1), .val (.int p2), .val (.int p3), .val (.int (1 : Int32)), .val (.int p1), .val (.ref ro1), .val (.double (FP.l2d p1.toInt64)), .second, .val (.double (FP.l2d p1.toInt64)), .second, .val (.int (0 : Int32)), .val (.int (0 : Int32)), .val (.int (0 : Int32))]) rfl (XS.goto X16.here hx rfl (pc0 := 110) (pc' := 188) rfl (hb hby at_110) (by decide) (by decide) (XS.iload X16.here hx rfl (hb hby at_188) rfl  (XS.iload X16.here hx rfl (hb hby at_190) rfl  (XS.icmpNo X16.here hx rfl (hb hby at_192) rfl (by decide) (XS.iconst X16.here hx rfl (hb hby at_195) k)))))))))))) ?_
      show Rch p e below _ (T16.setTop (mkF m 196 #[.val (.int p0), .val (.int p1), .val (.int p2), .val (.int p3), .val (.int (1 : Int32)), .val (.int p1), .val (.ref ro1), .val (.double (FP.l2d p1.toInt64)), .second, .val (.double (FP.l2d p1.toInt64)), .second, .val (.int (0 : Int32)), .val (.int (0 : Int32)), .val (.int (0 : Int32))] [(.int (1 : Int32))]))
      refine Rch.go (fun t k => XS.goto X16.here hx rfl (pc0 := 196) (pc' := 200) rfl (hb hby at_196) (by decide) (by decide) k) ?_
      show Rch p e below _ (T16.setTop (mkF m 200 #[.val (.int p0), .val (.int p1), .val (.int p2), .val (.int p3), .val (.int (1 : Int32)), .val (.int p1), .val (.ref ro1), .val (.double (FP.l2d p1.toInt64)), .second, .val (.double (FP.l2d p1.toInt64)), .second, .val (.int (0 : Int32)), .val (.int (0 : Int32)), .val (.int (0 : Int32))] [(.int (1 : Int32))]))
      refine Rch.val X16 hx (t := .boolean) hret hlk rfl (mayI (by simp)) (hb hby at_200) (by decide) (by decide) ?_
      try rw [e16]
      exact ⟨rfl, N16⟩
  · rw [hq]
    show Rch p e below _ (T0.setTop (mkF m 7 #[.val (.int p0), .val (.int p1), .val (.int p2), .val (.int p3), .unset, .unset, .unset, .unset, .unset, .unset, .unset, .unset, .unset, .unset] [(.int (2 : Int32))]))
    refine Rch.go (fun t k => XS.istore X0.here hx rfl (hb hby at_7) rfl  (l' := #[.val (.int p0), .val (.int p1), .val (.int p2), .val (.int p3), .val (.int (2 : Int32)), .unset, .unset, .unset, .unset, .unset, .unset, .unset, .unset, .unset]) rfl (XS.iloadN X0.here hx rfl (hb hby at_9) rfl  (XS.iconst X0.here hx rfl (hb hby at_10) (XS.iand X0.here hx rfl (hb hby at_11) rfl k)))) ?_
    show Rch p e below _ (T0.setTop (mkF m 12 #[.val (.int p0), .val (.int p1), .val (.int p2), .val (.int p3), .val (.int (2 : Int32)), .unset, .unset, .unset, .unset, .unset, .unset, .unset, .unset, .unset] [(.int (p3 &&& (1 : Int32)))]))
    by_cases hm : (p3 &&& (1 : Int32)) = (0 : Int32)
    · show Rch p e below _ (T0.setTop (mkF m 12 #[.val (.int p0), .val (.int p1), .val (.int p2), .val (.int p3), .val (.int (2 : Int32)), .unset, .unset, .unset, .unset, .unset, .unset, .unset, .unset, .unset] [(.int (p3 &&& (1 : Int32)))]))
      refine Rch.go (fun t k => XS.ifYes X0.here hx rfl (pc0 := 12) (pc' := 19) rfl (hb hby at_12) rfl (XT.i0_eq_t hm) (by decide) (by decide) (XS.iloadN X0.here hx rfl (hb hby at_19) rfl  (XS.istore X0.here hx rfl (hb hby at_20) rfl  (l' := #[.val (.int p0), .val (.int p1), .val (.int p2), .val (.int p3), .val (.int (2 : Int32)), .val (.int p2), .unset, .unset, .unset, .unset, .unset, .unset, .unset, .unset]) rfl k))) ?_
      show Rch p e below _ (T0.setTop (mkF m 22 #[.val (.int p0), .val (.int p1), .val (.int p2), .val (.int p3), .val (.int (2 : Int32)), .val (.int p2), .unset, .unset, .unset, .unset, .unset, .unset, .unset, .unset] []))
      by_cases hl : p1 < p2
      · show Rch p e below _ (T0.setTop (mkF m 22 #[.val (.int p0), .val (.int p1), .val (.int p2), .val (.int p3), .val (.int (2 : Int32)), .val (.int p2), .unset, .unset, .unset, .unset, .unset, .unset, .unset, .unset] []))
        refine Rch.go (fun t k => XS.iload X0.here hx rfl (hb hby at_22) rfl  k) ?_
        show Rch p e below _ (T0.setTop (mkF m 24 #[.val (.int p0), .val (.int p1), .val (.int p2), .val (.int p3), .val (.int (2 : Int32)), .val (.int p2), .unset, .unset, .unset, .unset, .unset, .unset, .unset, .unset] [(.int (2 : Int32))]))
        obtain ⟨v17, T17, L17, X17, Q17, st17⟩ := callSt X0 hx hZ (m13_pick l Z a0 hw ro5 h0 n0 Z0 O0 G.2.2.2.2.2.2.2.2.2.2.1) e0 hown (wd_1 hw) (wd_2 hw) (wd_4 hw) (wd_3 hw) (by decide) (hb hby at_24) 0 (by decide) (by decide) (by decide) (by decide) (by rw [hml]; rfl) [(.int (2 : Int32))] [] rfl (lenOf pd_0 rfl) rfl (Nat.le_of_eq rfl) (Ls := #[.val (.int p0), .val (.int p1), .val (.int p2), .val (.int p3), .val (.int (2 : Int32)), .val (.int p2), .unset, .unset, .unset, .unset, .unset, .unset, .unset, .unset])
        obtain ⟨rfl, M17, e17⟩ := Q17
        have N17 := Fr.app N0 M17
        refine Rch.go st17 ?_
        show Rch p e below _ (T17.setTop (mkF m 27 #[.val (.int p0), .val (.int p1), .val (.int p2), .val (.int p3), .val (.int (2 : Int32)), .val (.int p2), .unset, .unset, .unset, .unset, .unset, .unset, .unset, .unset] [(.ref ro5)]))
        refine Rch.go (fun t k => XS.astore X17.here hx rfl (hb hby at_27) rfl rfl (l' := #[.val (.int p0), .val (.int p1), .val (.int p2), .val (.int p3), .val (.int (2 : Int32)), .val (.int p2), .val (.ref ro5), .unset, .unset, .unset, .unset, .unset, .unset, .unset]) rfl (XS.iloadN X17.here hx rfl (hb hby at_29) rfl  k)) ?_
        show Rch p e below _ (T17.setTop (mkF m 30 #[.val (.int p0), .val (.int p1), .val (.int p2), .val (.int p3), .val (.int (2 : Int32)), .val (.int p2), .val (.ref ro5), .unset, .unset, .unset, .unset, .unset, .unset, .unset] [(.int p1)]))
        refine Rch.go (fun t k => XS.i2dS X17.here hx rfl (hb hby at_30) rfl (v := (FP.l2d p1.toInt64)) (i2d_w _) (XS.dstore X17.here hx rfl (hb hby at_31) rfl  (l' := #[.val (.int p0), .val (.int p1), .val (.int p2), .val (.int p3), .val (.int (2 : Int32)), .val (.int p2), .val (.ref ro5), .val (.double (FP.l2d p1.toInt64)), .second, .unset, .unset, .unset, .unset, .unset]) rfl (XS.iload X17.here hx rfl (hb hby at_33) rfl  k))) ?_
        show Rch p e below _ (T17.setTop (mkF m 35 #[.val (.int p0), .val (.int p1), .val (.int p2), .val (.int p3), .val (.int (2 : Int32)), .val (.int p2), .val (.ref ro5), .val (.double (FP.l2d p1.toInt64)), .second, .unset, .unset, .unset, .unset, .unset] [(.int p2)]))
        refine Rch.go (fun t k => XS.i2dS X17.here hx rfl (hb hby at_35) rfl (v := (FP.l2d p2.toInt64)) (i2d_w _) (XS.dstore X17.here hx rfl (hb hby at_36) rfl  (l' := #[.val (.int p0), .val (.int p1), .val (.int p2), .val (.int p3), .val (.int (2 : Int32)), .val (.int p2), .val (.ref ro5), .val (.double (FP.l2d p1.toInt64)), .second, .val (.double (FP.l2d p2.toInt64)), .second, .unset, .unset, .unset]) rfl (XS.aload X17.here hx rfl (hb hby at_38) rfl rfl (XS.dload X17.here hx rfl (hb hby at_40) rfl  (XS.dload X17.here hx rfl (hb hby at_42) rfl  k))))) ?_
        show Rch p e below _ (T17.setTop (mkF m 44 #[.val (.int p0), .val (.int p1), .val (.int p2), .val (.int p3), .val (.int (2 : Int32)), .val (.int p2), .val (.ref ro5), .val (.double (FP.l2d p1.toInt64)), .second, .val (.double (FP.l2d p2.toInt64)), .second, .unset, .unset, .unset] [(.double (FP.l2d p2.toInt64)), (.double (FP.l2d p1.toInt64)), (.ref ro5)]))
        obtain ⟨v18, T18, L18, X18, Q18, st18⟩ := callVi X17 hx hZ (m14_holds l Z a0 hw ro5 (FP.l2d p1.toInt64) (FP.l2d p2.toInt64) h0 n0 Z0 O0 G.2.2.2.2.2.2.2.2.2.2.2.1 G.2.2.2.2.2.2.2.2.2.2.2.2.2.2.2.2.2 (own_dl hl .g)) e17 hown (wd_8 hw) (wd_9 hw) (wd_11 hw) (notFace_of_selects (args := #[]) (mvT hZ (wd_11 hw))) (wd_10 hw) (wd_12 hw) (wd_6 hw) (by decide) (hb hby at_44) 0 (by decide) (by decide) (by decide) (by decide) (by rw [hml]; rfl) ro5 (G.2.2.2.2.2.2.2.2.2.2.2.1.ext O0.2) [(.double (FP.l2d p1.toInt64)), (.double (FP.l2d p2.toInt64))] [] rfl (lenOf pd_2 rfl) rfl (Nat.le_of_eq rfl) (Ls := #[.val (.int p0), .val (.int p1), .val (.int p2), .val (.int p3), .val (.int (2 : Int32)), .val (.int p2), .val (.ref ro5), .val (.double (FP.l2d p1.toInt64)), .second, .val (.double (FP.l2d p2.toInt64)), .second, .unset, .unset, .unset])
        obtain ⟨rfl, M18, e18⟩ := Q18
        have N18 := Fr.app N17 M18
        refine Rch.go st18 ?_
        show Rch p e below _ (T18.setTop (mkF m 47 #[.val (.int p0), .val (.int p1), .val (.int p2), .val (.int p3), .val (.int (2 : Int32)), .val (.int p2), .val (.ref ro5), .val (.double (FP.l2d p1.toInt64)), .second, .val (.double (FP.l2d p2.toInt64)), .second, .unset, .unset, .unset] [(.int (1 : Int32))]))
        refine Rch.go (fun t k => XS.istore X18.here hx rfl (hb hby at_47) rfl  (l' := #[.val (.int p0), .val (.int p1), .val (.int p2), .val (.int p3), .val (.int (2 : Int32)), .val (.int p2), .val (.ref ro5), .val (.double (FP.l2d p1.toInt64)), .second, .val (.double (FP.l2d p2.toInt64)), .second, .val (.int (1 : Int32)), .unset, .unset]) rfl (XS.iloadN X18.here hx rfl (hb hby at_49) rfl  (XS.iload X18.here hx rfl (hb hby at_50) rfl  (XS.icmpNo X18.here hx rfl (hb hby at_52) rfl (XT.ii_ge_f hl) (XS.iconst X18.here hx rfl (hb hby at_55) (XS.goto X18.here hx rfl (pc0 := 56) (pc' := 70) rfl (hb hby at_56) (by decide) (by decide) (XS.istore X18.here hx rfl (hb hby at_70) rfl  (l' := #[.val (.int p0), .val (.int p1), .val (.int p2), .val (.int p3), .val (.int (2 : Int32)), .val (.int p2), .val (.ref ro5), .val (.double (FP.l2d p1.toInt64)), .second, .val (.double (FP.l2d p2.toInt64)), .second, .val (.int (1 : Int32)), .val (.int (-1 : Int32)), .unset]) rfl (XS.iload X18.here hx rfl (hb hby at_72) rfl  (XS.ifYes X18.here hx rfl (pc0 := 74) (pc' := 92) rfl (hb hby at_74) rfl (by decide) (by decide) (by decide) (XS.iload X18.here hx rfl (hb hby at_92) rfl  (XS.iconst X18.here hx rfl (hb hby at_94) (XS.icmpYes X18.here hx rfl (pc0 := 95) (pc' := 113) rfl (hb hby at_95) rfl (by decide) (by decide) (by decide) k)))))))))))) ?_
        show Rch p e below _ (T18.setTop (mkF m 113 #[.val (.int p0), .val (.int p1), .val (.int p2), .val (.int p3), .val (.int (2 : Int32)), .val (.int p2), .val (.ref ro5), .val (.double (FP.l2d p1.toInt64)), .second, .val (.double (FP.l2d p2.toInt64)), .second, .val (.int (1 : Int32)), .val (.int (-1 : Int32)), .unset] []))
        refine Rch.go (fun t k => XS.iload X18.here hx rfl (hb hby at_113) rfl  (XS.iconst X18.here hx rfl (hb hby at_115) (XS.icmpNo X18.here hx rfl (hb hby at_116) rfl (by decide) (XS.iload X18.here hx rfl (hb hby at_119) rfl  (XS.ifNo X18.here hx rfl (hb hby at_121) rfl (by decide) (XS.iconst X18.here hx rfl (hb hby at_124) (XS.goto X18.here hx rfl (pc0 := 125) (pc' := 129) rfl (hb hby at_125) (by decide) (by decide) (XS.istore X18.here hx rfl (hb hby at_129) rfl  (l' := #[.val (.int p0), .val (.int p1), .val (.int p2), .val (.int p3), .val (.int (2 : Int32)), .val (.int p2), .val (.ref ro5), .val (.double (FP.l2d p1.toInt64)), .second, .val (.double (FP.l2d p2.toInt64)), .second, .val (.int (1 : Int32)), .val (.int (-1 : Int32)), .val (.int (1 : Int32))]) rfl (XS.goto X18.here hx rfl (pc0 := 131) (pc' := 188) rfl (hb hby at_131) (by decide) (by decide) (XS.iload X18.here hx rfl (hb hby at_188) rfl  (XS.iload X18.here hx rfl (hb hby at_190) rfl  (XS.icmpNo X18.here hx rfl (hb hby at_192) rfl (by decide) k)))))))))))) ?_
        show Rch p e below _ (T18.setTop (mkF m 195 #[.val (.int p0), .val (.int p1), .val (.int p2), .val (.int p3), .val (.int (2 : Int32)), .val (.int p2), .val (.ref ro5), .val (.double (FP.l2d p1.toInt64)), .second, .val (.double (FP.l2d p2.toInt64)), .second, .val (.int (1 : Int32)), .val (.int (-1 : Int32)), .val (.int (1 : Int32))] []))
        refine Rch.go (fun t k => XS.iconst X18.here hx rfl (hb hby at_195) (XS.goto X18.here hx rfl (pc0 := 196) (pc' := 200) rfl (hb hby at_196) (by decide) (by decide) k)) ?_
        show Rch p e below _ (T18.setTop (mkF m 200 #[.val (.int p0), .val (.int p1), .val (.int p2), .val (.int p3), .val (.int (2 : Int32)), .val (.int p2), .val (.ref ro5), .val (.double (FP.l2d p1.toInt64)), .second, .val (.double (FP.l2d p2.toInt64)), .second, .val (.int (1 : Int32)), .val (.int (-1 : Int32)), .val (.int (1 : Int32))] [(.int (1 : Int32))]))
        refine Rch.val X18 hx (t := .boolean) hret hlk rfl (mayI (by simp)) (hb hby at_200) (by decide) (by decide) ?_
        try rw [e18]
        exact ⟨rfl, N18⟩
      · by_cases he : p1 = p2
        · show Rch p e below _ (T0.setTop (mkF m 22 #[.val (.int p0), .val (.int p1), .val (.int p2), .val (.int p3), .val (.int (2 : Int32)), .val (.int p2), .unset, .unset, .unset, .unset, .unset, .unset, .unset, .unset] []))
          refine Rch.go (fun t k => XS.iload X0.here hx rfl (hb hby at_22) rfl  k) ?_
          show Rch p e below _ (T0.setTop (mkF m 24 #[.val (.int p0), .val (.int p1), .val (.int p2), .val (.int p3), .val (.int (2 : Int32)), .val (.int p2), .unset, .unset, .unset, .unset, .unset, .unset, .unset, .unset] [(.int (2 : Int32))]))
          obtain ⟨v19, T19, L19, X19, Q19, st19⟩ := callSt X0 hx hZ (m13_pick l Z a0 hw ro5 h0 n0 Z0 O0 G.2.2.2.2.2.2.2.2.2.2.1) e0 hown (wd_1 hw) (wd_2 hw) (wd_4 hw) (wd_3 hw) (by decide) (hb hby at_24) 0 (by decide) (by decide) (by decide) (by decide) (by rw [hml]; rfl) [(.int (2 : Int32))] [] rfl (lenOf pd_0 rfl) rfl (Nat.le_of_eq rfl) (Ls := #[.val (.int p0), .val (.int p1), .val (.int p2), .val (.int p3), .val (.int (2 : Int32)), .val (.int p2), .unset, .unset, .unset, .unset, .unset, .unset, .unset, .unset])
          obtain ⟨rfl, M19, e19⟩ := Q19
          have N19 := Fr.app N0 M19
          refine Rch.go st19 ?_
          show Rch p e below _ (T19.setTop (mkF m 27 #[.val (.int p0), .val (.int p1), .val (.int p2), .val (.int p3), .val (.int (2 : Int32)), .val (.int p2), .unset, .unset, .unset, .unset, .unset, .unset, .unset, .unset] [(.ref ro5)]))
          refine Rch.go (fun t k => XS.astore X19.here hx rfl (hb hby at_27) rfl rfl (l' := #[.val (.int p0), .val (.int p1), .val (.int p2), .val (.int p3), .val (.int (2 : Int32)), .val (.int p2), .val (.ref ro5), .unset, .unset, .unset, .unset, .unset, .unset, .unset]) rfl (XS.iloadN X19.here hx rfl (hb hby at_29) rfl  k)) ?_
          show Rch p e below _ (T19.setTop (mkF m 30 #[.val (.int p0), .val (.int p1), .val (.int p2), .val (.int p3), .val (.int (2 : Int32)), .val (.int p2), .val (.ref ro5), .unset, .unset, .unset, .unset, .unset, .unset, .unset] [(.int p1)]))
          refine Rch.go (fun t k => XS.i2dS X19.here hx rfl (hb hby at_30) rfl (v := (FP.l2d p1.toInt64)) (i2d_w _) (XS.dstore X19.here hx rfl (hb hby at_31) rfl  (l' := #[.val (.int p0), .val (.int p1), .val (.int p2), .val (.int p3), .val (.int (2 : Int32)), .val (.int p2), .val (.ref ro5), .val (.double (FP.l2d p1.toInt64)), .second, .unset, .unset, .unset, .unset, .unset]) rfl (XS.iload X19.here hx rfl (hb hby at_33) rfl  k))) ?_
          show Rch p e below _ (T19.setTop (mkF m 35 #[.val (.int p0), .val (.int p1), .val (.int p2), .val (.int p3), .val (.int (2 : Int32)), .val (.int p2), .val (.ref ro5), .val (.double (FP.l2d p1.toInt64)), .second, .unset, .unset, .unset, .unset, .unset] [(.int p2)]))
          refine Rch.go (fun t k => XS.i2dS X19.here hx rfl (hb hby at_35) rfl (v := (FP.l2d p2.toInt64)) (i2d_w _) (XS.dstore X19.here hx rfl (hb hby at_36) rfl  (l' := #[.val (.int p0), .val (.int p1), .val (.int p2), .val (.int p3), .val (.int (2 : Int32)), .val (.int p2), .val (.ref ro5), .val (.double (FP.l2d p1.toInt64)), .second, .val (.double (FP.l2d p2.toInt64)), .second, .unset, .unset, .unset]) rfl (XS.aload X19.here hx rfl (hb hby at_38) rfl rfl (XS.dload X19.here hx rfl (hb hby at_40) rfl  (XS.dload X19.here hx rfl (hb hby at_42) rfl  k))))) ?_
          show Rch p e below _ (T19.setTop (mkF m 44 #[.val (.int p0), .val (.int p1), .val (.int p2), .val (.int p3), .val (.int (2 : Int32)), .val (.int p2), .val (.ref ro5), .val (.double (FP.l2d p1.toInt64)), .second, .val (.double (FP.l2d p2.toInt64)), .second, .unset, .unset, .unset] [(.double (FP.l2d p2.toInt64)), (.double (FP.l2d p1.toInt64)), (.ref ro5)]))
          obtain ⟨v20, T20, L20, X20, Q20, st20⟩ := callVi X19 hx hZ (m16_holds l Z a0 hw ro5 (FP.l2d p1.toInt64) (FP.l2d p2.toInt64) h0 n0 Z0 O0 G.2.2.2.2.2.2.2.2.2.2.2.1 G.2.2.2.2.2.2.2.2.2.2.2.2.2.2.2.2.2 (own_de he .g)) e19 hown (wd_8 hw) (wd_9 hw) (wd_11 hw) (notFace_of_selects (args := #[]) (mvT hZ (wd_11 hw))) (wd_10 hw) (wd_12 hw) (wd_6 hw) (by decide) (hb hby at_44) 0 (by decide) (by decide) (by decide) (by decide) (by rw [hml]; rfl) ro5 (G.2.2.2.2.2.2.2.2.2.2.2.1.ext O0.2) [(.double (FP.l2d p1.toInt64)), (.double (FP.l2d p2.toInt64))] [] rfl (lenOf pd_2 rfl) rfl (Nat.le_of_eq rfl) (Ls := #[.val (.int p0), .val (.int p1), .val (.int p2), .val (.int p3), .val (.int (2 : Int32)), .val (.int p2), .val (.ref ro5), .val (.double (FP.l2d p1.toInt64)), .second, .val (.double (FP.l2d p2.toInt64)), .second, .unset, .unset, .unset])
          obtain ⟨rfl, M20, e20⟩ := Q20
          have N20 := Fr.app N19 M20
          refine Rch.go st20 ?_
          show Rch p e below _ (T20.setTop (mkF m 47 #[.val (.int p0), .val (.int p1), .val (.int p2), .val (.int p3), .val (.int (2 : Int32)), .val (.int p2), .val (.ref ro5), .val (.double (FP.l2d p1.toInt64)), .second, .val (.double (FP.l2d p2.toInt64)), .second, .unset, .unset, .unset] [(.int (1 : Int32))]))
          refine Rch.go (fun t k => XS.istore X20.here hx rfl (hb hby at_47) rfl  (l' := #[.val (.int p0), .val (.int p1), .val (.int p2), .val (.int p3), .val (.int (2 : Int32)), .val (.int p2), .val (.ref ro5), .val (.double (FP.l2d p1.toInt64)), .second, .val (.double (FP.l2d p2.toInt64)), .second, .val (.int (1 : Int32)), .unset, .unset]) rfl (XS.iloadN X20.here hx rfl (hb hby at_49) rfl  (XS.iload X20.here hx rfl (hb hby at_50) rfl  (XS.icmpYes X20.here hx rfl (pc0 := 52) (pc' := 59) rfl (hb hby at_52) rfl (XT.ii_ge_t hl) (by decide) (by decide) (XS.iloadN X20.here hx rfl (hb hby at_59) rfl  (XS.iload X20.here hx rfl (hb hby at_60) rfl  (XS.icmpNo X20.here hx rfl (hb hby at_62) rfl (XT.ii_ne_f he) (XS.iconst X20.here hx rfl (hb hby at_65) (XS.goto X20.here hx rfl (pc0 := 66) (pc' := 70) rfl (hb hby at_66) (by decide) (by decide) (XS.istore X20.here hx rfl (hb hby at_70) rfl  (l' := #[.val (.int p0), .val (.int p1), .val (.int p2), .val (.int p3), .val (.int (2 : Int32)), .val (.int p2), .val (.ref ro5), .val (.double (FP.l2d p1.toInt64)), .second, .val (.double (FP.l2d p2.toInt64)), .second, .val (.int (1 : Int32)), .val (.int (0 : Int32)), .unset]) rfl (XS.iload X20.here hx rfl (hb hby at_72) rfl  (XS.ifYes X20.here hx rfl (pc0 := 74) (pc' := 92) rfl (hb hby at_74) rfl (by decide) (by decide) (by decide) k)))))))))))) ?_
          show Rch p e below _ (T20.setTop (mkF m 92 #[.val (.int p0), .val (.int p1), .val (.int p2), .val (.int p3), .val (.int (2 : Int32)), .val (.int p2), .val (.ref ro5), .val (.double (FP.l2d p1.toInt64)), .second, .val (.double (FP.l2d p2.toInt64)), .second, .val (.int (1 : Int32)), .val (.int (0 : Int32)), .unset] []))
          refine Rch.go (fun t k => XS.iload X20.here hx rfl (hb hby at_92) rfl  (XS.iconst X20.here hx rfl (hb hby at_94) (XS.icmpYes X20.here hx rfl (pc0 := 95) (pc' := 113) rfl (hb hby at_95) rfl (by decide) (by decide) (by decide) (XS.iload X20.here hx rfl (hb hby at_113) rfl  (XS.iconst X20.here hx rfl (hb hby at_115) (XS.icmpNo X20.here hx rfl (hb hby at_116) rfl (by decide) (XS.iload X20.here hx rfl (hb hby at_119) rfl  (XS.ifNo X20.here hx rfl (hb hby at_121) rfl (by decide) (XS.iconst X20.here hx rfl (hb hby at_124) (XS.goto X20.here hx rfl (pc0 := 125) (pc' := 129) rfl (hb hby at_125) (by decide) (by decide) (XS.istore X20.here hx rfl (hb hby at_129) rfl  (l' := #[.val (.int p0), .val (.int p1), .val (.int p2), .val (.int p3), .val (.int (2 : Int32)), .val (.int p2), .val (.ref ro5), .val (.double (FP.l2d p1.toInt64)), .second, .val (.double (FP.l2d p2.toInt64)), .second, .val (.int (1 : Int32)), .val (.int (0 : Int32)), .val (.int (1 : Int32))]) rfl (XS.goto X20.here hx rfl (pc0 := 131) (pc' := 188) rfl (hb hby at_131) (by decide) (by decide) k)))))))))))) ?_
          show Rch p e below _ (T20.setTop (mkF m 188 #[.val (.int p0), .val (.int p1), .val (.int p2), .val (.int p3), .val (.int (2 : Int32)), .val (.int p2), .val (.ref ro5), .val (.double (FP.l2d p1.toInt64)), .second, .val (.double (FP.l2d p2.toInt64)), .second, .val (.int (1 : Int32)), .val (.int (0 : Int32)), .val (.int (1 : Int32))] []))
          refine Rch.go (fun t k => XS.iload X20.here hx rfl (hb hby at_188) rfl  (XS.iload X20.here hx rfl (hb hby at_190) rfl  (XS.icmpNo X20.here hx rfl (hb hby at_192) rfl (by decide) (XS.iconst X20.here hx rfl (hb hby at_195) (XS.goto X20.here hx rfl (pc0 := 196) (pc' := 200) rfl (hb hby at_196) (by decide) (by decide) k))))) ?_
          show Rch p e below _ (T20.setTop (mkF m 200 #[.val (.int p0), .val (.int p1), .val (.int p2), .val (.int p3), .val (.int (2 : Int32)), .val (.int p2), .val (.ref ro5), .val (.double (FP.l2d p1.toInt64)), .second, .val (.double (FP.l2d p2.toInt64)), .second, .val (.int (1 : Int32)), .val (.int (0 : Int32)), .val (.int (1 : Int32))] [(.int (1 : Int32))]))
          refine Rch.val X20 hx (t := .boolean) hret hlk rfl (mayI (by simp)) (hb hby at_200) (by decide) (by decide) ?_
          try rw [e20]
          exact ⟨rfl, N20⟩
        · show Rch p e below _ (T0.setTop (mkF m 22 #[.val (.int p0), .val (.int p1), .val (.int p2), .val (.int p3), .val (.int (2 : Int32)), .val (.int p2), .unset, .unset, .unset, .unset, .unset, .unset, .unset, .unset] []))
          refine Rch.go (fun t k => XS.iload X0.here hx rfl (hb hby at_22) rfl  k) ?_
          show Rch p e below _ (T0.setTop (mkF m 24 #[.val (.int p0), .val (.int p1), .val (.int p2), .val (.int p3), .val (.int (2 : Int32)), .val (.int p2), .unset, .unset, .unset, .unset, .unset, .unset, .unset, .unset] [(.int (2 : Int32))]))
          obtain ⟨v21, T21, L21, X21, Q21, st21⟩ := callSt X0 hx hZ (m13_pick l Z a0 hw ro5 h0 n0 Z0 O0 G.2.2.2.2.2.2.2.2.2.2.1) e0 hown (wd_1 hw) (wd_2 hw) (wd_4 hw) (wd_3 hw) (by decide) (hb hby at_24) 0 (by decide) (by decide) (by decide) (by decide) (by rw [hml]; rfl) [(.int (2 : Int32))] [] rfl (lenOf pd_0 rfl) rfl (Nat.le_of_eq rfl) (Ls := #[.val (.int p0), .val (.int p1), .val (.int p2), .val (.int p3), .val (.int (2 : Int32)), .val (.int p2), .unset, .unset, .unset, .unset, .unset, .unset, .unset, .unset])
          obtain ⟨rfl, M21, e21⟩ := Q21
          have N21 := Fr.app N0 M21
          refine Rch.go st21 ?_
          show Rch p e below _ (T21.setTop (mkF m 27 #[.val (.int p0), .val (.int p1), .val (.int p2), .val (.int p3), .val (.int (2 : Int32)), .val (.int p2), .unset, .unset, .unset, .unset, .unset, .unset, .unset, .unset] [(.ref ro5)]))
          refine Rch.go (fun t k => XS.astore X21.here hx rfl (hb hby at_27) rfl rfl (l' := #[.val (.int p0), .val (.int p1), .val (.int p2), .val (.int p3), .val (.int (2 : Int32)), .val (.int p2), .val (.ref ro5), .unset, .unset, .unset, .unset, .unset, .unset, .unset]) rfl (XS.iloadN X21.here hx rfl (hb hby at_29) rfl  k)) ?_
          show Rch p e below _ (T21.setTop (mkF m 30 #[.val (.int p0), .val (.int p1), .val (.int p2), .val (.int p3), .val (.int (2 : Int32)), .val (.int p2), .val (.ref ro5), .unset, .unset, .unset, .unset, .unset, .unset, .unset] [(.int p1)]))
          refine Rch.go (fun t k => XS.i2dS X21.here hx rfl (hb hby at_30) rfl (v := (FP.l2d p1.toInt64)) (i2d_w _) (XS.dstore X21.here hx rfl (hb hby at_31) rfl  (l' := #[.val (.int p0), .val (.int p1), .val (.int p2), .val (.int p3), .val (.int (2 : Int32)), .val (.int p2), .val (.ref ro5), .val (.double (FP.l2d p1.toInt64)), .second, .unset, .unset, .unset, .unset, .unset]) rfl (XS.iload X21.here hx rfl (hb hby at_33) rfl  k))) ?_
          show Rch p e below _ (T21.setTop (mkF m 35 #[.val (.int p0), .val (.int p1), .val (.int p2), .val (.int p3), .val (.int (2 : Int32)), .val (.int p2), .val (.ref ro5), .val (.double (FP.l2d p1.toInt64)), .second, .unset, .unset, .unset, .unset, .unset] [(.int p2)]))
          refine Rch.go (fun t k => XS.i2dS X21.here hx rfl (hb hby at_35) rfl (v := (FP.l2d p2.toInt64)) (i2d_w _) (XS.dstore X21.here hx rfl (hb hby at_36) rfl  (l' := #[.val (.int p0), .val (.int p1), .val (.int p2), .val (.int p3), .val (.int (2 : Int32)), .val (.int p2), .val (.ref ro5), .val (.double (FP.l2d p1.toInt64)), .second, .val (.double (FP.l2d p2.toInt64)), .second, .unset, .unset, .unset]) rfl (XS.aload X21.here hx rfl (hb hby at_38) rfl rfl (XS.dload X21.here hx rfl (hb hby at_40) rfl  (XS.dload X21.here hx rfl (hb hby at_42) rfl  k))))) ?_
          show Rch p e below _ (T21.setTop (mkF m 44 #[.val (.int p0), .val (.int p1), .val (.int p2), .val (.int p3), .val (.int (2 : Int32)), .val (.int p2), .val (.ref ro5), .val (.double (FP.l2d p1.toInt64)), .second, .val (.double (FP.l2d p2.toInt64)), .second, .unset, .unset, .unset] [(.double (FP.l2d p2.toInt64)), (.double (FP.l2d p1.toInt64)), (.ref ro5)]))
          obtain ⟨v22, T22, L22, X22, Q22, st22⟩ := callVi X21 hx hZ (m17_holds l Z a0 hw ro5 (FP.l2d p1.toInt64) (FP.l2d p2.toInt64) h0 n0 Z0 O0 G.2.2.2.2.2.2.2.2.2.2.2.1 G.2.2.2.2.2.2.2.2.2.2.2.2.2.2.2.2.2 (own_dg hl he .g)) e21 hown (wd_8 hw) (wd_9 hw) (wd_11 hw) (notFace_of_selects (args := #[]) (mvT hZ (wd_11 hw))) (wd_10 hw) (wd_12 hw) (wd_6 hw) (by decide) (hb hby at_44) 0 (by decide) (by decide) (by decide) (by decide) (by rw [hml]; rfl) ro5 (G.2.2.2.2.2.2.2.2.2.2.2.1.ext O0.2) [(.double (FP.l2d p1.toInt64)), (.double (FP.l2d p2.toInt64))] [] rfl (lenOf pd_2 rfl) rfl (Nat.le_of_eq rfl) (Ls := #[.val (.int p0), .val (.int p1), .val (.int p2), .val (.int p3), .val (.int (2 : Int32)), .val (.int p2), .val (.ref ro5), .val (.double (FP.l2d p1.toInt64)), .second, .val (.double (FP.l2d p2.toInt64)), .second, .unset, .unset, .unset])
          obtain ⟨rfl, M22, e22⟩ := Q22
          have N22 := Fr.app N21 M22
          refine Rch.go st22 ?_
          show Rch p e below _ (T22.setTop (mkF m 47 #[.val (.int p0), .val (.int p1), .val (.int p2), .val (.int p3), .val (.int (2 : Int32)), .val (.int p2), .val (.ref ro5), .val (.double (FP.l2d p1.toInt64)), .second, .val (.double (FP.l2d p2.toInt64)), .second, .unset, .unset, .unset] [(.int (0 : Int32))]))
          refine Rch.go (fun t k => XS.istore X22.here hx rfl (hb hby at_47) rfl  (l' := #[.val (.int p0), .val (.int p1), .val (.int p2), .val (.int p3), .val (.int (2 : Int32)), .val (.int p2), .val (.ref ro5), .val (.double (FP.l2d p1.toInt64)), .second, .val (.double (FP.l2d p2.toInt64)), .second, .val (.int (0 : Int32)), .unset, .unset]) rfl (XS.iloadN X22.here hx rfl (hb hby at_49) rfl  (XS.iload X22.here hx rfl (hb hby at_50) rfl  (XS.icmpYes X22.here hx rfl (pc0 := 52) (pc' := 59) rfl (hb hby at_52) rfl (XT.ii_ge_t hl) (by decide) (by decide) (XS.iloadN X22.here hx rfl (hb hby at_59) rfl  (XS.iload X22.here hx rfl (hb hby at_60) rfl  (XS.icmpYes X22.here hx rfl (pc0 := 62) (pc' := 69) rfl (hb hby at_62) rfl (XT.ii_ne_t he) (by decide) (by decide) (XS.iconst X22.here hx rfl (hb hby at_69) (XS.istore X22.here hx rfl (hb hby at_70) rfl  (l' := #[.val (.int p0), .val (.int p1), .val (.int p2), .val (.int p3), .val (.int (2 : Int32)), .val (.int p2), .val (.ref ro5), .val (.double (FP.l2d p1.toInt64)), .second, .val (.double (FP.l2d p2.toInt64)), .second, .val (.int (0 : Int32)), .val (.int (1 : Int32)), .unset]) rfl (XS.iload X22.here hx rfl (hb hby at_72) rfl  (XS.ifYes X22.here hx rfl (pc0 := 74) (pc' := 92) rfl (hb hby at_74) rfl (by decide) (by decide) (by decide) (XS.iload X22.here hx rfl (hb hby at_92) rfl  k)))))))))))) ?_
          show Rch p e below _ (T22.setTop (mkF m 94 #[.val (.int p0), .val (.int p1), .val (.int p2), .val (.int p3), .val (.int (2 : Int32)), .val (.int p2), .val (.ref ro5), .val (.double (FP.l2d p1.toInt64)), .second, .val (.double (FP.l2d p2.toInt64)), .second, .val (.int (0 : Int32)), .val (.int (1 : Int32)), .unset] [(.int (2 : Int32))]))
          refine Rch.go (fun t k => XS.iconst X22.here hx rfl (hb hby at_94) (XS.icmpYes X22.here hx rfl (pc0 := 95) (pc' := 113) rfl (hb hby at_95) rfl (by decide) (by decide) (by decide) (XS.iload X22.here hx rfl (hb hby at_113) rfl  (XS.iconst X22.here hx rfl (hb hby at_115) (XS.icmpNo X22.here hx rfl (hb hby at_116) rfl (by decide) (XS.iload X22.here hx rfl (hb hby at_119) rfl  (XS.ifYes X22.here hx rfl (pc0 := 121) (pc' := 128) rfl (hb hby at_121) rfl (by decide) (by decide) (by decide) (XS.iconst X22.here hx rfl (hb hby at_128) (XS.istore X22.here hx rfl (hb hby at_129) rfl  (l' := #[.val (.int p0), .val (.int p1), .val (.int p2), .val (.int p3), .val (.int (2 : Int32)), .val (.int p2), .val (.ref ro5), .val (.double (FP.l2d p1.toInt64)), .second, .val (.double (FP.l2d p2.toInt64)), .second, .val (.int (0 : Int32)), .val (.int (1 : Int32)), .val (.int (0 : Int32))]) rfl (XS.goto X22.here hx rfl (pc0 := 131) (pc' := 188) rfl (hb hby at_131) (by decide) (by decide) (XS.iload X22.here hx rfl (hb hby at_188) rfl  (XS.iload X22.here hx rfl (hb hby at_190) rfl  k)))))))))))) ?_
          show Rch p e below _ (T22.setTop (mkF m 192 #[.val (.int p0), .val (.int p1), .val (.int p2), .val (.int p3), .val (.int (2 : Int32)), .val (.int p2), .val (.ref ro5), .val (.double (FP.l2d p1.toInt64)), .second, .val (.double (FP.l2d p2.toInt64)), .second, .val (.int (0 : Int32)), .val (.int (1 : Int32)), .val (.int (0 : Int32))] [(.int (0 : Int32)), (.int (0 : Int32))]))
          refine Rch.go (fun t k => XS.icmpNo X22.here hx rfl (hb hby at_192) rfl (by decide) (XS.iconst X22.here hx rfl (hb hby at_195) (XS.goto X22.here hx rfl (pc0 := 196) (pc' := 200) rfl (hb hby at_196) (by decide) (by decide) k))) ?_
          show Rch p e below _ (T22.setTop (mkF m 200 #[.val (.int p0), .val (.int p1), .val (.int p2), .val (.int p3), .val (.int (2 : Int32)), .val (.int p2), .val (.ref ro5), .val (.double (FP.l2d p1.toInt64)), .second, .val (.double (FP.l2d p2.toInt64)), .second, .val (.int (0 : Int32)), .val (.int (1 : Int32)), .val (.int (0 : Int32))] [(.int (1 : Int32))]))
          refine Rch.val X22 hx (t := .boolean) hret hlk rfl (mayI (by simp)) (hb hby at_200) (by decide) (by decide) ?_
          try rw [e22]
          exact ⟨rfl, N22⟩
    · show Rch p e below _ (T0.setTop (mkF m 12 #[.val (.int p0), .val (.int p1), .val (.int p2), .val (.int p3), .val (.int (2 : Int32)), .unset, .unset, .unset, .unset, .unset, .unset, .unset, .unset, .unset] [(.int (p3 &&& (1 : Int32)))]))
      refine Rch.go (fun t k => XS.ifNo X0.here hx rfl (hb hby at_12) rfl (XT.i0_eq_f hm) (XS.iloadN X0.here hx rfl (hb hby at_15) rfl  (XS.goto X0.here hx rfl (pc0 := 16) (pc' := 20) rfl (hb hby at_16) (by decide) (by decide) (XS.istore X0.here hx rfl (hb hby at_20) rfl  (l' := #[.val (.int p0), .val (.int p1), .val (.int p2), .val (.int p3), .val (.int (2 : Int32)), .val (.int p1), .unset, .unset, .unset, .unset, .unset, .unset, .unset, .unset]) rfl k)))) ?_
      show Rch p e below _ (T0.setTop (mkF m 22 #[.val (.int p0), .val (.int p1), .val (.int p2), .val (.int p3), .val (.int (2 : Int32)), .val (.int p1), .unset, .unset, .unset, .unset, .unset, .unset, .unset, .unset] []))
      refine Rch.go (fun t k => XS.iload X0.here hx rfl (hb hby at_22) rfl  k) ?_
      show Rch p e below _ (T0.setTop (mkF m 24 #[.val (.int p0), .val (.int p1), .val (.int p2), .val (.int p3), .val (.int (2 : Int32)), .val (.int p1), .unset, .unset, .unset, .unset, .unset, .unset, .unset, .unset] [(.int (2 : Int32))]))
      obtain ⟨v23, T23, L23, X23, Q23, st23⟩ := callSt X0 hx hZ (m13_pick l Z a0 hw ro5 h0 n0 Z0 O0 G.2.2.2.2.2.2.2.2.2.2.1) e0 hown (wd_1 hw) (wd_2 hw) (wd_4 hw) (wd_3 hw) (by decide) (hb hby at_24) 0 (by decide) (by decide) (by decide) (by decide) (by rw [hml]; rfl) [(.int (2 : Int32))] [] rfl (lenOf pd_0 rfl) rfl (Nat.le_of_eq rfl) (Ls := #[.val (.int p0), .val (.int p1), .val (.int p2), .val (.int p3), .val (.int (2 : Int32)), .val (.int p1), .unset, .unset, .unset, .unset, .unset, .unset, .unset, .unset])
      obtain ⟨rfl, M23, e23⟩ := Q23
      have N23 := Fr.app N0 M23
      refine Rch.go st23 ?_
      show Rch p e below _ (T23.setTop (mkF m 27 #[.val (.int p0), .val (.int p1), .val (.int p2), .val (.int p3), .val (.int (2 : Int32)), .val (.int p1), .unset, .unset, .unset, .unset, .unset, .unset, .unset, .unset] [(.ref ro5)]))
      refine Rch.go (fun t k => XS.astore X23.here hx rfl (hb hby at_27) rfl rfl (l' := #[.val (.int p0), .val (.int p1), .val (.int p2), .val (.int p3), .val (.int (2 : Int32)), .val (.int p1), .val (.ref ro5), .unset, .unset, .unset, .unset, .unset, .unset, .unset]) rfl (XS.iloadN X23.here hx rfl (hb hby at_29) rfl  k)) ?_
      show Rch p e below _ (T23.setTop (mkF m 30 #[.val (.int p0), .val (.int p1), .val (.int p2), .val (.int p3), .val (.int (2 : Int32)), .val (.int p1), .val (.ref ro5), .unset, .unset, .unset, .unset, .unset, .unset, .unset] [(.int p1)]))
      refine Rch.go (fun t k => XS.i2dS X23.here hx rfl (hb hby at_30) rfl (v := (FP.l2d p1.toInt64)) (i2d_w _) (XS.dstore X23.here hx rfl (hb hby at_31) rfl  (l' := #[.val (.int p0), .val (.int p1), .val (.int p2), .val (.int p3), .val (.int (2 : Int32)), .val (.int p1), .val (.ref ro5), .val (.double (FP.l2d p1.toInt64)), .second, .unset, .unset, .unset, .unset, .unset]) rfl (XS.iload X23.here hx rfl (hb hby at_33) rfl  k))) ?_
      show Rch p e below _ (T23.setTop (mkF m 35 #[.val (.int p0), .val (.int p1), .val (.int p2), .val (.int p3), .val (.int (2 : Int32)), .val (.int p1), .val (.ref ro5), .val (.double (FP.l2d p1.toInt64)), .second, .unset, .unset, .unset, .unset, .unset] [(.int p1)]))
      refine Rch.go (fun t k => XS.i2dS X23.here hx rfl (hb hby at_35) rfl (v := (FP.l2d p1.toInt64)) (i2d_w _) (XS.dstore X23.here hx rfl (hb hby at_36) rfl  (l' := #[.val (.int p0), .val (.int p1), .val (.int p2), .val (.int p3), .val (.int (2 : Int32)), .val (.int p1), .val (.ref ro5), .val (.double (FP.l2d p1.toInt64)), .second, .val (.double (FP.l2d p1.toInt64)), .second, .unset, .unset, .unset]) rfl (XS.aload X23.here hx rfl (hb hby at_38) rfl rfl (XS.dload X23.here hx rfl (hb hby at_40) rfl  (XS.dload X23.here hx rfl (hb hby at_42) rfl  k))))) ?_
      show Rch p e below _ (T23.setTop (mkF m 44 #[.val (.int p0), .val (.int p1), .val (.int p2), .val (.int p3), .val (.int (2 : Int32)), .val (.int p1), .val (.ref ro5), .val (.double (FP.l2d p1.toInt64)), .second, .val (.double (FP.l2d p1.toInt64)), .second, .unset, .unset, .unset] [(.double (FP.l2d p1.toInt64)), (.double (FP.l2d p1.toInt64)), (.ref ro5)]))
      obtain ⟨v24, T24, L24, X24, Q24, st24⟩ := callVi X23 hx hZ (m18_holds l Z a0 hw ro5 (FP.l2d p1.toInt64) h0 n0 Z0 O0 G.2.2.2.2.2.2.2.2.2.2.2.1 G.2.2.2.2.2.2.2.2.2.2.2.2.2.2.2.2.2 (own_de rfl .g)) e23 hown (wd_8 hw) (wd_9 hw) (wd_11 hw) (notFace_of_selects (args := #[]) (mvT hZ (wd_11 hw))) (wd_10 hw) (wd_12 hw) (wd_6 hw) (by decide) (hb hby at_44) 0 (by decide) (by decide) (by decide) (by decide) (by rw [hml]; rfl) ro5 (G.2.2.2.2.2.2.2.2.2.2.2.1.ext O0.2) [(.double (FP.l2d p1.toInt64)), (.double (FP.l2d p1.toInt64))] [] rfl (lenOf pd_2 rfl) rfl (Nat.le_of_eq rfl) (Ls := #[.val (.int p0), .val (.int p1), .val (.int p2), .val (.int p3), .val (.int (2 : Int32)), .val (.int p1), .val (.ref ro5), .val (.double (FP.l2d p1.toInt64)), .second, .val (.double (FP.l2d p1.toInt64)), .second, .unset, .unset, .unset])
      obtain ⟨rfl, M24, e24⟩ := Q24
      have N24 := Fr.app N23 M24
      refine Rch.go st24 ?_
      show Rch p e below _ (T24.setTop (mkF m 47 #[.val (.int p0), .val (.int p1), .val (.int p2), .val (.int p3), .val (.int (2 : Int32)), .val (.int p1), .val (.ref ro5), .val (.double (FP.l2d p1.toInt64)), .second, .val (.double (FP.l2d p1.toInt64)), .second, .unset, .unset, .unset] [(.int (1 : Int32))]))
      refine Rch.go (fun t k => XS.istore X24.here hx rfl (hb hby at_47) rfl  (l' := #[.val (.int p0), .val (.int p1), .val (.int p2), .val (.int p3), .val (.int (2 : Int32)), .val (.int p1), .val (.ref ro5), .val (.double (FP.l2d p1.toInt64)), .second, .val (.double (FP.l2d p1.toInt64)), .second, .val (.int (1 : Int32)), .unset, .unset]) rfl (XS.iloadN X24.here hx rfl (hb hby at_49) rfl  (XS.iload X24.here hx rfl (hb hby at_50) rfl  (XS.icmpYes X24.here hx rfl (pc0 := 52) (pc' := 59) rfl (hb hby at_52) rfl (XT.ii_ge_t Int32.lt_irrefl) (by decide) (by decide) (XS.iloadN X24.here hx rfl (hb hby at_59) rfl  (XS.iload X24.here hx rfl (hb hby at_60) rfl  (XS.icmpNo X24.here hx rfl (hb hby at_62) rfl (XT.ii_ne_f rfl) (XS.iconst X24.here hx rfl (hb hby at_65) (XS.goto X24.here hx rfl (pc0 := 66) (pc' := 70) rfl (hb hby at_66) (by decide) (by decide) (XS.istore X24.here hx rfl (hb hby at_70) rfl  (l' := #[.val (.int p0), .val (.int p1), .val (.int p2), .val (.int p3), .val (.int (2 : Int32)), .val (.int p1), .val (.ref ro5), .val (.double (FP.l2d p1.toInt64)), .second, .val (.double (FP.l2d p1.toInt64)), .second, .val (.int (1 : Int32)), .val (.int (0 : Int32)), .unset]) rfl (XS.iload X24.here hx rfl (hb hby at_72) rfl  (XS.ifYes X24.here hx rfl (pc0 := 74) (pc' := 92) rfl (hb hby at_74) rfl (by decide) (by decide) (by decide) k)))))))))))) ?_
      show Rch p e below _ (T24.setTop (mkF m 92 #[.val (.int p0), .val (.int p1), .val (.int p2), .val (.int p3), .val (.int (2 : Int32)), .val (.int p1), .val (.ref ro5), .val (.double (FP.l2d p1.toInt64)), .second, .val (.double (FP.l2d p1.toInt64)), .second, .val (.int (1 : Int32)), .val (.int (0 : Int32)), .unset] []))
      refine Rch.go (fun t k => XS.iload X24.here hx rfl (hb hby at_92) rfl  (XS.iconst X24.here hx rfl (hb hby at_94) (XS.icmpYes X24.here hx rfl (pc0 := 95) (pc' := 113) rfl (hb hby at_95) rfl (by decide) (by decide) (by decide) (XS.iload X24.here hx rfl (hb hby at_113) rfl  (XS.iconst X24.here hx rfl (hb hby at_115) (XS.icmpNo X24.here hx rfl (hb hby at_116) rfl (by decide) (XS.iload X24.here hx rfl (hb hby at_119) rfl  (XS.ifNo X24.here hx rfl (hb hby at_121) rfl (by decide) (XS.iconst X24.here hx rfl (hb hby at_124) (XS.goto X24.here hx rfl (pc0 := 125) (pc' := 129) rfl (hb hby at_125) (by decide) (by decide) (XS.istore X24.here hx rfl (hb hby at_129) rfl  (l' := #[.val (.int p0), .val (.int p1), .val (.int p2), .val (.int p3), .val (.int (2 : Int32)), .val (.int p1), .val (.ref ro5), .val (.double (FP.l2d p1.toInt64)), .second, .val (.double (FP.l2d p1.toInt64)), .second, .val (.int (1 : Int32)), .val (.int (0 : Int32)), .val (.int (1 : Int32))]) rfl (XS.goto X24.here hx rfl (pc0 := 131) (pc' := 188) rfl (hb hby at_131) (by decide) (by decide) k)))))))))))) ?_
      show Rch p e below _ (T24.setTop (mkF m 188 #[.val (.int p0), .val (.int p1), .val (.int p2), .val (.int p3), .val (.int (2 : Int32)), .val (.int p1), .val (.ref ro5), .val (.double (FP.l2d p1.toInt64)), .second, .val (.double (FP.l2d p1.toInt64)), .second, .val (.int (1 : Int32)), .val (.int (0 : Int32)), .val (.int (1 : Int32))] []))
      refine Rch.go (fun t k => XS.iload X24.here hx rfl (hb hby at_188) rfl  (XS.iload X24.here hx rfl (hb hby at_190) rfl  (XS.icmpNo X24.here hx rfl (hb hby at_192) rfl (by decide) (XS.iconst X24.here hx rfl (hb hby at_195) (XS.goto X24.here hx rfl (pc0 := 196) (pc' := 200) rfl (hb hby at_196) (by decide) (by decide) k))))) ?_
      show Rch p e below _ (T24.setTop (mkF m 200 #[.val (.int p0), .val (.int p1), .val (.int p2), .val (.int p3), .val (.int (2 : Int32)), .val (.int p1), .val (.ref ro5), .val (.double (FP.l2d p1.toInt64)), .second, .val (.double (FP.l2d p1.toInt64)), .second, .val (.int (1 : Int32)), .val (.int (0 : Int32)), .val (.int (1 : Int32))] [(.int (1 : Int32))]))
      refine Rch.val X24 hx (t := .boolean) hret hlk rfl (mayI (by simp)) (hb hby at_200) (by decide) (by decide) ?_
      try rw [e24]
      exact ⟨rfl, N24⟩
  · rw [hq]
    show Rch p e below _ (T0.setTop (mkF m 7 #[.val (.int p0), .val (.int p1), .val (.int p2), .val (.int p3), .unset, .unset, .unset, .unset, .unset, .unset, .unset, .unset, .unset, .unset] [(.int (3 : Int32))]))
    refine Rch.go (fun t k => XS.istore X0.here hx rfl (hb hby at_7) rfl  (l' := #[.val (.int p0), .val (.int p1), .val (.int p2), .val (.int p3), .val (.int (3 : Int32)), .unset, .unset, .unset, .unset, .unset, .unset, .unset, .unset, .unset]) rfl (XS.iloadN X0.here hx rfl (hb hby at_9) rfl  (XS.iconst X0.here hx rfl (hb hby at_10) (XS.iand X0.here hx rfl (hb hby at_11) rfl k)))) ?_
    show Rch p e below _ (T0.setTop (mkF m 12 #[.val (.int p0), .val (.int p1), .val (.int p2), .val (.int p3), .val (.int (3 : Int32)), .unset, .unset, .unset, .unset, .unset, .unset, .unset, .unset, .unset] [(.int (p3 &&& (1 : Int32)))]))
    by_cases hm : (p3 &&& (1 : Int32)) = (0 : Int32)
    · show Rch p e below _ (T0.setTop (mkF m 12 #[.val (.int p0), .val (.int p1), .val (.int p2), .val (.int p3), .val (.int (3 : Int32)), .unset, .unset, .unset, .unset, .unset, .unset, .unset, .unset, .unset] [(.int (p3 &&& (1 : Int32)))]))
      refine Rch.go (fun t k => XS.ifYes X0.here hx rfl (pc0 := 12) (pc' := 19) rfl (hb hby at_12) rfl (XT.i0_eq_t hm) (by decide) (by decide) (XS.iloadN X0.here hx rfl (hb hby at_19) rfl  (XS.istore X0.here hx rfl (hb hby at_20) rfl  (l' := #[.val (.int p0), .val (.int p1), .val (.int p2), .val (.int p3), .val (.int (3 : Int32)), .val (.int p2), .unset, .unset, .unset, .unset, .unset, .unset, .unset, .unset]) rfl k))) ?_
      show Rch p e below _ (T0.setTop (mkF m 22 #[.val (.int p0), .val (.int p1), .val (.int p2), .val (.int p3), .val (.int (3 : Int32)), .val (.int p2), .unset, .unset, .unset, .unset, .unset, .unset, .unset, .unset] []))
      by_cases hl : p1 < p2
      · show Rch p e below _ (T0.setTop (mkF m 22 #[.val (.int p0), .val (.int p1), .val (.int p2), .val (.int p3), .val (.int (3 : Int32)), .val (.int p2), .unset, .unset, .unset, .unset, .unset, .unset, .unset, .unset] []))
        refine Rch.go (fun t k => XS.iload X0.here hx rfl (hb hby at_22) rfl  k) ?_
        show Rch p e below _ (T0.setTop (mkF m 24 #[.val (.int p0), .val (.int p1), .val (.int p2), .val (.int p3), .val (.int (3 : Int32)), .val (.int p2), .unset, .unset, .unset, .unset, .unset, .unset, .unset, .unset] [(.int (3 : Int32))]))
        obtain ⟨v25, T25, L25, X25, Q25, st25⟩ := callSt X0 hx hZ (m19_pick l Z a0 hw ro3 h0 n0 Z0 O0 G.2.2.2.2.2.2.1) e0 hown (wd_1 hw) (wd_2 hw) (wd_4 hw) (wd_3 hw) (by decide) (hb hby at_24) 0 (by decide) (by decide) (by decide) (by decide) (by rw [hml]; rfl) [(.int (3 : Int32))] [] rfl (lenOf pd_0 rfl) rfl (Nat.le_of_eq rfl) (Ls := #[.val (.int p0), .val (.int p1), .val (.int p2), .val (.int p3), .val (.int (3 : Int32)), .val (.int p2), .unset, .unset, .unset, .unset, .unset, .unset, .unset, .unset])
        obtain ⟨rfl, M25, e25⟩ := Q25
        have N25 := Fr.app N0 M25
        refine Rch.go st25 ?_
        show Rch p e below _ (T25.setTop (mkF m 27 #[.val (.int p0), .val (.int p1), .val (.int p2), .val (.int p3), .val (.int (3 : Int32)), .val (.int p2), .unset, .unset, .unset, .unset, .unset, .unset, .unset, .unset] [(.ref ro3)]))
        refine Rch.go (fun t k => XS.astore X25.here hx rfl (hb hby at_27) rfl rfl (l' := #[.val (.int p0), .val (.int p1), .val (.int p2), .val (.int p3), .val (.int (3 : Int32)), .val (.int p2), .val (.ref ro3), .unset, .unset, .unset, .unset, .unset, .unset, .unset]) rfl (XS.iloadN X25.here hx rfl (hb hby at_29) rfl  k)) ?_
        show Rch p e below _ (T25.setTop (mkF m 30 #[.val (.int p0), .val (.int p1), .val (.int p2), .val (.int p3), .val (.int (3 : Int32)), .val (.int p2), .val (.ref ro3), .unset, .unset, .unset, .unset, .unset, .unset, .unset] [(.int p1)]))
        refine Rch.go (fun t k => XS.i2dS X25.here hx rfl (hb hby at_30) rfl (v := (FP.l2d p1.toInt64)) (i2d_w _) (XS.dstore X25.here hx rfl (hb hby at_31) rfl  (l' := #[.val (.int p0), .val (.int p1), .val (.int p2), .val (.int p3), .val (.int (3 : Int32)), .val (.int p2), .val (.ref ro3), .val (.double (FP.l2d p1.toInt64)), .second, .unset, .unset, .unset, .unset, .unset]) rfl (XS.iload X25.here hx rfl (hb hby at_33) rfl  k))) ?_
        show Rch p e below _ (T25.setTop (mkF m 35 #[.val (.int p0), .val (.int p1), .val (.int p2), .val (.int p3), .val (.int (3 : Int32)), .val (.int p2), .val (.ref ro3), .val (.double (FP.l2d p1.toInt64)), .second, .unset, .unset, .unset, .unset, .unset] [(.int p2)]))
        refine Rch.go (fun t k => XS.i2dS X25.here hx rfl (hb hby at_35) rfl (v := (FP.l2d p2.toInt64)) (i2d_w _) (XS.dstore X25.here hx rfl (hb hby at_36) rfl  (l' := #[.val (.int p0), .val (.int p1), .val (.int p2), .val (.int p3), .val (.int (3 : Int32)), .val (.int p2), .val (.ref ro3), .val (.double (FP.l2d p1.toInt64)), .second, .val (.double (FP.l2d p2.toInt64)), .second, .unset, .unset, .unset]) rfl (XS.aload X25.here hx rfl (hb hby at_38) rfl rfl (XS.dload X25.here hx rfl (hb hby at_40) rfl  (XS.dload X25.here hx rfl (hb hby at_42) rfl  k))))) ?_
        show Rch p e below _ (T25.setTop (mkF m 44 #[.val (.int p0), .val (.int p1), .val (.int p2), .val (.int p3), .val (.int (3 : Int32)), .val (.int p2), .val (.ref ro3), .val (.double (FP.l2d p1.toInt64)), .second, .val (.double (FP.l2d p2.toInt64)), .second, .unset, .unset, .unset] [(.double (FP.l2d p2.toInt64)), (.double (FP.l2d p1.toInt64)), (.ref ro3)]))
        obtain ⟨v26, T26, L26, X26, Q26, st26⟩ := callVi X25 hx hZ (m20_holds l Z a0 hw ro3 (FP.l2d p1.toInt64) (FP.l2d p2.toInt64) h0 n0 Z0 O0 G.2.2.2.2.2.2.2.1 G.2.2.2.2.2.2.2.2.2.2.2.2.2.2.2.1 (own_dl hl .g)) e25 hown (wd_8 hw) (wd_9 hw) (wd_11 hw) (notFace_of_selects (args := #[]) (mvT hZ (wd_11 hw))) (wd_10 hw) (wd_12 hw) (wd_6 hw) (by decide) (hb hby at_44) 0 (by decide) (by decide) (by decide) (by decide) (by rw [hml]; rfl) ro3 (G.2.2.2.2.2.2.2.1.ext O0.2) [(.double (FP.l2d p1.toInt64)), (.double (FP.l2d p2.toInt64))] [] rfl (lenOf pd_2 rfl) rfl (Nat.le_of_eq rfl) (Ls := #[.val (.int p0), .val (.int p1), .val (.int p2), .val (.int p3), .val (.int (3 : Int32)), .val (.int p2), .val (.ref ro3), .val (.double (FP.l2d p1.toInt64)), .second, .val (.double (FP.l2d p2.toInt64)), .second, .unset, .unset, .unset])
        obtain ⟨rfl, M26, e26⟩ := Q26
        have N26 := Fr.app N25 M26
        refine Rch.go st26 ?_
        show Rch p e below _ (T26.setTop (mkF m 47 #[.val (.int p0), .val (.int p1), .val (.int p2), .val (.int p3), .val (.int (3 : Int32)), .val (.int p2), .val (.ref ro3), .val (.double (FP.l2d p1.toInt64)), .second, .val (.double (FP.l2d p2.toInt64)), .second, .unset, .unset, .unset] [(.int (1 : Int32))]))
        refine Rch.go (fun t k => XS.istore X26.here hx rfl (hb hby at_47) rfl  (l' := #[.val (.int p0), .val (.int p1), .val (.int p2), .val (.int p3), .val (.int (3 : Int32)), .val (.int p2), .val (.ref ro3), .val (.double (FP.l2d p1.toInt64)), .second, .val (.double (FP.l2d p2.toInt64)), .second, .val (.int (1 : Int32)), .unset, .unset]) rfl (XS.iloadN X26.here hx rfl (hb hby at_49) rfl  (XS.iload X26.here hx rfl (hb hby at_50) rfl  (XS.icmpNo X26.here hx rfl (hb hby at_52) rfl (XT.ii_ge_f hl) (XS.iconst X26.here hx rfl (hb hby at_55) (XS.goto X26.here hx rfl (pc0 := 56) (pc' := 70) rfl (hb hby at_56) (by decide) (by decide) (XS.istore X26.here hx rfl (hb hby at_70) rfl  (l' := #[.val (.int p0), .val (.int p1), .val (.int p2), .val (.int p3), .val (.int (3 : Int32)), .val (.int p2), .val (.ref ro3), .val (.double (FP.l2d p1.toInt64)), .second, .val (.double (FP.l2d p2.toInt64)), .second, .val (.int (1 : Int32)), .val (.int (-1 : Int32)), .unset]) rfl (XS.iload X26.here hx rfl (hb hby at_72) rfl  (XS.ifYes X26.here hx rfl (pc0 := 74) (pc' := 92) rfl (hb hby at_74) rfl (by decide) (by decide) (by decide) (XS.iload X26.here hx rfl (hb hby at_92) rfl  (XS.iconst X26.here hx rfl (hb hby at_94) (XS.icmpYes X26.here hx rfl (pc0 := 95) (pc' := 113) rfl (hb hby at_95) rfl (by decide) (by decide) (by decide) k)))))))))))) ?_
        show Rch p e below _ (T26.setTop (mkF m 113 #[.val (.int p0), .val (.int p1), .val (.int p2), .val (.int p3), .val (.int (3 : Int32)), .val (.int p2), .val (.ref ro3), .val (.double (FP.l2d p1.toInt64)), .second, .val (.double (FP.l2d p2.toInt64)), .second, .val (.int (1 : Int32)), .val (.int (-1 : Int32)), .unset] []))
        refine Rch.go (fun t k => XS.iload X26.here hx rfl (hb hby at_113) rfl  (XS.iconst X26.here hx rfl (hb hby at_115) (XS.icmpYes X26.here hx rfl (pc0 := 116) (pc' := 134) rfl (hb hby at_116) rfl (by decide) (by decide) (by decide) (XS.iload X26.here hx rfl (hb hby at_134) rfl  (XS.iconst X26.here hx rfl (hb hby at_136) (XS.icmpNo X26.here hx rfl (hb hby at_137) rfl (by decide) (XS.iload X26.here hx rfl (hb hby at_140) rfl  (XS.ifNo X26.here hx rfl (hb hby at_142) rfl (by decide) (XS.iconst X26.here hx rfl (hb hby at_145) (XS.goto X26.here hx rfl (pc0 := 146) (pc' := 150) rfl (hb hby at_146) (by decide) (by decide) (XS.istore X26.here hx rfl (hb hby at_150) rfl  (l' := #[.val (.int p0), .val (.int p1), .val (.int p2), .val (.int p3), .val (.int (3 : Int32)), .val (.int p2), .val (.ref ro3), .val (.double (FP.l2d p1.toInt64)), .second, .val (.double (FP.l2d p2.toInt64)), .second, .val (.int (1 : Int32)), .val (.int (-1 : Int32)), .val (.int (1 : Int32))]) rfl (XS.goto X26.here hx rfl (pc0 := 152) (pc' := 188) rfl (hb hby at_152) (by decide) (by decide) k)))))))))))) ?_
        show Rch p e below _ (T26.setTop (mkF m 188 #[.val (.int p0), .val (.int p1), .val (.int p2), .val (.int p3), .val (.int (3 : Int32)), .val (.int p2), .val (.ref ro3), .val (.double (FP.l2d p1.toInt64)), .second, .val (.double (FP.l2d p2.toInt64)), .second, .val (.int (1 : Int32)), .val (.int (-1 : Int32)), .val (.int (1 : Int32))] []))
        refine Rch.go (fun t k => XS.iload X26.here hx rfl (hb hby at_188) rfl  (XS.iload X26.here hx rfl (hb hby at_190) rfl  (XS.icmpNo X26.here hx rfl (hb hby at_192) rfl (by decide) (XS.iconst X26.here hx rfl (hb hby at_195) (XS.goto X26.here hx rfl (pc0 := 196) (pc' := 200) rfl (hb hby at_196) (by decide) (by decide) k))))) ?_
        show Rch p e below _ (T26.setTop (mkF m 200 #[.val (.int p0), .val (.int p1), .val (.int p2), .val (.int p3), .val (.int (3 : Int32)), .val (.int p2), .val (.ref ro3), .val (.double (FP.l2d p1.toInt64)), .second, .val (.double (FP.l2d p2.toInt64)), .second, .val (.int (1 : Int32)), .val (.int (-1 : Int32)), .val (.int (1 : Int32))] [(.int (1 : Int32))]))
        refine Rch.val X26 hx (t := .boolean) hret hlk rfl (mayI (by simp)) (hb hby at_200) (by decide) (by decide) ?_
        try rw [e26]
        exact ⟨rfl, N26⟩
      · by_cases he : p1 = p2
        · show Rch p e below _ (T0.setTop (mkF m 22 #[.val (.int p0), .val (.int p1), .val (.int p2), .val (.int p3), .val (.int (3 : Int32)), .val (.int p2), .unset, .unset, .unset, .unset, .unset, .unset, .unset, .unset] []))
          refine Rch.go (fun t k => XS.iload X0.here hx rfl (hb hby at_22) rfl  k) ?_
          show Rch p e below _ (T0.setTop (mkF m 24 #[.val (.int p0), .val (.int p1), .val (.int p2), .val (.int p3), .val (.int (3 : Int32)), .val (.int p2), .unset, .unset, .unset, .unset, .unset, .unset, .unset, .unset] [(.int (3 : Int32))]))
          obtain ⟨v27, T27, L27, X27, Q27, st27⟩ := callSt X0 hx hZ (m19_pick l Z a0 hw ro3 h0 n0 Z0 O0 G.2.2.2.2.2.2.1) e0 hown (wd_1 hw) (wd_2 hw) (wd_4 hw) (wd_3 hw) (by decide) (hb hby at_24) 0 (by decide) (by decide) (by decide) (by decide) (by rw [hml]; rfl) [(.int (3 : Int32))] [] rfl (lenOf pd_0 rfl) rfl (Nat.le_of_eq rfl) (Ls := #[.val (.int p0), .val (.int p1), .val (.int p2), .val (.int p3), .val (.int (3 : Int32)), .val (.int p2), .unset, .unset, .unset, .unset, .unset, .unset, .unset, .unset])
          obtain ⟨rfl, M27, e27⟩ := Q27
          have N27 := Fr.app N0 M27
          refine Rch.go st27 ?_
          show Rch p e below _ (T27.setTop (mkF m 27 #[.val (.int p0), .val (.int p1), .val (.int p2), .val (.int p3), .val (.int (3 : Int32)), .val (.int p2), .unset, .unset, .unset, .unset, .unset, .unset, .unset, .unset] [(.ref ro3)]))
          refine Rch.go (fun t k => XS.astore X27.here hx rfl (hb hby at_27) rfl rfl (l' := #[.val (.int p0), .val (.int p1), .val (.int p2), .val (.int p3), .val (.int (3 : Int32)), .val (.int p2), .val (.ref ro3), .unset, .unset, .unset, .unset, .unset, .unset, .unset]) rfl (XS.iloadN X27.here hx rfl (hb hby at_29) rfl  k)) ?_
          show Rch p e below _ (T27.setTop (mkF m 30 #[.val (.int p0), .val (.int p1), .val (.int p2), .val (.int p3), .val (.int (3 : Int32)), .val (.int p2), .val (.ref ro3), .unset, .unset, .unset, .unset, .unset, .unset, .unset] [(.int p1)]))
          refine Rch.go (fun t k => XS.i2dS X27.here hx rfl (hb hby at_30) rfl (v := (FP.l2d p1.toInt64)) (i2d_w _) (XS.dstore X27.here hx rfl (hb hby at_31) rfl  (l' := #[.val (.int p0), .val (.int p1), .val (.int p2), .val (.int p3), .val (.int (3 : Int32)), .val (.int p2), .val (.ref ro3), .val (.double (FP.l2d p1.toInt64)), .second, .unset, .unset, .unset, .unset, .unset]) rfl (XS.iload X27.here hx rfl (hb hby at_33) rfl  k))) ?_
          show Rch p e below _ (T27.setTop (mkF m 35 #[.val (.int p0), .val (.int p1), .val (.int p2), .val (.int p3), .val (.int (3 : Int32)), .val (.int p2), .val (.ref ro3), .val (.double (FP.l2d p1.toInt64)), .second, .unset, .unset, .unset, .unset, .unset] [(.int p2)]))
          refine Rch.go (fun t k => XS.i2dS X27.here hx rfl (hb hby at_35) rfl (v := (FP.l2d p2.toInt64)) (i2d_w _) (XS.dstore X27.here hx rfl (hb hby at_36) rfl  (l' := #[.val (.int p0), .val (.int p1), .val (.int p2), .val (.int p3), .val (.int (3 : Int32)), .val (.int p2), .val (.ref ro3), .val (.double (FP.l2d p1.toInt64)), .second, .val (.double (FP.l2d p2.toInt64)), .second, .unset, .unset, .unset]) rfl (XS.aload X27.here hx rfl (hb hby at_38) rfl rfl (XS.dload X27.here hx rfl (hb hby at_40) rfl  (XS.dload X27.here hx rfl (hb hby at_42) rfl  k))))) ?_
          show Rch p e below _ (T27.setTop (mkF m 44 #[.val (.int p0), .val (.int p1), .val (.int p2), .val (.int p3), .val (.int (3 : Int32)), .val (.int p2), .val (.ref ro3), .val (.double (FP.l2d p1.toInt64)), .second, .val (.double (FP.l2d p2.toInt64)), .second, .unset, .unset, .unset] [(.double (FP.l2d p2.toInt64)), (.double (FP.l2d p1.toInt64)), (.ref ro3)]))
          obtain ⟨v28, T28, L28, X28, Q28, st28⟩ := callVi X27 hx hZ (m22_holds l Z a0 hw ro3 (FP.l2d p1.toInt64) (FP.l2d p2.toInt64) h0 n0 Z0 O0 G.2.2.2.2.2.2.2.1 G.2.2.2.2.2.2.2.2.2.2.2.2.2.2.2.1 (own_de he .g)) e27 hown (wd_8 hw) (wd_9 hw) (wd_11 hw) (notFace_of_selects (args := #[]) (mvT hZ (wd_11 hw))) (wd_10 hw) (wd_12 hw) (wd_6 hw) (by decide) (hb hby at_44) 0 (by decide) (by decide) (by decide) (by decide) (by rw [hml]; rfl) ro3 (G.2.2.2.2.2.2.2.1.ext O0.2) [(.double (FP.l2d p1.toInt64)), (.double (FP.l2d p2.toInt64))] [] rfl (lenOf pd_2 rfl) rfl (Nat.le_of_eq rfl) (Ls := #[.val (.int p0), .val (.int p1), .val (.int p2), .val (.int p3), .val (.int (3 : Int32)), .val (.int p2), .val (.ref ro3), .val (.double (FP.l2d p1.toInt64)), .second, .val (.double (FP.l2d p2.toInt64)), .second, .unset, .unset, .unset])
          obtain ⟨rfl, M28, e28⟩ := Q28
          have N28 := Fr.app N27 M28
          refine Rch.go st28 ?_
          show Rch p e below _ (T28.setTop (mkF m 47 #[.val (.int p0), .val (.int p1), .val (.int p2), .val (.int p3), .val (.int (3 : Int32)), .val (.int p2), .val (.ref ro3), .val (.double (FP.l2d p1.toInt64)), .second, .val (.double (FP.l2d p2.toInt64)), .second, .unset, .unset, .unset] [(.int (0 : Int32))]))
          refine Rch.go (fun t k => XS.istore X28.here hx rfl (hb hby at_47) rfl  (l' := #[.val (.int p0), .val (.int p1), .val (.int p2), .val (.int p3), .val (.int (3 : Int32)), .val (.int p2), .val (.ref ro3), .val (.double (FP.l2d p1.toInt64)), .second, .val (.double (FP.l2d p2.toInt64)), .second, .val (.int (0 : Int32)), .unset, .unset]) rfl (XS.iloadN X28.here hx rfl (hb hby at_49) rfl  (XS.iload X28.here hx rfl (hb hby at_50) rfl  (XS.icmpYes X28.here hx rfl (pc0 := 52) (pc' := 59) rfl (hb hby at_52) rfl (XT.ii_ge_t hl) (by decide) (by decide) (XS.iloadN X28.here hx rfl (hb hby at_59) rfl  (XS.iload X28.here hx rfl (hb hby at_60) rfl  (XS.icmpNo X28.here hx rfl (hb hby at_62) rfl (XT.ii_ne_f he) (XS.iconst X28.here hx rfl (hb hby at_65) (XS.goto X28.here hx rfl (pc0 := 66) (pc' := 70) rfl (hb hby at_66) (by decide) (by decide) (XS.istore X28.here hx rfl (hb hby at_70) rfl  (l' := #[.val (.int p0), .val (.int p1), .val (.int p2), .val (.int p3), .val (.int (3 : Int32)), .val (.int p2), .val (.ref ro3), .val (.double (FP.l2d p1.toInt64)), .second, .val (.double (FP.l2d p2.toInt64)), .second, .val (.int (0 : Int32)), .val (.int (0 : Int32)), .unset]) rfl (XS.iload X28.here hx rfl (hb hby at_72) rfl  (XS.ifYes X28.here hx rfl (pc0 := 74) (pc' := 92) rfl (hb hby at_74) rfl (by decide) (by decide) (by decide) k)))))))))))) ?_
          show Rch p e below _ (T28.setTop (mkF m 92 #[.val (.int p0), .val (.int p1), .val (.int p2), .val (.int p3), .val (.int (3 : Int32)), .val (.int p2), .val (.ref ro3), .val (.double (FP.l2d p1.toInt64)), .second, .val (.double (FP.l2d p2.toInt64)), .second, .val (.int (0 : Int32)), .val (.int (0 : Int32)), .unset] []))
          refine Rch.go (fun t k => XS.iload X28.here hx rfl (hb hby at_92) rfl  (XS.iconst X28.here hx rfl (hb hby at_94) (XS.icmpYes X28.here hx rfl (pc0 := 95) (pc' := 113) rfl (hb hby at_95) rfl (by decide) (by decide) (by decide) (XS.iload X28.here hx rfl (hb hby at_113) rfl  (XS.iconst X28.here hx rfl (hb hby at_115) (XS.icmpYes X28.here hx rfl (pc0 := 116) (pc' := 134) rfl (hb hby at_116) rfl (by decide) (by decide) (by decide) (XS.iload X28.here hx rfl (hb hby at_134) rfl  (XS.iconst X28.here hx rfl (hb hby at_136) (XS.icmpNo X28.here hx rfl (hb hby at_137) rfl (by decide) (XS.iload X28.here hx rfl (hb hby at_140) rfl  (XS.ifYes X28.here hx rfl (pc0 := 142) (pc' := 149) rfl (hb hby at_142) rfl (by decide) (by decide) (by decide) (XS.iconst X28.here hx rfl (hb hby at_149) k)))))))))))) ?_
          show Rch p e below _ (T28.setTop (mkF m 150 #[.val (.int p0), .val (.int p1), .val (.int p2), .val (.int p3), .val (.int (3 : Int32)), .val (.int p2), .val (.ref ro3), .val (.double (FP.l2d p1.toInt64)), .second, .val (.double (FP.l2d p2.toInt64)), .second, .val (.int (0 : Int32)), .val (.int (0 : Int32)), .unset] [(.int (0 : Int32))]))
          refine Rch.go (fun t k => XS.istore X28.here hx rfl (hb hby at_150) rfl  (l' := #[.val (.int p0), .val (.int p1), .val (.int p2), .val (.int p3), .val (.int (3 : Int32)), .val (.int p2), .val (.ref ro3), .val (.double (FP.l2d p1.toInt64)), .second, .val (.double (FP.l2d p2.toInt64)), .second, .val (.int (0 : Int32)), .val (.int (0 : Int32)), .val (.int (0 : Int32))]) rfl (XS.goto X28.here hx rfl (pc0 := 152) (pc' := 188) rfl (hb hby at_152) (by decide) (by decide) (XS.iload X28.here hx rfl (hb hby at_188) rfl  (XS.iload X28.here hx rfl (hb hby at_190) rfl  (XS.icmpNo X28.here hx rfl (hb hby at_192) rfl (by decide) (XS.iconst X28.here hx rfl (hb hby at_195) (XS.goto X28.here hx rfl (pc0 := 196) (pc' := 200) rfl (hb hby at_196) (by decide) (by decide) k))))))) ?_
          show Rch p e below _ (T28.setTop (mkF m 200 #[.val (.int p0), .val (.int p1), .val (.int p2), .val (.int p3), .val (.int (3 : Int32)), .val (.int p2), .val (.ref ro3), .val (.double (FP.l2d p1.toInt64)), .second, .val (.double (FP.l2d p2.toInt64)), .second, .val (.int (0 : Int32)), .val (.int (0 : Int32)), .val (.int (0 : Int32))] [(.int (1 : Int32))]))
          refine Rch.val X28 hx (t := .boolean) hret hlk rfl (mayI (by simp)) (hb hby at_200) (by decide) (by decide) ?_
          try rw [e28]
          exact ⟨rfl, N28⟩
        · show Rch p e below _ (T0.setTop (mkF m 22 #[.val (.int p0), .val (.int p1), .val (.int p2), .val (.int p3), .val (.int (3 : Int32)), .val (.int p2), .unset, .unset, .unset, .unset, .unset, .unset, .unset, .unset] []))
          refine Rch.go (fun t k => XS.iload X0.here hx rfl (hb hby at_22) rfl  k) ?_
          show Rch p e below _ (T0.setTop (mkF m 24 #[.val (.int p0), .val (.int p1), .val (.int p2), .val (.int p3), .val (.int (3 : Int32)), .val (.int p2), .unset, .unset, .unset, .unset, .unset, .unset, .unset, .unset] [(.int (3 : Int32))]))
          obtain ⟨v29, T29, L29, X29, Q29, st29⟩ := callSt X0 hx hZ (m19_pick l Z a0 hw ro3 h0 n0 Z0 O0 G.2.2.2.2.2.2.1) e0 hown (wd_1 hw) (wd_2 hw) (wd_4 hw) (wd_3 hw) (by decide) (hb hby at_24) 0 (by decide) (by decide) (by decide) (by decide) (by rw [hml]; rfl) [(.int (3 : Int32))] [] rfl (lenOf pd_0 rfl) rfl (Nat.le_of_eq rfl) (Ls := #[.val (.int p0), .val (.int p1), .val (.int p2), .val (.int p3), .val (.int (3 : Int32)), .val (.int p2), .unset, .unset, .unset, .unset, .unset, .unset, .unset, .unset])
          obtain ⟨rfl, M29, e29⟩ := Q29
          have N29 := Fr.app N0 M29
          refine Rch.go st29 ?_
          show Rch p e below _ (T29.setTop (mkF m 27 #[.val (.int p0), .val (.int p1), .val (.int p2), .val (.int p3), .val (.int (3 : Int32)), .val (.int p2), .unset, .unset, .unset, .unset, .unset, .unset, .unset, .unset] [(.ref ro3)]))
          refine Rch.go (fun t k => XS.astore X29.here hx rfl (hb hby at_27) rfl rfl (l' := #[.val (.int p0), .val (.int p1), .val (.int p2), .val (.int p3), .val (.int (3 : Int32)), .val (.int p2), .val (.ref ro3), .unset, .unset, .unset, .unset, .unset, .unset, .unset]) rfl (XS.iloadN X29.here hx rfl (hb hby at_29) rfl  k)) ?_
          show Rch p e below _ (T29.setTop (mkF m 30 #[.val (.int p0), .val (.int p1), .val (.int p2), .val (.int p3), .val (.int (3 : Int32)), .val (.int p2), .val (.ref ro3), .unset, .unset, .unset, .unset, .unset, .unset, .unset] [(.int p1)]))
          refine Rch.go (fun t k => XS.i2dS X29.here hx rfl (hb hby at_30) rfl (v := (FP.l2d p1.toInt64)) (i2d_w _) (XS.dstore X29.here hx rfl (hb hby at_31) rfl  (l' := #[.val (.int p0), .val (.int p1), .val (.int p2), .val (.int p3), .val (.int (3 : Int32)), .val (.int p2), .val (.ref ro3), .val (.double (FP.l2d p1.toInt64)), .second, .unset, .unset, .unset, .unset, .unset]) rfl (XS.iload X29.here hx rfl (hb hby at_33) rfl  k))) ?_
          show Rch p e below _ (T29.setTop (mkF m 35 #[.val (.int p0), .val (.int p1), .val (.int p2), .val (.int p3), .val (.int (3 : Int32)), .val (.int p2), .val (.ref ro3), .val (.double (FP.l2d p1.toInt64)), .second, .unset, .unset, .unset, .unset, .unset] [(.int p2)]))
          refine Rch.go (fun t k => XS.i2dS X29.here hx rfl (hb hby at_35) rfl (v := (FP.l2d p2.toInt64)) (i2d_w _) (XS.dstore X29.here hx rfl (hb hby at_36) rfl  (l' := #[.val (.int p0), .val (.int p1), .val (.int p2), .val (.int p3), .val (.int (3 : Int32)), .val (.int p2), .val (.ref ro3), .val (.double (FP.l2d p1.toInt64)), .second, .val (.double (FP.l2d p2.toInt64)), .second, .unset, .unset, .unset]) rfl (XS.aload X29.here hx rfl (hb hby at_38) rfl rfl (XS.dload X29.here hx rfl (hb hby at_40) rfl  (XS.dload X29.here hx rfl (hb hby at_42) rfl  k))))) ?_
          show Rch p e below _ (T29.setTop (mkF m 44 #[.val (.int p0), .val (.int p1), .val (.int p2), .val (.int p3), .val (.int (3 : Int32)), .val (.int p2), .val (.ref ro3), .val (.double (FP.l2d p1.toInt64)), .second, .val (.double (FP.l2d p2.toInt64)), .second, .unset, .unset, .unset] [(.double (FP.l2d p2.toInt64)), (.double (FP.l2d p1.toInt64)), (.ref ro3)]))
          obtain ⟨v30, T30, L30, X30, Q30, st30⟩ := callVi X29 hx hZ (m23_holds l Z a0 hw ro3 (FP.l2d p1.toInt64) (FP.l2d p2.toInt64) h0 n0 Z0 O0 G.2.2.2.2.2.2.2.1 G.2.2.2.2.2.2.2.2.2.2.2.2.2.2.2.1 (own_dg hl he .g)) e29 hown (wd_8 hw) (wd_9 hw) (wd_11 hw) (notFace_of_selects (args := #[]) (mvT hZ (wd_11 hw))) (wd_10 hw) (wd_12 hw) (wd_6 hw) (by decide) (hb hby at_44) 0 (by decide) (by decide) (by decide) (by decide) (by rw [hml]; rfl) ro3 (G.2.2.2.2.2.2.2.1.ext O0.2) [(.double (FP.l2d p1.toInt64)), (.double (FP.l2d p2.toInt64))] [] rfl (lenOf pd_2 rfl) rfl (Nat.le_of_eq rfl) (Ls := #[.val (.int p0), .val (.int p1), .val (.int p2), .val (.int p3), .val (.int (3 : Int32)), .val (.int p2), .val (.ref ro3), .val (.double (FP.l2d p1.toInt64)), .second, .val (.double (FP.l2d p2.toInt64)), .second, .unset, .unset, .unset])
          obtain ⟨rfl, M30, e30⟩ := Q30
          have N30 := Fr.app N29 M30
          refine Rch.go st30 ?_
          show Rch p e below _ (T30.setTop (mkF m 47 #[.val (.int p0), .val (.int p1), .val (.int p2), .val (.int p3), .val (.int (3 : Int32)), .val (.int p2), .val (.ref ro3), .val (.double (FP.l2d p1.toInt64)), .second, .val (.double (FP.l2d p2.toInt64)), .second, .unset, .unset, .unset] [(.int (0 : Int32))]))
          refine Rch.go (fun t k => XS.istore X30.here hx rfl (hb hby at_47) rfl  (l' := #[.val (.int p0), .val (.int p1), .val (.int p2), .val (.int p3), .val (.int (3 : Int32)), .val (.int p2), .val (.ref ro3), .val (.double (FP.l2d p1.toInt64)), .second, .val (.double (FP.l2d p2.toInt64)), .second, .val (.int (0 : Int32)), .unset, .unset]) rfl (XS.iloadN X30.here hx rfl (hb hby at_49) rfl  (XS.iload X30.here hx rfl (hb hby at_50) rfl  (XS.icmpYes X30.here hx rfl (pc0 := 52) (pc' := 59) rfl (hb hby at_52) rfl (XT.ii_ge_t hl) (by decide) (by decide) (XS.iloadN X30.here hx rfl (hb hby at_59) rfl  (XS.iload X30.here hx rfl (hb hby at_60) rfl  (XS.icmpYes X30.here hx rfl (pc0 := 62) (pc' := 69) rfl (hb hby at_62) rfl (XT.ii_ne_t he) (by decide) (by decide) (XS.iconst X30.here hx rfl (hb hby at_69) (XS.istore X30.here hx rfl (hb hby at_70) rfl  (l' := #[.val (.int p0), .val (.int p1), .val (.int p2), .val (.int p3), .val (.int (3 : Int32)), .val (.int p2), .val (.ref ro3), .val (.double (FP.l2d p1.toInt64)), .second, .val (.double (FP.l2d p2.toInt64)), .second, .val (.int (0 : Int32)), .val (.int (1 : Int32)), .unset]) rfl (XS.iload X30.here hx rfl (hb hby at_72) rfl  (XS.ifYes X30.here hx rfl (pc0 := 74) (pc' := 92) rfl (hb hby at_74) rfl (by decide) (by decide) (by decide) (XS.iload X30.here hx rfl (hb hby at_92) rfl  k)))))))))))) ?_
          show Rch p e below _ (T30.setTop (mkF m 94 #[.val (.int p0), .val (.int p1), .val (.int p2), .val (.int p3), .val (.int (3 : Int32)), .val (.int p2), .val (.ref ro3), .val (.double (FP.l2d p1.toInt64)), .second, .val (.double (FP.l2d p2.toInt64)), .second, .val (.int (0 : Int32)), .val (.int (1 : Int32)), .unset] [(.int (3 : Int32))]))
          refine Rch.go (fun t k => XS.iconst X30.here hx rfl (hb hby at_94) (XS.icmpYes X30.here hx rfl (pc0 := 95) (pc' := 113) rfl (hb hby at_95) rfl (by decide) (by decide) (by decide) (XS.iload X30.here hx rfl (hb hby at_113) rfl  (XS.iconst X30.here hx rfl (hb hby at_115) (XS.icmpYes X30.here hx rfl (pc0 := 116) (pc' := 134) rfl (hb hby at_116) rfl (by decide) (by decide) (by decide) (XS.iload X30.here hx rfl (hb hby at_134) rfl  (XS.iconst X30.here hx rfl (hb hby at_136) (XS.icmpNo X30.here hx rfl (hb hby at_137) rfl (by decide) (XS.iload X30.here hx rfl (hb hby at_140) rfl  (XS.ifYes X30.here hx rfl (pc0 := 142) (pc' := 149) rfl (hb hby at_142) rfl (by decide) (by decide) (by decide) (XS.iconst X30.here hx rfl (hb hby at_149) (XS.istore X30.here hx rfl (hb hby at_150) rfl  (l' := #[.val (.int p0), .val (.int p1), .val (.int p2), .val (.int p3), .val (.int (3 : Int32)), .val (.int p2), .val (.ref ro3), .val (.double (FP.l2d p1.toInt64)), .second, .val (.double (FP.l2d p2.toInt64)), .second, .val (.int (0 : Int32)), .val (.int (1 : Int32)), .val (.int (0 : Int32))]) rfl k)))))))))))) ?_
          show Rch p e below _ (T30.setTop (mkF m 152 #[.val (.int p0), .val (.int p1), .val (.int p2), .val (.int p3), .val (.int (3 : Int32)), .val (.int p2), .val (.ref ro3), .val (.double (FP.l2d p1.toInt64)), .second, .val (.double (FP.l2d p2.toInt64)), .second, .val (.int (0 : Int32)), .val (.int (1 : Int32)), .val (.int (0 : Int32))] []))
          refine Rch.go (fun t k => XS.goto X30.here hx rfl (pc0 := 152) (pc' := 188) rfl (hb hby at_152) (by decide) (by decide) (XS.iload X30.here hx rfl (hb hby at_188) rfl  (XS.iload X30.here hx rfl (hb hby at_190) rfl  (XS.icmpNo X30.here hx rfl (hb hby at_192) rfl (by decide) (XS.iconst X30.here hx rfl (hb hby at_195) (XS.goto X30.here hx rfl (pc0 := 196) (pc' := 200) rfl (hb hby at_196) (by decide) (by decide) k)))))) ?_
          show Rch p e below _ (T30.setTop (mkF m 200 #[.val (.int p0), .val (.int p1), .val (.int p2), .val (.int p3), .val (.int (3 : Int32)), .val (.int p2), .val (.ref ro3), .val (.double (FP.l2d p1.toInt64)), .second, .val (.double (FP.l2d p2.toInt64)), .second, .val (.int (0 : Int32)), .val (.int (1 : Int32)), .val (.int (0 : Int32))] [(.int (1 : Int32))]))
          refine Rch.val X30 hx (t := .boolean) hret hlk rfl (mayI (by simp)) (hb hby at_200) (by decide) (by decide) ?_
          try rw [e30]
          exact ⟨rfl, N30⟩
    · show Rch p e below _ (T0.setTop (mkF m 12 #[.val (.int p0), .val (.int p1), .val (.int p2), .val (.int p3), .val (.int (3 : Int32)), .unset, .unset, .unset, .unset, .unset, .unset, .unset, .unset, .unset] [(.int (p3 &&& (1 : Int32)))]))
      refine Rch.go (fun t k => XS.ifNo X0.here hx rfl (hb hby at_12) rfl (XT.i0_eq_f hm) (XS.iloadN X0.here hx rfl (hb hby at_15) rfl  (XS.goto X0.here hx rfl (pc0 := 16) (pc' := 20) rfl (hb hby at_16) (by decide) (by decide) (XS.istore X0.here hx rfl (hb hby at_20) rfl  (l' := #[.val (.int p0), .val (.int p1), .val (.int p2), .val (.int p3), .val (.int (3 : Int32)), .val (.int p1), .unset, .unset, .unset, .unset, .unset, .unset, .unset, .unset]) rfl k)))) ?_
      show Rch p e below _ (T0.setTop (mkF m 22 #[.val (.int p0), .val (.int p1), .val (.int p2), .val (.int p3), .val (.int (3 : Int32)), .val (.int p1), .unset, .unset, .unset, .unset, .unset, .unset, .unset, .unset] []))
      refine Rch.go (fun t k => XS.iload X0.here hx rfl (hb hby at_22) rfl  k) ?_
      show Rch p e below _ (T0.setTop (mkF m 24 #[.val (.int p0), .val (.int p1), .val (.int p2), .val (.int p3), .val (.int (3 : Int32)), .val (.int p1), .unset, .unset, .unset, .unset, .unset, .unset, .unset, .unset] [(.int (3 : Int32))]))
      obtain ⟨v31, T31, L31, X31, Q31, st31⟩ := callSt X0 hx hZ (m19_pick l Z a0 hw ro3 h0 n0 Z0 O0 G.2.2.2.2.2.2.1) e0 hown (wd_1 hw) (wd_2 hw) (wd_4 hw) (wd_3 hw) (by decide) (hb hby at_24) 0 (by decide) (by decide) (by decide) (by decide) (by rw [hml]; rfl) [(.int (3 : Int32))] [] rfl (lenOf pd_0 rfl) rfl (Nat.le_of_eq rfl) (Ls := #[.val (.int p0), .val (.int p1), .val (.int p2), .val (.int p3), .val (.int (3 : Int32)), .val (.int p1), .unset, .unset, .unset, .unset, .unset, .unset, .unset, .unset])
      obtain ⟨rfl, M31, e31⟩ := Q31
      have N31 := Fr.app N0 M31
      refine Rch.go st31 ?_
      show Rch p e below _ (T31.setTop (mkF m 27 #[.val (.int p0), .val (.int p1), .val (.int p2), .val (.int p3), .val (.int (3 : Int32)), .val (.int p1), .unset, .unset, .unset, .unset, .unset, .unset, .unset, .unset] [(.ref ro3)]))
      refine Rch.go (fun t k => XS.astore X31.here hx rfl (hb hby at_27) rfl rfl (l' := #[.val (.int p0), .val (.int p1), .val (.int p2), .val (.int p3), .val (.int (3 : Int32)), .val (.int p1), .val (.ref ro3), .unset, .unset, .unset, .unset, .unset, .unset, .unset]) rfl (XS.iloadN X31.here hx rfl (hb hby at_29) rfl  k)) ?_
      show Rch p e below _ (T31.setTop (mkF m 30 #[.val (.int p0), .val (.int p1), .val (.int p2), .val (.int p3), .val (.int (3 : Int32)), .val (.int p1), .val (.ref ro3), .unset, .unset, .unset, .unset, .unset, .unset, .unset] [(.int p1)]))
      refine Rch.go (fun t k => XS.i2dS X31.here hx rfl (hb hby at_30) rfl (v := (FP.l2d p1.toInt64)) (i2d_w _) (XS.dstore X31.here hx rfl (hb hby at_31) rfl  (l' := #[.val (.int p0), .val (.int p1), .val (.int p2), .val (.int p3), .val (.int (3 : Int32)), .val (.int p1), .val (.ref ro3), .val (.double (FP.l2d p1.toInt64)), .second, .unset, .unset, .unset, .unset, .unset]) rfl (XS.iload X31.here hx rfl (hb hby at_33) rfl  k))) ?_
      show Rch p e below _ (T31.setTop (mkF m 35 #[.val (.int p0), .val (.int p1), .val (.int p2), .val (.int p3), .val (.int (3 : Int32)), .val (.int p1), .val (.ref ro3), .val (.double (FP.l2d p1.toInt64)), .second, .unset, .unset, .unset, .unset, .unset] [(.int p1)]))
      refine Rch.go (fun t k => XS.i2dS X31.here hx rfl (hb hby at_35) rfl (v := (FP.l2d p1.toInt64)) (i2d_w _) (XS.dstore X31.here hx rfl (hb hby at_36) rfl  (l' := #[.val (.int p0), .val (.int p1), .val (.int p2), .val (.int p3), .val (.int (3 : Int32)), .val (.int p1), .val (.ref ro3), .val (.double (FP.l2d p1.toInt64)), .second, .val (.double (FP.l2d p1.toInt64)), .second, .unset, .unset, .unset]) rfl (XS.aload X31.here hx rfl (hb hby at_38) rfl rfl (XS.dload X31.here hx rfl (hb hby at_40) rfl  (XS.dload X31.here hx rfl (hb hby at_42) rfl  k))))) ?_
      show Rch p e below _ (T31.setTop (mkF m 44 #[.val (.int p0), .val (.int p1), .val (.int p2), .val (.int p3), .val (.int (3 : Int32)), .val (.int p1), .val (.ref ro3), .val (.double (FP.l2d p1.toInt64)), .second, .val (.double (FP.l2d p1.toInt64)), .second, .unset, .unset, .unset] [(.double (FP.l2d p1.toInt64)), (.double (FP.l2d p1.toInt64)), (.ref ro3)]))
      obtain ⟨v32, T32, L32, X32, Q32, st32⟩ := callVi X31 hx hZ (m24_holds l Z a0 hw ro3 (FP.l2d p1.toInt64) h0 n0 Z0 O0 G.2.2.2.2.2.2.2.1 G.2.2.2.2.2.2.2.2.2.2.2.2.2.2.2.1 (own_de rfl .g)) e31 hown (wd_8 hw) (wd_9 hw) (wd_11 hw) (notFace_of_selects (args := #[]) (mvT hZ (wd_11 hw))) (wd_10 hw) (wd_12 hw) (wd_6 hw) (by decide) (hb hby at_44) 0 (by decide) (by decide) (by decide) (by decide) (by rw [hml]; rfl) ro3 (G.2.2.2.2.2.2.2.1.ext O0.2) [(.double (FP.l2d p1.toInt64)), (.double (FP.l2d p1.toInt64))] [] rfl (lenOf pd_2 rfl) rfl (Nat.le_of_eq rfl) (Ls := #[.val (.int p0), .val (.int p1), .val (.int p2), .val (.int p3), .val (.int (3 : Int32)), .val (.int p1), .val (.ref ro3), .val (.double (FP.l2d p1.toInt64)), .second, .val (.double (FP.l2d p1.toInt64)), .second, .unset, .unset, .unset])
      obtain ⟨rfl, M32, e32⟩ := Q32
      have N32 := Fr.app N31 M32
      refine Rch.go st32 ?_
      show Rch p e below _ (T32.setTop (mkF m 47 #[.val (.int p0), .val (.int p1), .val (.int p2), .val (.int p3), .val (.int (3 : Int32)), .val (.int p1), .val (.ref ro3), .val (.double (FP.l2d p1.toInt64)), .second, .val (.double (FP.l2d p1.toInt64)), .second, .unset, .unset, .unset] [(.int (0 : Int32))]))
      refine Rch.go (fun t k => XS.istore X32.here hx rfl (hb hby at_47) rfl  (l' := #[.val (.int p0), .val (.int p1), .val (.int p2), .val (.int p3), .val (.int (3 : Int32)), .val (.int p1), .val (.ref ro3), .val (.double (FP.l2d p1.toInt64)), .second, .val (.double (FP.l2d p1.toInt64)), .second, .val (.int (0 : Int32)), .unset, .unset]) rfl (XS.iloadN X32.here hx rfl (hb hby at_49) rfl  (XS.iload X32.here hx rfl (hb hby at_50) rfl  (XS.icmpYes X32.here hx rfl (pc0 := 52) (pc' := 59) rfl (hb hby at_52) rfl (XT.ii_ge_t Int32.lt_irrefl) (by decide) (by decide) (XS.iloadN X32.here hx rfl (hb hby at_59) rfl  (XS.iload X32.here hx rfl (hb hby at_60) rfl  (XS.icmpNo X32.here hx rfl (hb hby at_62) rfl (XT.ii_ne_f rfl) (XS.iconst X32.here hx rfl (hb hby at_65) (XS.goto X32.here hx rfl (pc0 := 66) (pc' := 70) rfl (hb hby at_66) (by decide) (by decide) (XS.istore X32.here hx rfl (hb hby at_70) rfl  (l' := #[.val (.int p0), .val (.int p1), .val (.int p2), .val (.int p3), .val (.int (3 : Int32)), .val (.int p1), .val (.ref ro3), .val (.double (FP.l2d p1.toInt64)), .second, .val (.double (FP.l2d p1.toInt64)), .second, .val (.int (0 : Int32)), .val (.int (0 : Int32)), .unset]) rfl (XS.iload X32.here hx rfl (hb hby at_72) rfl  (XS.ifYes X32.here hx rfl (pc0 := 74) (pc' := 92) rfl (hb hby at_74) rfl (by decide) (by decide) (by decide) k)))))))))))) ?_
      show Rch p e below _ (T32.setTop (mkF m 92 #[.val (.int p0), .val (.int p1), .val (.int p2), .val (.int p3), .val (.int (3 : Int32)), .val (.int p1), .val (.ref ro3), .val (.double (FP.l2d p1.toInt64)), .second, .val (.double (FP.l2d p1.toInt64)), .second, .val (.int (0 : Int32)), .val (.int (0 : Int32)), .unset] []))
      refine Rch.go (fun t k => XS.iload X32.here hx rfl (hb hby at_92) rfl  (XS.iconst X32.here hx rfl (hb hby at_94) (XS.icmpYes X32.here hx rfl (pc0 := 95) (pc' := 113) rfl (hb hby at_95) rfl (by decide) (by decide) (by decide) (XS.iload X32.here hx rfl (hb hby at_113) rfl  (XS.iconst X32.here hx rfl (hb hby at_115) (XS.icmpYes X32.here hx rfl (pc0 := 116) (pc' := 134) rfl (hb hby at_116) rfl (by decide) (by decide) (by decide) (XS.iload X32.here hx rfl (hb hby at_134) rfl  (XS.iconst X32.here hx rfl (hb hby at_136) (XS.icmpNo X32.here hx rfl (hb hby at_137) rfl (by decide) (XS.iload X32.here hx rfl (hb hby at_140) rfl  (XS.ifYes X32.here hx rfl (pc0 := 142) (pc' := 149) rfl (hb hby at_142) rfl (by decide) (by decide) (by decide) (XS.iconst X32.here hx rfl (hb hby at_149) k)))))))))))) ?_
      show Rch p e below _ (T32.setTop (mkF m 150 #[.val (.int p0), .val (.int p1), .val (.int p2), .val (.int p3), .val (.int (3 : Int32)), .val (.int p1), .val (.ref ro3), .val (.double (FP.l2d p1.toInt64)), .second, .val (.double (FP.l2d p1.toInt64)), .second, .val (.int (0 : Int32)), .val (.int (0 : Int32)), .unset] [(.int (0 : Int32))]))
      refine Rch.go (fun t k => XS.istore X32.here hx rfl (hb hby at_150) rfl  (l' := #[.val (.int p0), .val (.int p1), .val (.int p2), .val (.int p3), .val (.int (3 : Int32)), .val (.int p1), .val (.ref ro3), .val (.double (FP.l2d p1.toInt64)), .second, .val (.double (FP.l2d p1.toInt64)), .second, .val (.int (0 : Int32)), .val (.int (0 : Int32)), .val (.int (0 : Int32))]) rfl (XS.goto X32.here hx rfl (pc0 := 152) (pc' := 188) rfl (hb hby at_152) (by decide) (by decide) (XS.iload X32.here hx rfl (hb hby at_188) rfl  (XS.iload X32.here hx rfl (hb hby at_190) rfl  (XS.icmpNo X32.here hx rfl (hb hby at_192) rfl (by decide) (XS.iconst X32.here hx rfl (hb hby at_195) (XS.goto X32.here hx rfl (pc0 := 196) (pc' := 200) rfl (hb hby at_196) (by decide) (by decide) k))))))) ?_
      show Rch p e below _ (T32.setTop (mkF m 200 #[.val (.int p0), .val (.int p1), .val (.int p2), .val (.int p3), .val (.int (3 : Int32)), .val (.int p1), .val (.ref ro3), .val (.double (FP.l2d p1.toInt64)), .second, .val (.double (FP.l2d p1.toInt64)), .second, .val (.int (0 : Int32)), .val (.int (0 : Int32)), .val (.int (0 : Int32))] [(.int (1 : Int32))]))
      refine Rch.val X32 hx (t := .boolean) hret hlk rfl (mayI (by simp)) (hb hby at_200) (by decide) (by decide) ?_
      try rw [e32]
      exact ⟨rfl, N32⟩
  · rw [hq]
    show Rch p e below _ (T0.setTop (mkF m 7 #[.val (.int p0), .val (.int p1), .val (.int p2), .val (.int p3), .unset, .unset, .unset, .unset, .unset, .unset, .unset, .unset, .unset, .unset] [(.int (4 : Int32))]))
    refine Rch.go (fun t k => XS.istore X0.here hx rfl (hb hby at_7) rfl  (l' := #[.val (.int p0), .val (.int p1), .val (.int p2), .val (.int p3), .val (.int (4 : Int32)), .unset, .unset, .unset, .unset, .unset, .unset, .unset, .unset, .unset]) rfl (XS.iloadN X0.here hx rfl (hb hby at_9) rfl  (XS.iconst X0.here hx rfl (hb hby at_10) (XS.iand X0.here hx rfl (hb hby at_11) rfl k)))) ?_
    show Rch p e below _ (T0.setTop (mkF m 12 #[.val (.int p0), .val (.int p1), .val (.int p2), .val (.int p3), .val (.int (4 : Int32)), .unset, .unset, .unset, .unset, .unset, .unset, .unset, .unset, .unset] [(.int (p3 &&& (1 : Int32)))]))
    by_cases hm : (p3 &&& (1 : Int32)) = (0 : Int32)
    · show Rch p e below _ (T0.setTop (mkF m 12 #[.val (.int p0), .val (.int p1), .val (.int p2), .val (.int p3), .val (.int (4 : Int32)), .unset, .unset, .unset, .unset, .unset, .unset, .unset, .unset, .unset] [(.int (p3 &&& (1 : Int32)))]))
      refine Rch.go (fun t k => XS.ifYes X0.here hx rfl (pc0 := 12) (pc' := 19) rfl (hb hby at_12) rfl (XT.i0_eq_t hm) (by decide) (by decide) (XS.iloadN X0.here hx rfl (hb hby at_19) rfl  (XS.istore X0.here hx rfl (hb hby at_20) rfl  (l' := #[.val (.int p0), .val (.int p1), .val (.int p2), .val (.int p3), .val (.int (4 : Int32)), .val (.int p2), .unset, .unset, .unset, .unset, .unset, .unset, .unset, .unset]) rfl k))) ?_
      show Rch p e below _ (T0.setTop (mkF m 22 #[.val (.int p0), .val (.int p1), .val (.int p2), .val (.int p3), .val (.int (4 : Int32)), .val (.int p2), .unset, .unset, .unset, .unset, .unset, .unset, .unset, .unset] []))
      by_cases hl : p1 < p2
      · show Rch p e below _ (T0.setTop (mkF m 22 #[.val (.int p0), .val (.int p1), .val (.int p2), .val (.int p3), .val (.int (4 : Int32)), .val (.int p2), .unset, .unset, .unset, .unset, .unset, .unset, .unset, .unset] []))
        refine Rch.go (fun t k => XS.iload X0.here hx rfl (hb hby at_22) rfl  k) ?_
        show Rch p e below _ (T0.setTop (mkF m 24 #[.val (.int p0), .val (.int p1), .val (.int p2), .val (.int p3), .val (.int (4 : Int32)), .val (.int p2), .unset, .unset, .unset, .unset, .unset, .unset, .unset, .unset] [(.int (4 : Int32))]))
        obtain ⟨v33, T33, L33, X33, Q33, st33⟩ := callSt X0 hx hZ (m25_pick l Z a0 hw ro2 h0 n0 Z0 O0 G.2.2.2.2.1) e0 hown (wd_1 hw) (wd_2 hw) (wd_4 hw) (wd_3 hw) (by decide) (hb hby at_24) 0 (by decide) (by decide) (by decide) (by decide) (by rw [hml]; rfl) [(.int (4 : Int32))] [] rfl (lenOf pd_0 rfl) rfl (Nat.le_of_eq rfl) (Ls := #[.val (.int p0), .val (.int p1), .val (.int p2), .val (.int p3), .val (.int (4 : Int32)), .val (.int p2), .unset, .unset, .unset, .unset, .unset, .unset, .unset, .unset])
        obtain ⟨rfl, M33, e33⟩ := Q33
        have N33 := Fr.app N0 M33
        refine Rch.go st33 ?_
        show Rch p e below _ (T33.setTop (mkF m 27 #[.val (.int p0), .val (.int p1), .val (.int p2), .val (.int p3), .val (.int (4 : Int32)), .val (.int p2), .unset, .unset, .unset, .unset, .unset, .unset, .unset, .unset] [(.ref ro2)]))
        refine Rch.go (fun t k => XS.astore X33.here hx rfl (hb hby at_27) rfl rfl (l' := #[.val (.int p0), .val (.int p1), .val (.int p2), .val (.int p3), .val (.int (4 : Int32)), .val (.int p2), .val (.ref ro2), .unset, .unset, .unset, .unset, .unset, .unset, .unset]) rfl (XS.iloadN X33.here hx rfl (hb hby at_29) rfl  k)) ?_
        show Rch p e below _ (T33.setTop (mkF m 30 #[.val (.int p0), .val (.int p1), .val (.int p2), .val (.int p3), .val (.int (4 : Int32)), .val (.int p2), .val (.ref ro2), .unset, .unset, .unset, .unset, .unset, .unset, .unset] [(.int p1)]))
        refine Rch.go (fun t k => XS.i2dS X33.here hx rfl (hb hby at_30) rfl (v := (FP.l2d p1.toInt64)) (i2d_w _) (XS.dstore X33.here hx rfl (hb hby at_31) rfl  (l' := #[.val (.int p0), .val (.int p1), .val (.int p2), .val (.int p3), .val (.int (4 : Int32)), .val (.int p2), .val (.ref ro2), .val (.double (FP.l2d p1.toInt64)), .second, .unset, .unset, .unset, .unset, .unset]) rfl (XS.iload X33.here hx rfl (hb hby at_33) rfl  k))) ?_
        show Rch p e below _ (T33.setTop (mkF m 35 #[.val (.int p0), .val (.int p1), .val (.int p2), .val (.int p3), .val (.int (4 : Int32)), .val (.int p2), .val (.ref ro2), .val (.double (FP.l2d p1.toInt64)), .second, .unset, .unset, .unset, .unset, .unset] [(.int p2)]))
        refine Rch.go (fun t k => XS.i2dS X33.here hx rfl (hb hby at_35) rfl (v := (FP.l2d p2.toInt64)) (i2d_w _) (XS.dstore X33.here hx rfl (hb hby at_36) rfl  (l' := #[.val (.int p0), .val (.int p1), .val (.int p2), .val (.int p3), .val (.int (4 : Int32)), .val (.int p2), .val (.ref ro2), .val (.double (FP.l2d p1.toInt64)), .second, .val (.double (FP.l2d p2.toInt64)), .second, .unset, .unset, .unset]) rfl (XS.aload X33.here hx rfl (hb hby at_38) rfl rfl (XS.dload X33.here hx rfl (hb hby at_40) rfl  (XS.dload X33.here hx rfl (hb hby at_42) rfl  k))))) ?_
        show Rch p e below _ (T33.setTop (mkF m 44 #[.val (.int p0), .val (.int p1), .val (.int p2), .val (.int p3), .val (.int (4 : Int32)), .val (.int p2), .val (.ref ro2), .val (.double (FP.l2d p1.toInt64)), .second, .val (.double (FP.l2d p2.toInt64)), .second, .unset, .unset, .unset] [(.double (FP.l2d p2.toInt64)), (.double (FP.l2d p1.toInt64)), (.ref ro2)]))
        obtain ⟨v34, T34, L34, X34, Q34, st34⟩ := callVi X33 hx hZ (m26_holds l Z a0 hw ro2 (FP.l2d p1.toInt64) (FP.l2d p2.toInt64) h0 n0 Z0 O0 G.2.2.2.2.2.1 G.2.2.2.2.2.2.2.2.2.2.2.2.2.2.1 (own_dl hl .l)) e33 hown (wd_8 hw) (wd_9 hw) (wd_11 hw) (notFace_of_selects (args := #[]) (mvT hZ (wd_11 hw))) (wd_10 hw) (wd_12 hw) (wd_6 hw) (by decide) (hb hby at_44) 0 (by decide) (by decide) (by decide) (by decide) (by rw [hml]; rfl) ro2 (G.2.2.2.2.2.1.ext O0.2) [(.double (FP.l2d p1.toInt64)), (.double (FP.l2d p2.toInt64))] [] rfl (lenOf pd_2 rfl) rfl (Nat.le_of_eq rfl) (Ls := #[.val (.int p0), .val (.int p1), .val (.int p2), .val (.int p3), .val (.int (4 : Int32)), .val (.int p2), .val (.ref ro2), .val (.double (FP.l2d p1.toInt64)), .second, .val (.double (FP.l2d p2.toInt64)), .second, .unset, .unset, .unset])
        obtain ⟨rfl, M34, e34⟩ := Q34
        have N34 := Fr.app N33 M34
        refine Rch.go st34 ?_
        show Rch p e below _ (T34.setTop (mkF m 47 #[.val (.int p0), .val (.int p1), .val (.int p2), .val (.int p3), .val (.int (4 : Int32)), .val (.int p2), .val (.ref ro2), .val (.double (FP.l2d p1.toInt64)), .second, .val (.double (FP.l2d p2.toInt64)), .second, .unset, .unset, .unset] [(.int (0 : Int32))]))
        refine Rch.go (fun t k => XS.istore X34.here hx rfl (hb hby at_47) rfl  (l' := #[.val (.int p0), .val (.int p1), .val (.int p2), .val (.int p3), .val (.int (4 : Int32)), .val (.int p2), .val (.ref ro2), .val (.double (FP.l2d p1.toInt64)), .second, .val (.double (FP.l2d p2.toInt64)), .second, .val (.int (0 : Int32)), .unset, .unset]) rfl (XS.iloadN X34.here hx rfl (hb hby at_49) rfl  (XS.iload X34.here hx rfl (hb hby at_50) rfl  (XS.icmpNo X34.here hx rfl (hb hby at_52) rfl (XT.ii_ge_f hl) (XS.iconst X34.here hx rfl (hb hby at_55) (XS.goto X34.here hx rfl (pc0 := 56) (pc' := 70) rfl (hb hby at_56) (by decide) (by decide) (XS.istore X34.here hx rfl (hb hby at_70) rfl  (l' := #[.val (.int p0), .val (.int p1), .val (.int p2), .val (.int p3), .val (.int (4 : Int32)), .val (.int p2), .val (.ref ro2), .val (.double (FP.l2d p1.toInt64)), .second, .val (.double (FP.l2d p2.toInt64)), .second, .val (.int (0 : Int32)), .val (.int (-1 : Int32)), .unset]) rfl (XS.iload X34.here hx rfl (hb hby at_72) rfl  (XS.ifYes X34.here hx rfl (pc0 := 74) (pc' := 92) rfl (hb hby at_74) rfl (by decide) (by decide) (by decide) (XS.iload X34.here hx rfl (hb hby at_92) rfl  (XS.iconst X34.here hx rfl (hb hby at_94) (XS.icmpYes X34.here hx rfl (pc0 := 95) (pc' := 113) rfl (hb hby at_95) rfl (by decide) (by decide) (by decide) k)))))))))))) ?_
        show Rch p e below _ (T34.setTop (mkF m 113 #[.val (.int p0), .val (.int p1), .val (.int p2), .val (.int p3), .val (.int (4 : Int32)), .val (.int p2), .val (.ref ro2), .val (.double (FP.l2d p1.toInt64)), .second, .val (.double (FP.l2d p2.toInt64)), .second, .val (.int (0 : Int32)), .val (.int (-1 : Int32)), .unset] []))
        refine Rch.go (fun t k => XS.iload X34.here hx rfl (hb hby at_113) rfl  (XS.iconst X34.here hx rfl (hb hby at_115) (XS.icmpYes X34.here hx rfl (pc0 := 116) (pc' := 134) rfl (hb hby at_116) rfl (by decide) (by decide) (by decide) (XS.iload X34.here hx rfl (hb hby at_134) rfl  (XS.iconst X34.here hx rfl (hb hby at_136) (XS.icmpYes X34.here hx rfl (pc0 := 137) (pc' := 155) rfl (hb hby at_137) rfl (by decide) (by decide) (by decide) (XS.iload X34.here hx rfl (hb hby at_155) rfl  (XS.iconst X34.here hx rfl (hb hby at_157) (XS.icmpNo X34.here hx rfl (hb hby at_158) rfl (by decide) (XS.iload X34.here hx rfl (hb hby at_161) rfl  (XS.ifYes X34.here hx rfl (pc0 := 163) (pc' := 170) rfl (hb hby at_163) rfl (by decide) (by decide) (by decide) (XS.iconst X34.here hx rfl (hb hby at_170) k)))))))))))) ?_
        show Rch p e below _ (T34.setTop (mkF m 171 #[.val (.int p0), .val (.int p1), .val (.int p2), .val (.int p3), .val (.int (4 : Int32)), .val (.int p2), .val (.ref ro2), .val (.double (FP.l2d p1.toInt64)), .second, .val (.double (FP.l2d p2.toInt64)), .second, .val (.int (0 : Int32)), .val (.int (-1 : Int32)), .unset] [(.int (0 : Int32))]))
        refine Rch.go (fun t k => XS.istore X34.here hx rfl (hb hby at_171) rfl  (l' := #[.val (.int p0), .val (.int p1), .val (.int p2), .val (.int p3), .val (.int (4 : Int32)), .val (.int p2), .val (.ref ro2), .val (.double (FP.l2d p1.toInt64)), .second, .val (.double (FP.l2d p2.toInt64)), .second, .val (.int (0 : Int32)), .val (.int (-1 : Int32)), .val (.int (0 : Int32))]) rfl (XS.goto X34.here hx rfl (pc0 := 173) (pc' := 188) rfl (hb hby at_173) (by decide) (by decide) (XS.iload X34.here hx rfl (hb hby at_188) rfl  (XS.iload X34.here hx rfl (hb hby at_190) rfl  (XS.icmpNo X34.here hx rfl (hb hby at_192) rfl (by decide) (XS.iconst X34.here hx rfl (hb hby at_195) (XS.goto X34.here hx rfl (pc0 := 196) (pc' := 200) rfl (hb hby at_196) (by decide) (by decide) k))))))) ?_
        show Rch p e below _ (T34.setTop (mkF m 200 #[.val (.int p0), .val (.int p1), .val (.int p2), .val (.int p3), .val (.int (4 : Int32)), .val (.int p2), .val (.ref ro2), .val (.double (FP.l2d p1.toInt64)), .second, .val (.double (FP.l2d p2.toInt64)), .second, .val (.int (0 : Int32)), .val (.int (-1 : Int32)), .val (.int (0 : Int32))] [(.int (1 : Int32))]))
        refine Rch.val X34 hx (t := .boolean) hret hlk rfl (mayI (by simp)) (hb hby at_200) (by decide) (by decide) ?_
        try rw [e34]
        exact ⟨rfl, N34⟩
      · by_cases he : p1 = p2
        · show Rch p e below _ (T0.setTop (mkF m 22 #[.val (.int p0), .val (.int p1), .val (.int p2), .val (.int p3), .val (.int (4 : Int32)), .val (.int p2), .unset, .unset, .unset, .unset, .unset, .unset, .unset, .unset] []))
          refine Rch.go (fun t k => XS.iload X0.here hx rfl (hb hby at_22) rfl  k) ?_
          show Rch p e below _ (T0.setTop (mkF m 24 #[.val (.int p0), .val (.int p1), .val (.int p2), .val (.int p3), .val (.int (4 : Int32)), .val (.int p2), .unset, .unset, .unset, .unset, .unset, .unset, .unset, .unset] [(.int (4 : Int32))]))
          obtain ⟨v35, T35, L35, X35, Q35, st35⟩ := callSt X0 hx hZ (m25_pick l Z a0 hw ro2 h0 n0 Z0 O0 G.2.2.2.2.1) e0 hown (wd_1 hw) (wd_2 hw) (wd_4 hw) (wd_3 hw) (by decide) (hb hby at_24) 0 (by decide) (by decide) (by decide) (by decide) (by rw [hml]; rfl) [(.int (4 : Int32))] [] rfl (lenOf pd_0 rfl) rfl (Nat.le_of_eq rfl) (Ls := #[.val (.int p0), .val (.int p1), .val (.int p2), .val (.int p3), .val (.int (4 : Int32)), .val (.int p2), .unset, .unset, .unset, .unset, .unset, .unset, .unset, .unset])
          obtain ⟨rfl, M35, e35⟩ := Q35
          have N35 := Fr.app N0 M35
          refine Rch.go st35 ?_
          show Rch p e below _ (T35.setTop (mkF m 27 #[.val (.int p0), .val (.int p1), .val (.int p2), .val (.int p3), .val (.int (4 : Int32)), .val (.int p2), .unset, .unset, .unset, .unset, .unset, .unset, .unset, .unset] [(.ref ro2)]))
          refine Rch.go (fun t k => XS.astore X35.here hx rfl (hb hby at_27) rfl rfl (l' := #[.val (.int p0), .val (.int p1), .val (.int p2), .val (.int p3), .val (.int (4 : Int32)), .val (.int p2), .val (.ref ro2), .unset, .unset, .unset, .unset, .unset, .unset, .unset]) rfl (XS.iloadN X35.here hx rfl (hb hby at_29) rfl  k)) ?_
          show Rch p e below _ (T35.setTop (mkF m 30 #[.val (.int p0), .val (.int p1), .val (.int p2), .val (.int p3), .val (.int (4 : Int32)), .val (.int p2), .val (.ref ro2), .unset, .unset, .unset, .unset, .unset, .unset, .unset] [(.int p1)]))
          refine Rch.go (fun t k => XS.i2dS X35.here hx rfl (hb hby at_30) rfl (v := (FP.l2d p1.toInt64)) (i2d_w _) (XS.dstore X35.here hx rfl (hb hby at_31) rfl  (l' := #[.val (.int p0), .val (.int p1), .val (.int p2), .val (.int p3), .val (.int (4 : Int32)), .val (.int p2), .val (.ref ro2), .val (.double (FP.l2d p1.toInt64)), .second, .unset, .unset, .unset, .unset, .unset]) rfl (XS.iload X35.here hx rfl (hb hby at_33) rfl  k))) ?_
          show Rch p e below _ (T35.setTop (mkF m 35 #[.val (.int p0), .val (.int p1), .val (.int p2), .val (.int p3), .val (.int (4 : Int32)), .val (.int p2), .val (.ref ro2), .val (.double (FP.l2d p1.toInt64)), .second, .unset, .unset, .unset, .unset, .unset] [(.int p2)]))
          refine Rch.go (fun t k => XS.i2dS X35.here hx rfl (hb hby at_35) rfl (v := (FP.l2d p2.toInt64)) (i2d_w _) (XS.dstore X35.here hx rfl (hb hby at_36) rfl  (l' := #[.val (.int p0), .val (.int p1), .val (.int p2), .val (.int p3), .val (.int (4 : Int32)), .val (.int p2), .val (.ref ro2), .val (.double (FP.l2d p1.toInt64)), .second, .val (.double (FP.l2d p2.toInt64)), .second, .unset, .unset, .unset]) rfl (XS.aload X35.here hx rfl (hb hby at_38) rfl rfl (XS.dload X35.here hx rfl (hb hby at_40) rfl  (XS.dload X35.here hx rfl (hb hby at_42) rfl  k))))) ?_
          show Rch p e below _ (T35.setTop (mkF m 44 #[.val (.int p0), .val (.int p1), .val (.int p2), .val (.int p3), .val (.int (4 : Int32)), .val (.int p2), .val (.ref ro2), .val (.double (FP.l2d p1.toInt64)), .second, .val (.double (FP.l2d p2.toInt64)), .second, .unset, .unset, .unset] [(.double (FP.l2d p2.toInt64)), (.double (FP.l2d p1.toInt64)), (.ref ro2)]))
          obtain ⟨v36, T36, L36, X36, Q36, st36⟩ := callVi X35 hx hZ (m28_holds l Z a0 hw ro2 (FP.l2d p1.toInt64) (FP.l2d p2.toInt64) h0 n0 Z0 O0 G.2.2.2.2.2.1 G.2.2.2.2.2.2.2.2.2.2.2.2.2.2.1 (own_de he .l)) e35 hown (wd_8 hw) (wd_9 hw) (wd_11 hw) (notFace_of_selects (args := #[]) (mvT hZ (wd_11 hw))) (wd_10 hw) (wd_12 hw) (wd_6 hw) (by decide) (hb hby at_44) 0 (by decide) (by decide) (by decide) (by decide) (by rw [hml]; rfl) ro2 (G.2.2.2.2.2.1.ext O0.2) [(.double (FP.l2d p1.toInt64)), (.double (FP.l2d p2.toInt64))] [] rfl (lenOf pd_2 rfl) rfl (Nat.le_of_eq rfl) (Ls := #[.val (.int p0), .val (.int p1), .val (.int p2), .val (.int p3), .val (.int (4 : Int32)), .val (.int p2), .val (.ref ro2), .val (.double (FP.l2d p1.toInt64)), .second, .val (.double (FP.l2d p2.toInt64)), .second, .unset, .unset, .unset])
          obtain ⟨rfl, M36, e36⟩ := Q36
          have N36 := Fr.app N35 M36
          refine Rch.go st36 ?_
          show Rch p e below _ (T36.setTop (mkF m 47 #[.val (.int p0), .val (.int p1), .val (.int p2), .val (.int p3), .val (.int (4 : Int32)), .val (.int p2), .val (.ref ro2), .val (.double (FP.l2d p1.toInt64)), .second, .val (.double (FP.l2d p2.toInt64)), .second, .unset, .unset, .unset] [(.int (1 : Int32))]))
          refine Rch.go (fun t k => XS.istore X36.here hx rfl (hb hby at_47) rfl  (l' := #[.val (.int p0), .val (.int p1), .val (.int p2), .val (.int p3), .val (.int (4 : Int32)), .val (.int p2), .val (.ref ro2), .val (.double (FP.l2d p1.toInt64)), .second, .val (.double (FP.l2d p2.toInt64)), .second, .val (.int (1 : Int32)), .unset, .unset]) rfl (XS.iloadN X36.here hx rfl (hb hby at_49) rfl  (XS.iload X36.here hx rfl (hb hby at_50) rfl  (XS.icmpYes X36.here hx rfl (pc0 := 52) (pc' := 59) rfl (hb hby at_52) rfl (XT.ii_ge_t hl) (by decide) (by decide) (XS.iloadN X36.here hx rfl (hb hby at_59) rfl  (XS.iload X36.here hx rfl (hb hby at_60) rfl  (XS.icmpNo X36.here hx rfl (hb hby at_62) rfl (XT.ii_ne_f he) (XS.iconst X36.here hx rfl (hb hby at_65) (XS.goto X36.here hx rfl (pc0 := 66) (pc' := 70) rfl (hb hby at_66) (by decide) (by decide) (XS.istore X36.here hx rfl (hb hby at_70) rfl  (l' := #[.val (.int p0), .val (.int p1), .val (.int p2), .val (.int p3), .val (.int (4 : Int32)), .val (.int p2), .val (.ref ro2), .val (.double (FP.l2d p1.toInt64)), .second, .val (.double (FP.l2d p2.toInt64)), .second, .val (.int (1 : Int32)), .val (.int (0 : Int32)), .unset]) rfl (XS.iload X36.here hx rfl (hb hby at_72) rfl  (XS.ifYes X36.here hx rfl (pc0 := 74) (pc' := 92) rfl (hb hby at_74) rfl (by decide) (by decide) (by decide) k)))))))))))) ?_
          show Rch p e below _ (T36.setTop (mkF m 92 #[.val (.int p0), .val (.int p1), .val (.int p2), .val (.int p3), .val (.int (4 : Int32)), .val (.int p2), .val (.ref ro2), .val (.double (FP.l2d p1.toInt64)), .second, .val (.double (FP.l2d p2.toInt64)), .second, .val (.int (1 : Int32)), .val (.int (0 : Int32)), .unset] []))
          refine Rch.go (fun t k => XS.iload X36.here hx rfl (hb hby at_92) rfl  (XS.iconst X36.here hx rfl (hb hby at_94) (XS.icmpYes X36.here hx rfl (pc0 := 95) (pc' := 113) rfl (hb hby at_95) rfl (by decide) (by decide) (by decide) (XS.iload X36.here hx rfl (hb hby at_113) rfl  (XS.iconst X36.here hx rfl (hb hby at_115) (XS.icmpYes X36.here hx rfl (pc0 := 116) (pc' := 134) rfl (hb hby at_116) rfl (by decide) (by decide) (by decide) (XS.iload X36.here hx rfl (hb hby at_134) rfl  (XS.iconst X36.here hx rfl (hb hby at_136) (XS.icmpYes X36.here hx rfl (pc0 := 137) (pc' := 155) rfl (hb hby at_137) rfl (by decide) (by decide) (by decide) (XS.iload X36.here hx rfl (hb hby at_155) rfl  (XS.iconst X36.here hx rfl (hb hby at_157) (XS.icmpNo X36.here hx rfl (hb hby at_158) rfl (by decide) k)))))))))))) ?_
          show Rch p e below _ (T36.setTop (mkF m 161 #[.val (.int p0), .val (.int p1), .val (.int p2), .val (.int p3), .val (.int (4 : Int32)), .val (.int p2), .val (.ref ro2), .val (.double (FP.l2d p1.toInt64)), .second, .val (.double (FP.l2d p2.toInt64)), .second, .val (.int (1 : Int32)), .val (.int (0 : Int32)), .unset] []))
          refine Rch.go (fun t k => XS.iload X36.here hx rfl (hb hby at_161) rfl  (XS.ifNo X36.here hx rfl (hb hby at_163) rfl (by decide) (XS.iconst X36.here hx rfl (hb hby at_166) (XS.goto X36.here hx rfl (pc0 := 167) (pc' := 171) rfl (hb hby at_167) (by decide) (by decide) (XS.istore X36.here hx rfl (hb hby at_171) rfl  (l' := #[.val (.int p0), .val (.int p1), .val (.int p2), .val (.int p3), .val (.int (4 : Int32)), .val (.int p2), .val (.ref ro2), .val (.double (FP.l2d p1.toInt64)), .second, .val (.double (FP.l2d p2.toInt64)), .second, .val (.int (1 : Int32)), .val (.int (0 : Int32)), .val (.int (1 : Int32))]) rfl (XS.goto X36.here hx rfl (pc0 := 173) (pc' := 188) rfl (hb hby at_173) (by decide) (by decide) (XS.iload X36.here hx rfl (hb hby at_188) rfl  (XS.iload X36.here hx rfl (hb hby at_190) rfl  (XS.icmpNo X36.here hx rfl (hb hby at_192) rfl (by decide) (XS.iconst X36.here hx rfl (hb hby at_195) (XS.goto X36.here hx rfl (pc0 := 196) (pc' := 200) rfl (hb hby at_196) (by decide) (by decide) k))))))))))) ?_
          show Rch p e below _ (T36.setTop (mkF m 200 #[.val (.int p0), .val (.int p1), .val (.int p2), .val (.int p3), .val (.int (4 : Int32)), .val (.int p2), .val (.ref ro2), .val (.double (FP.l2d p1.toInt64)), .second, .val (.double (FP.l2d p2.toInt64)), .second, .val (.int (1 : Int32)), .val (.int (0 : Int32)), .val (.int (1 : Int32))] [(.int (1 : Int32))]))
          refine Rch.val X36 hx (t := .boolean) hret hlk rfl (mayI (by simp)) (hb hby at_200) (by decide) (by decide) ?_
          try rw [e36]
          exact ⟨rfl, N36⟩
        · show Rch p e below _ (T0.setTop (mkF m 22 #[.val (.int p0), .val (.int p1), .val (.int p2), .val (.int p3), .val (.int (4 : Int32)), .val (.int p2), .unset, .unset, .unset, .unset, .unset, .unset, .unset, .unset] []))
          refine Rch.go (fun t k => XS.iload X0.here hx rfl (hb hby at_22) rfl  k) ?_
          show Rch p e below _ (T0.setTop (mkF m 24 #[.val (.int p0), .val (.int p1), .val (.int p2), .val (.int p3), .val (.int (4 : Int32)), .val (.int p2), .unset, .unset, .unset, .unset, .unset, .unset, .unset, .unset] [(.int (4 : Int32))]))
          obtain ⟨v37, T37, L37, X37, Q37, st37⟩ := callSt X0 hx hZ (m25_pick l Z a0 hw ro2 h0 n0 Z0 O0 G.2.2.2.2.1) e0 hown (wd_1 hw) (wd_2 hw) (wd_4 hw) (wd_3 hw) (by decide) (hb hby at_24) 0 (by decide) (by decide) (by decide) (by decide) (by rw [hml]; rfl) [(.int (4 : Int32))] [] rfl (lenOf pd_0 rfl) rfl (Nat.le_of_eq rfl) (Ls := #[.val (.int p0), .val (.int p1), .val (.int p2), .val (.int p3), .val (.int (4 : Int32)), .val (.int p2), .unset, .unset, .unset, .unset, .unset, .unset, .unset, .unset])
          obtain ⟨rfl, M37, e37⟩ := Q37
          have N37 := Fr.app N0 M37
          refine Rch.go st37 ?_
          show Rch p e below _ (T37.setTop (mkF m 27 #[.val (.int p0), .val (.int p1), .val (.int p2), .val (.int p3), .val (.int (4 : Int32)), .val (.int p2), .unset, .unset, .unset, .unset, .unset, .unset, .unset, .unset] [(.ref ro2)]))
          refine Rch.go (fun t k => XS.astore X37.here hx rfl (hb hby at_27) rfl rfl (l' := #[.val (.int p0), .val (.int p1), .val (.int p2), .val (.int p3), .val (.int (4 : Int32)), .val (.int p2), .val (.ref ro2), .unset, .unset, .unset, .unset, .unset, .unset, .unset]) rfl (XS.iloadN X37.here hx rfl (hb hby at_29) rfl  k)) ?_
          show Rch p e below _ (T37.setTop (mkF m 30 #[.val (.int p0), .val (.int p1), .val (.int p2), .val (.int p3), .val (.int (4 : Int32)), .val (.int p2), .val (.ref ro2), .unset, .unset, .unset, .unset, .unset, .unset, .unset] [(.int p1)]))
          refine Rch.go (fun t k => XS.i2dS X37.here hx rfl (hb hby at_30) rfl (v := (FP.l2d p1.toInt64)) (i2d_w _) (XS.dstore X37.here hx rfl (hb hby at_31) rfl  (l' := #[.val (.int p0), .val (.int p1), .val (.int p2), .val (.int p3), .val (.int (4 : Int32)), .val (.int p2), .val (.ref ro2), .val (.double (FP.l2d p1.toInt64)), .second, .unset, .unset, .unset, .unset, .unset]) rfl (XS.iload X37.here hx rfl (hb hby at_33) rfl  k))) ?_
          show Rch p e below _ (T37.setTop (mkF m 35 #[.val (.int p0), .val (.int p1), .val (.int p2), .val (.int p3), .val (.int (4 : Int32)), .val (.int p2), .val (.ref ro2), .val (.double (FP.l2d p1.toInt64)), .second, .unset, .unset, .unset, .unset, .unset] [(.int p2)]))
          refine Rch.go (fun t k => XS.i2dS X37.here hx rfl (hb hby at_35) rfl (v := (FP.l2d p2.toInt64)) (i2d_w _) (XS.dstore X37.here hx rfl (hb hby at_36) rfl  (l' := #[.val (.int p0), .val (.int p1), .val (.int p2), .val (.int p3), .val (.int (4 : Int32)), .val (.int p2), .val (.ref ro2), .val (.double (FP.l2d p1.toInt64)), .second, .val (.double (FP.l2d p2.toInt64)), .second, .unset, .unset, .unset]) rfl (XS.aload X37.here hx rfl (hb hby at_38) rfl rfl (XS.dload X37.here hx rfl (hb hby at_40) rfl  (XS.dload X37.here hx rfl (hb hby at_42) rfl  k))))) ?_
          show Rch p e below _ (T37.setTop (mkF m 44 #[.val (.int p0), .val (.int p1), .val (.int p2), .val (.int p3), .val (.int (4 : Int32)), .val (.int p2), .val (.ref ro2), .val (.double (FP.l2d p1.toInt64)), .second, .val (.double (FP.l2d p2.toInt64)), .second, .unset, .unset, .unset] [(.double (FP.l2d p2.toInt64)), (.double (FP.l2d p1.toInt64)), (.ref ro2)]))
          obtain ⟨v38, T38, L38, X38, Q38, st38⟩ := callVi X37 hx hZ (m29_holds l Z a0 hw ro2 (FP.l2d p1.toInt64) (FP.l2d p2.toInt64) h0 n0 Z0 O0 G.2.2.2.2.2.1 G.2.2.2.2.2.2.2.2.2.2.2.2.2.2.1 (own_dg hl he .l)) e37 hown (wd_8 hw) (wd_9 hw) (wd_11 hw) (notFace_of_selects (args := #[]) (mvT hZ (wd_11 hw))) (wd_10 hw) (wd_12 hw) (wd_6 hw) (by decide) (hb hby at_44) 0 (by decide) (by decide) (by decide) (by decide) (by rw [hml]; rfl) ro2 (G.2.2.2.2.2.1.ext O0.2) [(.double (FP.l2d p1.toInt64)), (.double (FP.l2d p2.toInt64))] [] rfl (lenOf pd_2 rfl) rfl (Nat.le_of_eq rfl) (Ls := #[.val (.int p0), .val (.int p1), .val (.int p2), .val (.int p3), .val (.int (4 : Int32)), .val (.int p2), .val (.ref ro2), .val (.double (FP.l2d p1.toInt64)), .second, .val (.double (FP.l2d p2.toInt64)), .second, .unset, .unset, .unset])
          obtain ⟨rfl, M38, e38⟩ := Q38
          have N38 := Fr.app N37 M38
          refine Rch.go st38 ?_
          show Rch p e below _ (T38.setTop (mkF m 47 #[.val (.int p0), .val (.int p1), .val (.int p2), .val (.int p3), .val (.int (4 : Int32)), .val (.int p2), .val (.ref ro2), .val (.double (FP.l2d p1.toInt64)), .second, .val (.double (FP.l2d p2.toInt64)), .second, .unset, .unset, .unset] [(.int (1 : Int32))]))
          refine Rch.go (fun t k => XS.istore X38.here hx rfl (hb hby at_47) rfl  (l' := #[.val (.int p0), .val (.int p1), .val (.int p2), .val (.int p3), .val (.int (4 : Int32)), .val (.int p2), .val (.ref ro2), .val (.double (FP.l2d p1.toInt64)), .second, .val (.double (FP.l2d p2.toInt64)), .second, .val (.int (1 : Int32)), .unset, .unset]) rfl (XS.iloadN X38.here hx rfl (hb hby at_49) rfl  (XS.iload X38.here hx rfl (hb hby at_50) rfl  (XS.icmpYes X38.here hx rfl (pc0 := 52) (pc' := 59) rfl (hb hby at_52) rfl (XT.ii_ge_t hl) (by decide) (by decide) (XS.iloadN X38.here hx rfl (hb hby at_59) rfl  (XS.iload X38.here hx rfl (hb hby at_60) rfl  (XS.icmpYes X38.here hx rfl (pc0 := 62) (pc' := 69) rfl (hb hby at_62) rfl (XT.ii_ne_t he) (by decide) (by decide) (XS.iconst X38.here hx rfl (hb hby at_69) (XS.istore X38.here hx rfl (hb hby at_70) rfl  (l' := #[.val (.int p0), .val (.int p1), .val (.int p2), .val (.int p3), .val (.int (4 : Int32)), .val (.int p2), .val (.ref ro2), .val (.double (FP.l2d p1.toInt64)), .second, .val (.double (FP.l2d p2.toInt64)), .second, .val (.int (1 : Int32)), .val (.int (1 : Int32)), .unset]) rfl (XS.iload X38.here hx rfl (hb hby at_72) rfl  (XS.ifYes X38.here hx rfl (pc0 := 74) (pc' := 92) rfl (hb hby at_74) rfl (by decide) (by decide) (by decide) (XS.iload X38.here hx rfl (hb hby at_92) rfl  k)))))))))))) ?_
          show Rch p e below _ (T38.setTop (mkF m 94 #[.val (.int p0), .val (.int p1), .val (.int p2), .val (.int p3), .val (.int (4 : Int32)), .val (.int p2), .val (.ref ro2), .val (.double (FP.l2d p1.toInt64)), .second, .val (.double (FP.l2d p2.toInt64)), .second, .val (.int (1 : Int32)), .val (.int (1 : Int32)), .unset] [(.int (4 : Int32))]))
          refine Rch.go (fun t k => XS.iconst X38.here hx rfl (hb hby at_94) (XS.icmpYes X38.here hx rfl (pc0 := 95) (pc' := 113) rfl (hb hby at_95) rfl (by decide) (by decide) (by decide) (XS.iload X38.here hx rfl (hb hby at_113) rfl  (XS.iconst X38.here hx rfl (hb hby at_115) (XS.icmpYes X38.here hx rfl (pc0 := 116) (pc' := 134) rfl (hb hby at_116) rfl (by decide) (by decide) (by decide) (XS.iload X38.here hx rfl (hb hby at_134) rfl  (XS.iconst X38.here hx rfl (hb hby at_136) (XS.icmpYes X38.here hx rfl (pc0 := 137) (pc' := 155) rfl (hb hby at_137) rfl (by decide) (by decide) (by decide) (XS.iload X38.here hx rfl (hb hby at_155) rfl  (XS.iconst X38.here hx rfl (hb hby at_157) (XS.icmpNo X38.here hx rfl (hb hby at_158) rfl (by decide) (XS.iload X38.here hx rfl (hb hby at_161) rfl  k)))))))))))) ?_
          show Rch p e below _ (T38.setTop (mkF m 163 #[.val (.int p0), .val (.int p1), .val (.int p2), .val (.int p3), .val (.int (4 : Int32)), .val (.int p2), .val (.ref ro2), .val (.double (FP.l2d p1.toInt64)), .second, .val (.double (FP.l2d p2.toInt64)), .second, .val (.int (1 : Int32)), .val (.int (1 : Int32)), .unset] [(.int (1 : Int32))]))
          refine Rch.go (fun t k => XS.ifNo X38.here hx rfl (hb hby at_163) rfl (by decide) (XS.iconst X38.here hx rfl (hb hby at_166) (XS.goto X38.here hx rfl (pc0 := 167) (pc' := 171) rfl (hb hby at_167) (by decide) (by decide) (XS.istore X38.here hx rfl (hb hby at_171) rfl  (l' := #[.val (.int p0), .val (.int p1), .val (.int p2), .val (.int p3), .val (.int (4 : Int32)), .val (.int p2), .val (.ref ro2), .val (.double (FP.l2d p1.toInt64)), .second, .val (.double (FP.l2d p2.toInt64)), .second, .val (.int (1 : Int32)), .val (.int (1 : Int32)), .val (.int (1 : Int32))]) rfl (XS.goto X38.here hx rfl (pc0 := 173) (pc' := 188) rfl (hb hby at_173) (by decide) (by decide) (XS.iload X38.here hx rfl (hb hby at_188) rfl  (XS.iload X38.here hx rfl (hb hby at_190) rfl  (XS.icmpNo X38.here hx rfl (hb hby at_192) rfl (by decide) (XS.iconst X38.here hx rfl (hb hby at_195) (XS.goto X38.here hx rfl (pc0 := 196) (pc' := 200) rfl (hb hby at_196) (by decide) (by decide) k)))))))))) ?_
          show Rch p e below _ (T38.setTop (mkF m 200 #[.val (.int p0), .val (.int p1), .val (.int p2), .val (.int p3), .val (.int (4 : Int32)), .val (.int p2), .val (.ref ro2), .val (.double (FP.l2d p1.toInt64)), .second, .val (.double (FP.l2d p2.toInt64)), .second, .val (.int (1 : Int32)), .val (.int (1 : Int32)), .val (.int (1 : Int32))] [(.int (1 : Int32))]))
          refine Rch.val X38 hx (t := .boolean) hret hlk rfl (mayI (by simp)) (hb hby at_200) (by decide) (by decide) ?_
          try rw [e38]
          exact ⟨rfl, N38⟩
    · show Rch p e below _ (T0.setTop (mkF m 12 #[.val (.int p0), .val (.int p1), .val (.int p2), .val (.int p3), .val (.int (4 : Int32)), .unset, .unset, .unset, .unset, .unset, .unset, .unset, .unset, .unset] [(.int (p3 &&& (1 : Int32)))]))
      refine Rch.go (fun t k => XS.ifNo X0.here hx rfl (hb hby at_12) rfl (XT.i0_eq_f hm) (XS.iloadN X0.here hx rfl (hb hby at_15) rfl  (XS.goto X0.here hx rfl (pc0 := 16) (pc' := 20) rfl (hb hby at_16) (by decide) (by decide) (XS.istore X0.here hx rfl (hb hby at_20) rfl  (l' := #[.val (.int p0), .val (.int p1), .val (.int p2), .val (.int p3), .val (.int (4 : Int32)), .val (.int p1), .unset, .unset, .unset, .unset, .unset, .unset, .unset, .unset]) rfl k)))) ?_
      show Rch p e below _ (T0.setTop (mkF m 22 #[.val (.int p0), .val (.int p1), .val (.int p2), .val (.int p3), .val (.int (4 : Int32)), .val (.int p1), .unset, .unset, .unset, .unset, .unset, .unset, .unset, .unset] []))
      refine Rch.go (fun t k => XS.iload X0.here hx rfl (hb hby at_22) rfl  k) ?_
      show Rch p e below _ (T0.setTop (mkF m 24 #[.val (.int p0), .val (.int p1), .val (.int p2), .val (.int p3), .val (.int (4 : Int32)), .val (.int p1), .unset, .unset, .unset, .unset, .unset, .unset, .unset, .unset] [(.int (4 : Int32))]))
      obtain ⟨v39, T39, L39, X39, Q39, st39⟩ := callSt X0 hx hZ (m25_pick l Z a0 hw ro2 h0 n0 Z0 O0 G.2.2.2.2.1) e0 hown (wd_1 hw) (wd_2 hw) (wd_4 hw) (wd_3 hw) (by decide) (hb hby at_24) 0 (by decide) (by decide) (by decide) (by decide) (by rw [hml]; rfl) [(.int (4 : Int32))] [] rfl (lenOf pd_0 rfl) rfl (Nat.le_of_eq rfl) (Ls := #[.val (.int p0), .val (.int p1), .val (.int p2), .val (.int p3), .val (.int (4 : Int32)), .val (.int p1), .unset, .unset, .unset, .unset, .unset, .unset, .unset, .unset])
      obtain ⟨rfl, M39, e39⟩ := Q39
      have N39 := Fr.app N0 M39
      refine Rch.go st39 ?_
      show Rch p e below _ (T39.setTop (mkF m 27 #[.val (.int p0), .val (.int p1), .val (.int p2), .val (.int p3), .val (.int (4 : Int32)), .val (.int p1), .unset, .unset, .unset, .unset, .unset, .unset, .unset, .unset] [(.ref ro2)]))
      refine Rch.go (fun t k => XS.astore X39.here hx rfl (hb hby at_27) rfl rfl (l' := #[.val (.int p0), .val (.int p1), .val (.int p2), .val (.int p3), .val (.int (4 : Int32)), .val (.int p1), .val (.ref ro2), .unset, .unset, .unset, .unset, .unset, .unset, .unset]) rfl (XS.iloadN X39.here hx rfl (hb hby at_29) rfl  k)) ?_
      show Rch p e below _ (T39.setTop (mkF m 30 #[.val (.int p0), .val (.int p1), .val (.int p2), .val (.int p3), .val (.int (4 : Int32)), .val (.int p1), .val (.ref ro2), .unset, .unset, .unset, .unset, .unset, .unset, .unset] [(.int p1)]))
      refine Rch.go (fun t k => XS.i2dS X39.here hx rfl (hb hby at_30) rfl (v := (FP.l2d p1.toInt64)) (i2d_w _) (XS.dstore X39.here hx rfl (hb hby at_31) rfl  (l' := #[.val (.int p0), .val (.int p1), .val (.int p2), .val (.int p3), .val (.int (4 : Int32)), .val (.int p1), .val (.ref ro2), .val (.double (FP.l2d p1.toInt64)), .second, .unset, .unset, .unset, .unset, .unset]) rfl (XS.iload X39.here hx rfl (hb hby at_33) rfl  k))) ?_
      show Rch p e below _ (T39.setTop (mkF m 35 #[.val (.int p0), .val (.int p1), .val (.int p2), .val (.int p3), .val (.int (4 : Int32)), .val (.int p1), .val (.ref ro2), .val (.double (FP.l2d p1.toInt64)), .second, .unset, .unset, .unset, .unset, .unset] [(.int p1)]))
      refine Rch.go (fun t k => XS.i2dS X39.here hx rfl (hb hby at_35) rfl (v := (FP.l2d p1.toInt64)) (i2d_w _) (XS.dstore X39.here hx rfl (hb hby at_36) rfl  (l' := #[.val (.int p0), .val (.int p1), .val (.int p2), .val (.int p3), .val (.int (4 : Int32)), .val (.int p1), .val (.ref ro2), .val (.double (FP.l2d p1.toInt64)), .second, .val (.double (FP.l2d p1.toInt64)), .second, .unset, .unset, .unset]) rfl (XS.aload X39.here hx rfl (hb hby at_38) rfl rfl (XS.dload X39.here hx rfl (hb hby at_40) rfl  (XS.dload X39.here hx rfl (hb hby at_42) rfl  k))))) ?_
      show Rch p e below _ (T39.setTop (mkF m 44 #[.val (.int p0), .val (.int p1), .val (.int p2), .val (.int p3), .val (.int (4 : Int32)), .val (.int p1), .val (.ref ro2), .val (.double (FP.l2d p1.toInt64)), .second, .val (.double (FP.l2d p1.toInt64)), .second, .unset, .unset, .unset] [(.double (FP.l2d p1.toInt64)), (.double (FP.l2d p1.toInt64)), (.ref ro2)]))
      obtain ⟨v40, T40, L40, X40, Q40, st40⟩ := callVi X39 hx hZ (m30_holds l Z a0 hw ro2 (FP.l2d p1.toInt64) h0 n0 Z0 O0 G.2.2.2.2.2.1 G.2.2.2.2.2.2.2.2.2.2.2.2.2.2.1 (own_de rfl .l)) e39 hown (wd_8 hw) (wd_9 hw) (wd_11 hw) (notFace_of_selects (args := #[]) (mvT hZ (wd_11 hw))) (wd_10 hw) (wd_12 hw) (wd_6 hw) (by decide) (hb hby at_44) 0 (by decide) (by decide) (by decide) (by decide) (by rw [hml]; rfl) ro2 (G.2.2.2.2.2.1.ext O0.2) [(.double (FP.l2d p1.toInt64)), (.double (FP.l2d p1.toInt64))] [] rfl (lenOf pd_2 rfl) rfl (Nat.le_of_eq rfl) (Ls := #[.val (.int p0), .val (.int p1), .val (.int p2), .val (.int p3), .val (.int (4 : Int32)), .val (.int p1), .val (.ref ro2), .val (.double (FP.l2d p1.toInt64)), .second, .val (.double (FP.l2d p1.toInt64)), .second, .unset, .unset, .unset])
      obtain ⟨rfl, M40, e40⟩ := Q40
      have N40 := Fr.app N39 M40
      refine Rch.go st40 ?_
      show Rch p e below _ (T40.setTop (mkF m 47 #[.val (.int p0), .val (.int p1), .val (.int p2), .val (.int p3), .val (.int (4 : Int32)), .val (.int p1), .val (.ref ro2), .val (.double (FP.l2d p1.toInt64)), .second, .val (.double (FP.l2d p1.toInt64)), .second, .unset, .unset, .unset] [(.int (1 : Int32))]))
      refine Rch.go (fun t k => XS.istore X40.here hx rfl (hb hby at_47) rfl  (l' := #[.val (.int p0), .val (.int p1), .val (.int p2), .val (.int p3), .val (.int (4 : Int32)), .val (.int p1), .val (.ref ro2), .val (.double (FP.l2d p1.toInt64)), .second, .val (.double (FP.l2d p1.toInt64)), .second, .val (.int (1 : Int32)), .unset, .unset]) rfl (XS.iloadN X40.here hx rfl (hb hby at_49) rfl  (XS.iload X40.here hx rfl (hb hby at_50) rfl  (XS.icmpYes X40.here hx rfl (pc0 := 52) (pc' := 59) rfl (hb hby at_52) rfl (XT.ii_ge_t Int32.lt_irrefl) (by decide) (by decide) (XS.iloadN X40.here hx rfl (hb hby at_59) rfl  (XS.iload X40.here hx rfl (hb hby at_60) rfl  (XS.icmpNo X40.here hx rfl (hb hby at_62) rfl (XT.ii_ne_f rfl) (XS.iconst X40.here hx rfl (hb hby at_65) (XS.goto X40.here hx rfl (pc0 := 66) (pc' := 70) rfl (hb hby at_66) (by decide) (by decide) (XS.istore X40.here hx rfl (hb hby at_70) rfl  (l' := #[.val (.int p0), .val (.int p1), .val (.int p2), .val (.int p3), .val (.int (4 : Int32)), .val (.int p1), .val (.ref ro2), .val (.double (FP.l2d p1.toInt64)), .second, .val (.double (FP.l2d p1.toInt64)), .second, .val (.int (1 : Int32)), .val (.int (0 : Int32)), .unset]) rfl (XS.iload X40.here hx rfl (hb hby at_72) rfl  (XS.ifYes X40.here hx rfl (pc0 := 74) (pc' := 92) rfl (hb hby at_74) rfl (by decide) (by decide) (by decide) k)))))))))))) ?_
      show Rch p e below _ (T40.setTop (mkF m 92 #[.val (.int p0), .val (.int p1), .val (.int p2), .val (.int p3), .val (.int (4 : Int32)), .val (.int p1), .val (.ref ro2), .val (.double (FP.l2d p1.toInt64)), .second, .val (.double (FP.l2d p1.toInt64)), .second, .val (.int (1 : Int32)), .val (.int (0 : Int32)), .unset] []))
      refine Rch.go (fun t k => XS.iload X40.here hx rfl (hb hby at_92) rfl  (XS.iconst X40.here hx rfl (hb hby at_94) (XS.icmpYes X40.here hx rfl (pc0 := 95) (pc' := 113) rfl (hb hby at_95) rfl (by decide) (by decide) (by decide) (XS.iload X40.here hx rfl (hb hby at_113) rfl  (XS.iconst X40.here hx rfl (hb hby at_115) (XS.icmpYes X40.here hx rfl (pc0 := 116) (pc' := 134) rfl (hb hby at_116) rfl (by decide) (by decide) (by decide) (XS.iload X40.here hx rfl (hb hby at_134) rfl  (XS.iconst X40.here hx rfl (hb hby at_136) (XS.icmpYes X40.here hx rfl (pc0 := 137) (pc' := 155) rfl (hb hby at_137) rfl (by decide) (by decide) (by decide) (XS.iload X40.here hx rfl (hb hby at_155) rfl  (XS.iconst X40.here hx rfl (hb hby at_157) (XS.icmpNo X40.here hx rfl (hb hby at_158) rfl (by decide) k)))))))))))) ?_
      show Rch p e below _ (T40.setTop (mkF m 161 #[.val (.int p0), .val (.int p1), .val (.int p2), .val (.int p3), .val (.int (4 : Int32)), .val (.int p1), .val (.ref ro2), .val (.double (FP.l2d p1.toInt64)), .second, .val (.double (FP.l2d p1.toInt64)), .second, .val (.int (1 : Int32)), .val (.int (0 : Int32)), .unset] []))
      refine Rch.go (fun t k => XS.iload X40.here hx rfl (hb hby at_161) rfl  (XS.ifNo X40.here hx rfl (hb hby at_163) rfl (by decide) (XS.iconst X40.here hx rfl (hb hby at_166) (XS.goto X40.here hx rfl (pc0 := 167) (pc' := 171) rfl (hb hby at_167) (by decide) (by decide) (XS.istore X40.here hx rfl (hb hby at_171) rfl  (l' := #[.val (.int p0), .val (.int p1), .val (.int p2), .val (.int p3), .val (.int (4 : Int32)), .val (.int p1), .val (.ref ro2), .val (.double (FP.l2d p1.toInt64)), .second, .val (.double (FP.l2d p1.toInt64)), .second, .val (.int (1 : Int32)), .val (.int (0 : Int32)), .val (.int (1 : Int32))]) rfl (XS.goto X40.here hx rfl (pc0 := 173) (pc' := 188) rfl (hb hby at_173) (by decide) (by decide) (XS.iload X40.here hx rfl (hb hby at_188) rfl  (XS.iload X40.here hx rfl (hb hby at_190) rfl  (XS.icmpNo X40.here hx rfl (hb hby at_192) rfl (by decide) (XS.iconst X40.here hx rfl (hb hby at_195) (XS.goto X40.here hx rfl (pc0 := 196) (pc' := 200) rfl (hb hby at_196) (by decide) (by decide) k))))))))))) ?_
      show Rch p e below _ (T40.setTop (mkF m 200 #[.val (.int p0), .val (.int p1), .val (.int p2), .val (.int p3), .val (.int (4 : Int32)), .val (.int p1), .val (.ref ro2), .val (.double (FP.l2d p1.toInt64)), .second, .val (.double (FP.l2d p1.toInt64)), .second, .val (.int (1 : Int32)), .val (.int (0 : Int32)), .val (.int (1 : Int32))] [(.int (1 : Int32))]))
      refine Rch.val X40 hx (t := .boolean) hret hlk rfl (mayI (by simp)) (hb hby at_200) (by decide) (by decide) ?_
      try rw [e40]
      exact ⟨rfl, N40⟩
  · rw [hq]
    show Rch p e below _ (T0.setTop (mkF m 7 #[.val (.int p0), .val (.int p1), .val (.int p2), .val (.int p3), .unset, .unset, .unset, .unset, .unset, .unset, .unset, .unset, .unset, .unset] [(.int (5 : Int32))]))
    refine Rch.go (fun t k => XS.istore X0.here hx rfl (hb hby at_7) rfl  (l' := #[.val (.int p0), .val (.int p1), .val (.int p2), .val (.int p3), .val (.int (5 : Int32)), .unset, .unset, .unset, .unset, .unset, .unset, .unset, .unset, .unset]) rfl (XS.iloadN X0.here hx rfl (hb hby at_9) rfl  (XS.iconst X0.here hx rfl (hb hby at_10) (XS.iand X0.here hx rfl (hb hby at_11) rfl k)))) ?_
    show Rch p e below _ (T0.setTop (mkF m 12 #[.val (.int p0), .val (.int p1), .val (.int p2), .val (.int p3), .val (.int (5 : Int32)), .unset, .unset, .unset, .unset, .unset, .unset, .unset, .unset, .unset] [(.int (p3 &&& (1 : Int32)))]))
    by_cases hm : (p3 &&& (1 : Int32)) = (0 : Int32)
    · show Rch p e below _ (T0.setTop (mkF m 12 #[.val (.int p0), .val (.int p1), .val (.int p2), .val (.int p3), .val (.int (5 : Int32)), .unset, .unset, .unset, .unset, .unset, .unset, .unset, .unset, .unset] [(.int (p3 &&& (1 : Int32)))]))
      refine Rch.go (fun t k => XS.ifYes X0.here hx rfl (pc0 := 12) (pc' := 19) rfl (hb hby at_12) rfl (XT.i0_eq_t hm) (by decide) (by decide) (XS.iloadN X0.here hx rfl (hb hby at_19) rfl  (XS.istore X0.here hx rfl (hb hby at_20) rfl  (l' := #[.val (.int p0), .val (.int p1), .val (.int p2), .val (.int p3), .val (.int (5 : Int32)), .val (.int p2), .unset, .unset, .unset, .unset, .unset, .unset, .unset, .unset]) rfl k))) ?_
      show Rch p e below _ (T0.setTop (mkF m 22 #[.val (.int p0), .val (.int p1), .val (.int p2), .val (.int p3), .val (.int (5 : Int32)), .val (.int p2), .unset, .unset, .unset, .unset, .unset, .unset, .unset, .unset] []))
      by_cases hl : p1 < p2
      · show Rch p e below _ (T0.setTop (mkF m 22 #[.val (.int p0), .val (.int p1), .val (.int p2), .val (.int p3), .val (.int (5 : Int32)), .val (.int p2), .unset, .unset, .unset, .unset, .unset, .unset, .unset, .unset] []))
        refine Rch.go (fun t k => XS.iload X0.here hx rfl (hb hby at_22) rfl  k) ?_
        show Rch p e below _ (T0.setTop (mkF m 24 #[.val (.int p0), .val (.int p1), .val (.int p2), .val (.int p3), .val (.int (5 : Int32)), .val (.int p2), .unset, .unset, .unset, .unset, .unset, .unset, .unset, .unset] [(.int (5 : Int32))]))
        obtain ⟨v41, T41, L41, X41, Q41, st41⟩ := callSt X0 hx hZ (m31_pick l Z a0 hw ro4 h0 n0 Z0 O0 G.2.2.2.2.2.2.2.2.1) e0 hown (wd_1 hw) (wd_2 hw) (wd_4 hw) (wd_3 hw) (by decide) (hb hby at_24) 0 (by decide) (by decide) (by decide) (by decide) (by rw [hml]; rfl) [(.int (5 : Int32))] [] rfl (lenOf pd_0 rfl) rfl (Nat.le_of_eq rfl) (Ls := #[.val (.int p0), .val (.int p1), .val (.int p2), .val (.int p3), .val (.int (5 : Int32)), .val (.int p2), .unset, .unset, .unset, .unset, .unset, .unset, .unset, .unset])
        obtain ⟨rfl, M41, e41⟩ := Q41
        have N41 := Fr.app N0 M41
        refine Rch.go st41 ?_
        show Rch p e below _ (T41.setTop (mkF m 27 #[.val (.int p0), .val (.int p1), .val (.int p2), .val (.int p3), .val (.int (5 : Int32)), .val (.int p2), .unset, .unset, .unset, .unset, .unset, .unset, .unset, .unset] [(.ref ro4)]))
        refine Rch.go (fun t k => XS.astore X41.here hx rfl (hb hby at_27) rfl rfl (l' := #[.val (.int p0), .val (.int p1), .val (.int p2), .val (.int p3), .val (.int (5 : Int32)), .val (.int p2), .val (.ref ro4), .unset, .unset, .unset, .unset, .unset, .unset, .unset]) rfl (XS.iloadN X41.here hx rfl (hb hby at_29) rfl  k)) ?_
        show Rch p e below _ (T41.setTop (mkF m 30 #[.val (.int p0), .val (.int p1), .val (.int p2), .val (.int p3), .val (.int (5 : Int32)), .val (.int p2), .val (.ref ro4), .unset, .unset, .unset, .unset, .unset, .unset, .unset] [(.int p1)]))
        refine Rch.go (fun t k => XS.i2dS X41.here hx rfl (hb hby at_30) rfl (v := (FP.l2d p1.toInt64)) (i2d_w _) (XS.dstore X41.here hx rfl (hb hby at_31) rfl  (l' := #[.val (.int p0), .val (.int p1), .val (.int p2), .val (.int p3), .val (.int (5 : Int32)), .val (.int p2), .val (.ref ro4), .val (.double (FP.l2d p1.toInt64)), .second, .unset, .unset, .unset, .unset, .unset]) rfl (XS.iload X41.here hx rfl (hb hby at_33) rfl  k))) ?_
        show Rch p e below _ (T41.setTop (mkF m 35 #[.val (.int p0), .val (.int p1), .val (.int p2), .val (.int p3), .val (.int (5 : Int32)), .val (.int p2), .val (.ref ro4), .val (.double (FP.l2d p1.toInt64)), .second, .unset, .unset, .unset, .unset, .unset] [(.int p2)]))
        refine Rch.go (fun t k => XS.i2dS X41.here hx rfl (hb hby at_35) rfl (v := (FP.l2d p2.toInt64)) (i2d_w _) (XS.dstore X41.here hx rfl (hb hby at_36) rfl  (l' := #[.val (.int p0), .val (.int p1), .val (.int p2), .val (.int p3), .val (.int (5 : Int32)), .val (.int p2), .val (.ref ro4), .val (.double (FP.l2d p1.toInt64)), .second, .val (.double (FP.l2d p2.toInt64)), .second, .unset, .unset, .unset]) rfl (XS.aload X41.here hx rfl (hb hby at_38) rfl rfl (XS.dload X41.here hx rfl (hb hby at_40) rfl  (XS.dload X41.here hx rfl (hb hby at_42) rfl  k))))) ?_
        show Rch p e below _ (T41.setTop (mkF m 44 #[.val (.int p0), .val (.int p1), .val (.int p2), .val (.int p3), .val (.int (5 : Int32)), .val (.int p2), .val (.ref ro4), .val (.double (FP.l2d p1.toInt64)), .second, .val (.double (FP.l2d p2.toInt64)), .second, .unset, .unset, .unset] [(.double (FP.l2d p2.toInt64)), (.double (FP.l2d p1.toInt64)), (.ref ro4)]))
        obtain ⟨v42, T42, L42, X42, Q42, st42⟩ := callVi X41 hx hZ (m32_holds l Z a0 hw ro4 (FP.l2d p1.toInt64) (FP.l2d p2.toInt64) h0 n0 Z0 O0 G.2.2.2.2.2.2.2.2.2.1 G.2.2.2.2.2.2.2.2.2.2.2.2.2.2.2.2.1 (own_dl hl .l)) e41 hown (wd_8 hw) (wd_9 hw) (wd_11 hw) (notFace_of_selects (args := #[]) (mvT hZ (wd_11 hw))) (wd_10 hw) (wd_12 hw) (wd_6 hw) (by decide) (hb hby at_44) 0 (by decide) (by decide) (by decide) (by decide) (by rw [hml]; rfl) ro4 (G.2.2.2.2.2.2.2.2.2.1.ext O0.2) [(.double (FP.l2d p1.toInt64)), (.double (FP.l2d p2.toInt64))] [] rfl (lenOf pd_2 rfl) rfl (Nat.le_of_eq rfl) (Ls := #[.val (.int p0), .val (.int p1), .val (.int p2), .val (.int p3), .val (.int (5 : Int32)), .val (.int p2), .val (.ref ro4), .val (.double (FP.l2d p1.toInt64)), .second, .val (.double (FP.l2d p2.toInt64)), .second, .unset, .unset, .unset])
        obtain ⟨rfl, M42, e42⟩ := Q42
        have N42 := Fr.app N41 M42
        refine Rch.go st42 ?_
        show Rch p e below _ (T42.setTop (mkF m 47 #[.val (.int p0), .val (.int p1), .val (.int p2), .val (.int p3), .val (.int (5 : Int32)), .val (.int p2), .val (.ref ro4), .val (.double (FP.l2d p1.toInt64)), .second, .val (.double (FP.l2d p2.toInt64)), .second, .unset, .unset, .unset] [(.int (0 : Int32))]))
        refine Rch.go (fun t k => XS.istore X42.here hx rfl (hb hby at_47) rfl  (l' := #[.val (.int p0), .val (.int p1), .val (.int p2), .val (.int p3), .val (.int (5 : Int32)), .val (.int p2), .val (.ref ro4), .val (.double (FP.l2d p1.toInt64)), .second, .val (.double (FP.l2d p2.toInt64)), .second, .val (.int (0 : Int32)), .unset, .unset]) rfl (XS.iloadN X42.here hx rfl (hb hby at_49) rfl  (XS.iload X42.here hx rfl (hb hby at_50) rfl  (XS.icmpNo X42.here hx rfl (hb hby at_52) rfl (XT.ii_ge_f hl) (XS.iconst X42.here hx rfl (hb hby at_55) (XS.goto X42.here hx rfl (pc0 := 56) (pc' := 70) rfl (hb hby at_56) (by decide) (by decide) (XS.istore X42.here hx rfl (hb hby at_70) rfl  (l' := #[.val (.int p0), .val (.int p1), .val (.int p2), .val (.int p3), .val (.int (5 : Int32)), .val (.int p2), .val (.ref ro4), .val (.double (FP.l2d p1.toInt64)), .second, .val (.double (FP.l2d p2.toInt64)), .second, .val (.int (0 : Int32)), .val (.int (-1 : Int32)), .unset]) rfl (XS.iload X42.here hx rfl (hb hby at_72) rfl  (XS.ifYes X42.here hx rfl (pc0 := 74) (pc' := 92) rfl (hb hby at_74) rfl (by decide) (by decide) (by decide) (XS.iload X42.here hx rfl (hb hby at_92) rfl  (XS.iconst X42.here hx rfl (hb hby at_94) (XS.icmpYes X42.here hx rfl (pc0 := 95) (pc' := 113) rfl (hb hby at_95) rfl (by decide) (by decide) (by decide) k)))))))))))) ?_
        show Rch p e below _ (T42.setTop (mkF m 113 #[.val (.int p0), .val (.int p1), .val (.int p2), .val (.int p3), .val (.int (5 : Int32)), .val (.int p2), .val (.ref ro4), .val (.double (FP.l2d p1.toInt64)), .second, .val (.double (FP.l2d p2.toInt64)), .second, .val (.int (0 : Int32)), .val (.int (-1 : Int32)), .unset] []))
        refine Rch.go (fun t k => XS.iload X42.here hx rfl (hb hby at_113) rfl  (XS.iconst X42.here hx rfl (hb hby at_115) (XS.icmpYes X42.here hx rfl (pc0 := 116) (pc' := 134) rfl (hb hby at_116) rfl (by decide) (by decide) (by decide) (XS.iload X42.here hx rfl (hb hby at_134) rfl  (XS.iconst X42.here hx rfl (hb hby at_136) (XS.icmpYes X42.here hx rfl (pc0 := 137) (pc' := 155) rfl (hb hby at_137) rfl (by decide) (by decide) (by decide) (XS.iload X42.here hx rfl (hb hby at_155) rfl  (XS.iconst X42.here hx rfl (hb hby at_157) (XS.icmpYes X42.here hx rfl (pc0 := 158) (pc' := 176) rfl (hb hby at_158) rfl (by decide) (by decide) (by decide) (XS.iload X42.here hx rfl (hb hby at_176) rfl  (XS.ifYes X42.here hx rfl (pc0 := 178) (pc' := 185) rfl (hb hby at_178) rfl (by decide) (by decide) (by decide) (XS.iconst X42.here hx rfl (hb hby at_185) k)))))))))))) ?_
        show Rch p e below _ (T42.setTop (mkF m 186 #[.val (.int p0), .val (.int p1), .val (.int p2), .val (.int p3), .val (.int (5 : Int32)), .val (.int p2), .val (.ref ro4), .val (.double (FP.l2d p1.toInt64)), .second, .val (.double (FP.l2d p2.toInt64)), .second, .val (.int (0 : Int32)), .val (.int (-1 : Int32)), .unset] [(.int (0 : Int32))]))
        refine Rch.go (fun t k => XS.istore X42.here hx rfl (hb hby at_186) rfl  (l' := #[.val (.int p0), .val (.int p1), .val (.int p2), .val (.int p3), .val (.int (5 : Int32)), .val (.int p2), .val (.ref ro4), .val (.double (FP.l2d p1.toInt64)), .second, .val (.double (FP.l2d p2.toInt64)), .second, .val (.int (0 : Int32)), .val (.int (-1 : Int32)), .val (.int (0 : Int32))]) rfl (XS.iload X42.here hx rfl (hb hby at_188) rfl  (XS.iload X42.here hx rfl (hb hby at_190) rfl  (XS.icmpNo X42.here hx rfl (hb hby at_192) rfl (by decide) (XS.iconst X42.here hx rfl (hb hby at_195) (XS.goto X42.here hx rfl (pc0 := 196) (pc' := 200) rfl (hb hby at_196) (by decide) (by decide) k)))))) ?_
        show Rch p e below _ (T42.setTop (mkF m 200 #[.val (.int p0), .val (.int p1), .val (.int p2), .val (.int p3), .val (.int (5 : Int32)), .val (.int p2), .val (.ref ro4), .val (.double (FP.l2d p1.toInt64)), .second, .val (.double (FP.l2d p2.toInt64)), .second, .val (.int (0 : Int32)), .val (.int (-1 : Int32)), .val (.int (0 : Int32))] [(.int (1 : Int32))]))
        refine Rch.val X42 hx (t := .boolean) hret hlk rfl (mayI (by simp)) (hb hby at_200) (by decide) (by decide) ?_
        try rw [e42]
        exact ⟨rfl, N42⟩
      · by_cases he : p1 = p2
        · show Rch p e below _ (T0.setTop (mkF m 22 #[.val (.int p0), .val (.int p1), .val (.int p2), .val (.int p3), .val (.int (5 : Int32)), .val (.int p2), .unset, .unset, .unset, .unset, .unset, .unset, .unset, .unset] []))
          refine Rch.go (fun t k => XS.iload X0.here hx rfl (hb hby at_22) rfl  k) ?_
          show Rch p e below _ (T0.setTop (mkF m 24 #[.val (.int p0), .val (.int p1), .val (.int p2), .val (.int p3), .val (.int (5 : Int32)), .val (.int p2), .unset, .unset, .unset, .unset, .unset, .unset, .unset, .unset] [(.int (5 : Int32))]))
          obtain ⟨v43, T43, L43, X43, Q43, st43⟩ := callSt X0 hx hZ (m31_pick l Z a0 hw ro4 h0 n0 Z0 O0 G.2.2.2.2.2.2.2.2.1) e0 hown (wd_1 hw) (wd_2 hw) (wd_4 hw) (wd_3 hw) (by decide) (hb hby at_24) 0 (by decide) (by decide) (by decide) (by decide) (by rw [hml]; rfl) [(.int (5 : Int32))] [] rfl (lenOf pd_0 rfl) rfl (Nat.le_of_eq rfl) (Ls := #[.val (.int p0), .val (.int p1), .val (.int p2), .val (.int p3), .val (.int (5 : Int32)), .val (.int p2), .unset, .unset, .unset, .unset, .unset, .unset, .unset, .unset])
          obtain ⟨rfl, M43, e43⟩ := Q43
          have N43 := Fr.app N0 M43
          refine Rch.go st43 ?_
          show Rch p e below _ (T43.setTop (mkF m 27 #[.val (.int p0), .val (.int p1), .val (.int p2), .val (.int p3), .val (.int (5 : Int32)), .val (.int p2), .unset, .unset, .unset, .unset, .unset, .unset, .unset, .unset] [(.ref ro4)]))
          refine Rch.go (fun t k => XS.astore X43.here hx rfl (hb hby at_27) rfl rfl (l' := #[.val (.int p0), .val (.int p1), .val (.int p2), .val (.int p3), .val (.int (5 : Int32)), .val (.int p2), .val (.ref ro4), .unset, .unset, .unset, .unset, .unset, .unset, .unset]) rfl (XS.iloadN X43.here hx rfl (hb hby at_29) rfl  k)) ?_
          show Rch p e below _ (T43.setTop (mkF m 30 #[.val (.int p0), .val (.int p1), .val (.int p2), .val (.int p3), .val (.int (5 : Int32)), .val (.int p2), .val (.ref ro4), .unset, .unset, .unset, .unset, .unset, .unset, .unset] [(.int p1)]))
          refine Rch.go (fun t k => XS.i2dS X43.here hx rfl (hb hby at_30) rfl (v := (FP.l2d p1.toInt64)) (i2d_w _) (XS.dstore X43.here hx rfl (hb hby at_31) rfl  (l' := #[.val (.int p0), .val (.int p1), .val (.int p2), .val (.int p3), .val (.int (5 : Int32)), .val (.int p2), .val (.ref ro4), .val (.double (FP.l2d p1.toInt64)), .second, .unset, .unset, .unset, .unset, .unset]) rfl (XS.iload X43.here hx rfl (hb hby at_33) rfl  k))) ?_
          show Rch p e below _ (T43.setTop (mkF m 35 #[.val (.int p0), .val (.int p1), .val (.int p2), .val (.int p3), .val (.int (5 : Int32)), .val (.int p2), .val (.ref ro4), .val (.double (FP.l2d p1.toInt64)), .second, .unset, .unset, .unset, .unset, .unset] [(.int p2)]))
          refine Rch.go (fun t k => XS.i2dS X43.here hx rfl (hb hby at_35) rfl (v := (FP.l2d p2.toInt64)) (i2d_w _) (XS.dstore X43.here hx rfl (hb hby at_36) rfl  (l' := #[.val (.int p0), .val (.int p1), .val (.int p2), .val (.int p3), .val (.int (5 : Int32)), .val (.int p2), .val (.ref ro4), .val (.double (FP.l2d p1.toInt64)), .second, .val (.double (FP.l2d p2.toInt64)), .second, .unset, .unset, .unset]) rfl (XS.aload X43.here hx rfl (hb hby at_38) rfl rfl (XS.dload X43.here hx rfl (hb hby at_40) rfl  (XS.dload X43.here hx rfl (hb hby at_42) rfl  k))))) ?_
          show Rch p e below _ (T43.setTop (mkF m 44 #[.val (.int p0), .val (.int p1), .val (.int p2), .val (.int p3), .val (.int (5 : Int32)), .val (.int p2), .val (.ref ro4), .val (.double (FP.l2d p1.toInt64)), .second, .val (.double (FP.l2d p2.toInt64)), .second, .unset, .unset, .unset] [(.double (FP.l2d p2.toInt64)), (.double (FP.l2d p1.toInt64)), (.ref ro4)]))
          obtain ⟨v44, T44, L44, X44, Q44, st44⟩ := callVi X43 hx hZ (m34_holds l Z a0 hw ro4 (FP.l2d p1.toInt64) (FP.l2d p2.toInt64) h0 n0 Z0 O0 G.2.2.2.2.2.2.2.2.2.1 G.2.2.2.2.2.2.2.2.2.2.2.2.2.2.2.2.1 (own_de he .l)) e43 hown (wd_8 hw) (wd_9 hw) (wd_11 hw) (notFace_of_selects (args := #[]) (mvT hZ (wd_11 hw))) (wd_10 hw) (wd_12 hw) (wd_6 hw) (by decide) (hb hby at_44) 0 (by decide) (by decide) (by decide) (by decide) (by rw [hml]; rfl) ro4 (G.2.2.2.2.2.2.2.2.2.1.ext O0.2) [(.double (FP.l2d p1.toInt64)), (.double (FP.l2d p2.toInt64))] [] rfl (lenOf pd_2 rfl) rfl (Nat.le_of_eq rfl) (Ls := #[.val (.int p0), .val (.int p1), .val (.int p2), .val (.int p3), .val (.int (5 : Int32)), .val (.int p2), .val (.ref ro4), .val (.double (FP.l2d p1.toInt64)), .second, .val (.double (FP.l2d p2.toInt64)), .second, .unset, .unset, .unset])
          obtain ⟨rfl, M44, e44⟩ := Q44
          have N44 := Fr.app N43 M44
          refine Rch.go st44 ?_
          show Rch p e below _ (T44.setTop (mkF m 47 #[.val (.int p0), .val (.int p1), .val (.int p2), .val (.int p3), .val (.int (5 : Int32)), .val (.int p2), .val (.ref ro4), .val (.double (FP.l2d p1.toInt64)), .second, .val (.double (FP.l2d p2.toInt64)), .second, .unset, .unset, .unset] [(.int (0 : Int32))]))
          refine Rch.go (fun t k => XS.istore X44.here hx rfl (hb hby at_47) rfl  (l' := #[.val (.int p0), .val (.int p1), .val (.int p2), .val (.int p3), .val (.int (5 : Int32)), .val (.int p2), .val (.ref ro4), .val (.double (FP.l2d p1.toInt64)), .second, .val (.double (FP.l2d p2.toInt64)), .second, .val (.int (0 : Int32)), .unset, .unset]) rfl (XS.iloadN X44.here hx rfl (hb hby at_49) rfl  (XS.iload X44.here hx rfl (hb hby at_50) rfl  (XS.icmpYes X44.here hx rfl (pc0 := 52) (pc' := 59) rfl (hb hby at_52) rfl (XT.ii_ge_t hl) (by decide) (by decide) (XS.iloadN X44.here hx rfl (hb hby at_59) rfl  (XS.iload X44.here hx rfl (hb hby at_60) rfl  (XS.icmpNo X44.here hx rfl (hb hby at_62) rfl (XT.ii_ne_f he) (XS.iconst X44.here hx rfl (hb hby at_65) (XS.goto X44.here hx rfl (pc0 := 66) (pc' := 70) rfl (hb hby at_66) (by decide) (by decide) (XS.istore X44.here hx rfl (hb hby at_70) rfl  (l' := #[.val (.int p0), .val (.int p1), .val (.int p2), .val (.int p3), .val (.int (5 : Int32)), .val (.int p2), .val (.ref ro4), .val (.double (FP.l2d p1.toInt64)), .second, .val (.double (FP.l2d p2.toInt64)), .second, .val (.int (0 : Int32)), .val (.int (0 : Int32)), .unset]) rfl (XS.iload X44.here hx rfl (hb hby at_72) rfl  (XS.ifYes X44.here hx rfl (pc0 := 74) (pc' := 92) rfl (hb hby at_74) rfl (by decide) (by decide) (by decide) k)))))))))))) ?_
          show Rch p e below _ (T44.setTop (mkF m 92 #[.val (.int p0), .val (.int p1), .val (.int p2), .val (.int p3), .val (.int (5 : Int32)), .val (.int p2), .val (.ref ro4), .val (.double (FP.l2d p1.toInt64)), .second, .val (.double (FP.l2d p2.toInt64)), .second, .val (.int (0 : Int32)), .val (.int (0 : Int32)), .unset] []))
          refine Rch.go (fun t k => XS.iload X44.here hx rfl (hb hby at_92) rfl  (XS.iconst X44.here hx rfl (hb hby at_94) (XS.icmpYes X44.here hx rfl (pc0 := 95) (pc' := 113) rfl (hb hby at_95) rfl (by decide) (by decide) (by decide) (XS.iload X44.here hx rfl (hb hby at_113) rfl  (XS.iconst X44.here hx rfl (hb hby at_115) (XS.icmpYes X44.here hx rfl (pc0 := 116) (pc' := 134) rfl (hb hby at_116) rfl (by decide) (by decide) (by decide) (XS.iload X44.here hx rfl (hb hby at_134) rfl  (XS.iconst X44.here hx rfl (hb hby at_136) (XS.icmpYes X44.here hx rfl (pc0 := 137) (pc' := 155) rfl (hb hby at_137) rfl (by decide) (by decide) (by decide) (XS.iload X44.here hx rfl (hb hby at_155) rfl  (XS.iconst X44.here hx rfl (hb hby at_157) (XS.icmpYes X44.here hx rfl (pc0 := 158) (pc' := 176) rfl (hb hby at_158) rfl (by decide) (by decide) (by decide) k)))))))))))) ?_
          show Rch p e below _ (T44.setTop (mkF m 176 #[.val (.int p0), .val (.int p1), .val (.int p2), .val (.int p3), .val (.int (5 : Int32)), .val (.int p2), .val (.ref ro4), .val (.double (FP.l2d p1.toInt64)), .second, .val (.double (FP.l2d p2.toInt64)), .second, .val (.int (0 : Int32)), .val (.int (0 : Int32)), .unset] []))
          refine Rch.go (fun t k => XS.iload X44.here hx rfl (hb hby at_176) rfl  (XS.ifYes X44.here hx rfl (pc0 := 178) (pc' := 185) rfl (hb hby at_178) rfl (by decide) (by decide) (by decide) (XS.iconst X44.here hx rfl (hb hby at_185) (XS.istore X44.here hx rfl (hb hby at_186) rfl  (l' := #[.val (.int p0), .val (.int p1), .val (.int p2), .val (.int p3), .val (.int (5 : Int32)), .val (.int p2), .val (.ref ro4), .val (.double (FP.l2d p1.toInt64)), .second, .val (.double (FP.l2d p2.toInt64)), .second, .val (.int (0 : Int32)), .val (.int (0 : Int32)), .val (.int (0 : Int32))]) rfl (XS.iload X44.here hx rfl (hb hby at_188) rfl  (XS.iload X44.here hx rfl (hb hby at_190) rfl  (XS.icmpNo X44.here hx rfl (hb hby at_192) rfl (by decide) (XS.iconst X44.here hx rfl (hb hby at_195) (XS.goto X44.here hx rfl (pc0 := 196) (pc' := 200) rfl (hb hby at_196) (by decide) (by decide) k))))))))) ?_
          show Rch p e below _ (T44.setTop (mkF m 200 #[.val (.int p0), .val (.int p1), .val (.int p2), .val (.int p3), .val (.int (5 : Int32)), .val (.int p2), .val (.ref ro4), .val (.double (FP.l2d p1.toInt64)), .second, .val (.double (FP.l2d p2.toInt64)), .second, .val (.int (0 : Int32)), .val (.int (0 : Int32)), .val (.int (0 : Int32))] [(.int (1 : Int32))]))
          refine Rch.val X44 hx (t := .boolean) hret hlk rfl (mayI (by simp)) (hb hby at_200) (by decide) (by decide) ?_
          try rw [e44]
          exact ⟨rfl, N44⟩
        · show Rch p e below _ (T0.setTop (mkF m 22 #[.val (.int p0), .val (.int p1), .val (.int p2), .val (.int p3), .val (.int (5 : Int32)), .val (.int p2), .unset, .unset, .unset, .unset, .unset, .unset, .unset, .unset] []))
          refine Rch.go (fun t k => XS.iload X0.here hx rfl (hb hby at_22) rfl  k) ?_
          show Rch p e below _ (T0.setTop (mkF m 24 #[.val (.int p0), .val (.int p1), .val (.int p2), .val (.int p3), .val (.int (5 : Int32)), .val (.int p2), .unset, .unset, .unset, .unset, .unset, .unset, .unset, .unset] [(.int (5 : Int32))]))
          obtain ⟨v45, T45, L45, X45, Q45, st45⟩ := callSt X0 hx hZ (m31_pick l Z a0 hw ro4 h0 n0 Z0 O0 G.2.2.2.2.2.2.2.2.1) e0 hown (wd_1 hw) (wd_2 hw) (wd_4 hw) (wd_3 hw) (by decide) (hb hby at_24) 0 (by decide) (by decide) (by decide) (by decide) (by rw [hml]; rfl) [(.int (5 : Int32))] [] rfl (lenOf pd_0 rfl) rfl (Nat.le_of_eq rfl) (Ls := #[.val (.int p0), .val (.int p1), .val (.int p2), .val (.int p3), .val (.int (5 : Int32)), .val (.int p2), .unset, .unset, .unset, .unset, .unset, .unset, .unset, .unset])
          obtain ⟨rfl, M45, e45⟩ := Q45
          have N45 := Fr.app N0 M45
          refine Rch.go st45 ?_
          show Rch p e below _ (T45.setTop (mkF m 27 #[.val (.int p0), .val (.int p1), .val (.int p2), .val (.int p3), .val (.int (5 : Int32)), .val (.int p2), .unset, .unset, .unset, .unset, .unset, .unset, .unset, .unset] [(.ref ro4)]))
          refine Rch.go (fun t k => XS.astore X45.here hx rfl (hb hby at_27) rfl rfl (l' := #[.val (.int p0), .val (.int p1), .val (.int p2), .val (.int p3), .val (.int (5 : Int32)), .val (.int p2), .val (.ref ro4), .unset, .unset, .unset, .unset, .unset, .unset, .unset]) rfl (XS.iloadN X45.here hx rfl (hb hby at_29) rfl  k)) ?_
          show Rch p e below _ (T45.setTop (mkF m 30 #[.val (.int p0), .val (.int p1), .val (.int p2), .val (.int p3), .val (.int (5 : Int32)), .val (.int p2), .val (.ref ro4), .unset, .unset, .unset, .unset, .unset, .unset, .unset] [(.int p1)]))
          refine Rch.go (fun t k => XS.i2dS X45.here hx rfl (hb hby at_30) rfl (v := (FP.l2d p1.toInt64)) (i2d_w _) (XS.dstore X45.here hx rfl (hb hby at_31) rfl  (l' := #[.val (.int p0), .val (.int p1), .val (.int p2), .val (.int p3), .val (.int (5 : Int32)), .val (.int p2), .val (.ref ro4), .val (.double (FP.l2d p1.toInt64)), .second, .unset, .unset, .unset, .unset, .unset]) rfl (XS.iload X45.here hx rfl (hb hby at_33) rfl  k))) ?_
          show Rch p e below _ (T45.setTop (mkF m 35 #[.val (.int p0), .val (.int p1), .val (.int p2), .val (.int p3), .val (.int (5 : Int32)), .val (.int p2), .val (.ref ro4), .val (.double (FP.l2d p1.toInt64)), .second, .unset, .unset, .unset, .unset, .unset] [(.int p2)]))
          refine Rch.go (fun t k => XS.i2dS X45.here hx rfl (hb hby at_35) rfl (v := (FP.l2d p2.toInt64)) (i2d_w _) (XS.dstore X45.here hx rfl (hb hby at_36) rfl  (l' := #[.val (.int p0), .val (.int p1), .val (.int p2), .val (.int p3), .val (.int (5 : Int32)), .val (.int p2), .val (.ref ro4), .val (.double (FP.l2d p1.toInt64)), .second, .val (.double (FP.l2d p2.toInt64)), .second, .unset, .unset, .unset]) rfl (XS.aload X45.here hx rfl (hb hby at_38) rfl rfl (XS.dload X45.here hx rfl (hb hby at_40) rfl  (XS.dload X45.here hx rfl (hb hby at_42) rfl  k))))) ?_
          show Rch p e below _ (T45.setTop (mkF m 44 #[.val (.int p0), .val (.int p1), .val (.int p2), .val (.int p3), .val (.int (5 : Int32)), .val (.int p2), .val (.ref ro4), .val (.double (FP.l2d p1.toInt64)), .second, .val (.double (FP.l2d p2.toInt64)), .second, .unset, .unset, .unset] [(.double (FP.l2d p2.toInt64)), (.double (FP.l2d p1.toInt64)), (.ref ro4)]))
          obtain ⟨v46, T46, L46, X46, Q46, st46⟩ := callVi X45 hx hZ (m35_holds l Z a0 hw ro4 (FP.l2d p1.toInt64) (FP.l2d p2.toInt64) h0 n0 Z0 O0 G.2.2.2.2.2.2.2.2.2.1 G.2.2.2.2.2.2.2.2.2.2.2.2.2.2.2.2.1 (own_dg hl he .l)) e45 hown (wd_8 hw) (wd_9 hw) (wd_11 hw) (notFace_of_selects (args := #[]) (mvT hZ (wd_11 hw))) (wd_10 hw) (wd_12 hw) (wd_6 hw) (by decide) (hb hby at_44) 0 (by decide) (by decide) (by decide) (by decide) (by rw [hml]; rfl) ro4 (G.2.2.2.2.2.2.2.2.2.1.ext O0.2) [(.double (FP.l2d p1.toInt64)), (.double (FP.l2d p2.toInt64))] [] rfl (lenOf pd_2 rfl) rfl (Nat.le_of_eq rfl) (Ls := #[.val (.int p0), .val (.int p1), .val (.int p2), .val (.int p3), .val (.int (5 : Int32)), .val (.int p2), .val (.ref ro4), .val (.double (FP.l2d p1.toInt64)), .second, .val (.double (FP.l2d p2.toInt64)), .second, .unset, .unset, .unset])
          obtain ⟨rfl, M46, e46⟩ := Q46
          have N46 := Fr.app N45 M46
          refine Rch.go st46 ?_
          show Rch p e below _ (T46.setTop (mkF m 47 #[.val (.int p0), .val (.int p1), .val (.int p2), .val (.int p3), .val (.int (5 : Int32)), .val (.int p2), .val (.ref ro4), .val (.double (FP.l2d p1.toInt64)), .second, .val (.double (FP.l2d p2.toInt64)), .second, .unset, .unset, .unset] [(.int (1 : Int32))]))
          refine Rch.go (fun t k => XS.istore X46.here hx rfl (hb hby at_47) rfl  (l' := #[.val (.int p0), .val (.int p1), .val (.int p2), .val (.int p3), .val (.int (5 : Int32)), .val (.int p2), .val (.ref ro4), .val (.double (FP.l2d p1.toInt64)), .second, .val (.double (FP.l2d p2.toInt64)), .second, .val (.int (1 : Int32)), .unset, .unset]) rfl (XS.iloadN X46.here hx rfl (hb hby at_49) rfl  (XS.iload X46.here hx rfl (hb hby at_50) rfl  (XS.icmpYes X46.here hx rfl (pc0 := 52) (pc' := 59) rfl (hb hby at_52) rfl (XT.ii_ge_t hl) (by decide) (by decide) (XS.iloadN X46.here hx rfl (hb hby at_59) rfl  (XS.iload X46.here hx rfl (hb hby at_60) rfl  (XS.icmpYes X46.here hx rfl (pc0 := 62) (pc' := 69) rfl (hb hby at_62) rfl (XT.ii_ne_t he) (by decide) (by decide) (XS.iconst X46.here hx rfl (hb hby at_69) (XS.istore X46.here hx rfl (hb hby at_70) rfl  (l' := #[.val (.int p0), .val (.int p1), .val (.int p2), .val (.int p3), .val (.int (5 : Int32)), .val (.int p2), .val (.ref ro4), .val (.double (FP.l2d p1.toInt64)), .second, .val (.double (FP.l2d p2.toInt64)), .second, .val (.int (1 : Int32)), .val (.int (1 : Int32)), .unset]) rfl (XS.iload X46.here hx rfl (hb hby at_72) rfl  (XS.ifYes X46.here hx rfl (pc0 := 74) (pc' := 92) rfl (hb hby at_74) rfl (by decide) (by decide) (by decide) (XS.iload X46.here hx rfl (hb hby at_92) rfl  k)))))))))))) ?_
          show Rch p e below _ (T46.setTop (mkF m 94 #[.val (.int p0), .val (.int p1), .val (.int p2), .val (.int p3), .val (.int (5 : Int32)), .val (.int p2), .val (.ref ro4), .val (.double (FP.l2d p1.toInt64)), .second, .val (.double (FP.l2d p2.toInt64)), .second, .val (.int (1 : Int32)), .val (.int (1 : Int32)), .unset] [(.int (5 : Int32))]))
          refine Rch.go (fun t k => XS.iconst X46.here hx rfl (hb hby at_94) (XS.icmpYes X46.here hx rfl (pc0 := 95) (pc' := 113) rfl (hb hby at_95) rfl (by decide) (by decide) (by decide) (XS.iload X46.here hx rfl (hb hby at_113) rfl  (XS.iconst X46.here hx rfl (hb hby at_115) (XS.icmpYes X46.here hx rfl (pc0 := 116) (pc' := 134) rfl (hb hby at_116) rfl (by decide) (by decide) (by decide) (XS.iload X46.here hx rfl (hb hby at_134) rfl  (XS.iconst X46.here hx rfl (hb hby at_136) (XS.icmpYes X46.here hx rfl (pc0 := 137) (pc' := 155) rfl (hb hby at_137) rfl (by decide) (by decide) (by decide) (XS.iload X46.here hx rfl (hb hby at_155) rfl  (XS.iconst X46.here hx rfl (hb hby at_157) (XS.icmpYes X46.here hx rfl (pc0 := 158) (pc' := 176) rfl (hb hby at_158) rfl (by decide) (by decide) (by decide) (XS.iload X46.here hx rfl (hb hby at_176) rfl  k)))))))))))) ?_
          show Rch p e below _ (T46.setTop (mkF m 178 #[.val (.int p0), .val (.int p1), .val (.int p2), .val (.int p3), .val (.int (5 : Int32)), .val (.int p2), .val (.ref ro4), .val (.double (FP.l2d p1.toInt64)), .second, .val (.double (FP.l2d p2.toInt64)), .second, .val (.int (1 : Int32)), .val (.int (1 : Int32)), .unset] [(.int (1 : Int32))]))
          refine Rch.go (fun t k => XS.ifNo X46.here hx rfl (hb hby at_178) rfl (by decide) (XS.iconst X46.here hx rfl (hb hby at_181) (XS.goto X46.here hx rfl (pc0 := 182) (pc' := 186) rfl (hb hby at_182) (by decide) (by decide) (XS.istore X46.here hx rfl (hb hby at_186) rfl  (l' := #[.val (.int p0), .val (.int p1), .val (.int p2), .val (.int p3), .val (.int (5 : Int32)), .val (.int p2), .val (.ref ro4), .val (.double (FP.l2d p1.toInt64)), .second, .val (.double (FP.l2d p2.toInt64)), .second, .val (.int (1 : Int32)), .val (.int (1 : Int32)), .val (.int (1 : Int32))]) rfl (XS.iload X46.here hx rfl (hb hby at_188) rfl  (XS.iload X46.here hx rfl (hb hby at_190) rfl  (XS.icmpNo X46.here hx rfl (hb hby at_192) rfl (by decide) (XS.iconst X46.here hx rfl (hb hby at_195) (XS.goto X46.here hx rfl (pc0 := 196) (pc' := 200) rfl (hb hby at_196) (by decide) (by decide) k))))))))) ?_
          show Rch p e below _ (T46.setTop (mkF m 200 #[.val (.int p0), .val (.int p1), .val (.int p2), .val (.int p3), .val (.int (5 : Int32)), .val (.int p2), .val (.ref ro4), .val (.double (FP.l2d p1.toInt64)), .second, .val (.double (FP.l2d p2.toInt64)), .second, .val (.int (1 : Int32)), .val (.int (1 : Int32)), .val (.int (1 : Int32))] [(.int (1 : Int32))]))
          refine Rch.val X46 hx (t := .boolean) hret hlk rfl (mayI (by simp)) (hb hby at_200) (by decide) (by decide) ?_
          try rw [e46]
          exact ⟨rfl, N46⟩
    · show Rch p e below _ (T0.setTop (mkF m 12 #[.val (.int p0), .val (.int p1), .val (.int p2), .val (.int p3), .val (.int (5 : Int32)), .unset, .unset, .unset, .unset, .unset, .unset, .unset, .unset, .unset] [(.int (p3 &&& (1 : Int32)))]))
      refine Rch.go (fun t k => XS.ifNo X0.here hx rfl (hb hby at_12) rfl (XT.i0_eq_f hm) (XS.iloadN X0.here hx rfl (hb hby at_15) rfl  (XS.goto X0.here hx rfl (pc0 := 16) (pc' := 20) rfl (hb hby at_16) (by decide) (by decide) (XS.istore X0.here hx rfl (hb hby at_20) rfl  (l' := #[.val (.int p0), .val (.int p1), .val (.int p2), .val (.int p3), .val (.int (5 : Int32)), .val (.int p1), .unset, .unset, .unset, .unset, .unset, .unset, .unset, .unset]) rfl k)))) ?_
      show Rch p e below _ (T0.setTop (mkF m 22 #[.val (.int p0), .val (.int p1), .val (.int p2), .val (.int p3), .val (.int (5 : Int32)), .val (.int p1), .unset, .unset, .unset, .unset, .unset, .unset, .unset, .unset] []))
      refine Rch.go (fun t k => XS.iload X0.here hx rfl (hb hby at_22) rfl  k) ?_
      show Rch p e below _ (T0.setTop (mkF m 24 #[.val (.int p0), .val (.int p1), .val (.int p2), .val (.int p3), .val (.int (5 : Int32)), .val (.int p1), .unset, .unset, .unset, .unset, .unset, .unset, .unset, .unset] [(.int (5 : Int32))]))
      obtain ⟨v47, T47, L47, X47, Q47, st47⟩ := callSt X0 hx hZ (m31_pick l Z a0 hw ro4 h0 n0 Z0 O0 G.2.2.2.2.2.2.2.2.1) e0 hown (wd_1 hw) (wd_2 hw) (wd_4 hw) (wd_3 hw) (by decide) (hb hby at_24) 0 (by decide) (by decide) (by decide) (by decide) (by rw [hml]; rfl) [(.int (5 : Int32))] [] rfl (lenOf pd_0 rfl) rfl (Nat.le_of_eq rfl) (Ls := #[.val (.int p0), .val (.int p1), .val (.int p2), .val (.int p3), .val (.int (5 : Int32)), .val (.int p1), .unset, .unset, .unset, .unset, .unset, .unset, .unset, .unset])
      obtain ⟨rfl, M47, e47⟩ := Q47
      have N47 := Fr.app N0 M47
      refine Rch.go st47 ?_
      show Rch p e below _ (T47.setTop (mkF m 27 #[.val (.int p0), .val (.int p1), .val (.int p2), .val (.int p3), .val (.int (5 : Int32)), .val (.int p1), .unset, .unset, .unset, .unset, .unset, .unset, .unset, .unset] [(.ref ro4)]))
      refine Rch.go (fun t k => XS.astore X47.here hx rfl (hb hby at_27) rfl rfl (l' := #[.val (.int p0), .val (.int p1), .val (.int p2), .val (.int p3), .val (.int (5 : Int32)), .val (.int p1), .val (.ref ro4), .unset, .unset, .unset, .unset, .unset, .unset, .unset]) rfl (XS.iloadN X47.here hx rfl (hb hby at_29) rfl  k)) ?_
      show Rch p e below _ (T47.setTop (mkF m 30 #[.val (.int p0), .val (.int p1), .val (.int p2), .val (.int p3), .val (.int (5 : Int32)), .val (.int p1), .val (.ref ro4), .unset, .unset, .unset, .unset, .unset, .unset, .unset] [(.int p1)]))
      refine Rch.go (fun t k => XS.i2dS X47.here hx rfl (hb hby at_30) rfl (v := (FP.l2d p1.toInt64)) (i2d_w _) (XS.dstore X47.here hx rfl (hb hby at_31) rfl  (l' := #[.val (.int p0), .val (.int p1), .val (.int p2), .val (.int p3), .val (.int (5 : Int32)), .val (.int p1), .val (.ref ro4), .val (.double (FP.l2d p1.toInt64)), .second, .unset, .unset, .unset, .unset, .unset]) rfl (XS.iload X47.here hx rfl (hb hby at_33) rfl  k))) ?_
      show Rch p e below _ (T47.setTop (mkF m 35 #[.val (.int p0), .val (.int p1), .val (.int p2), .val (.int p3), .val (.int (5 : Int32)), .val (.int p1), .val (.ref ro4), .val (.double (FP.l2d p1.toInt64)), .second, .unset, .unset, .unset, .unset, .unset] [(.int p1)]))
      refine Rch.go (fun t k => XS.i2dS X47.here hx rfl (hb hby at_35) rfl (v := (FP.l2d p1.toInt64)) (i2d_w _) (XS.dstore X47.here hx rfl (hb hby at_36) rfl  (l' := #[.val (.int p0), .val (.int p1), .val (.int p2), .val (.int p3), .val (.int (5 : Int32)), .val (.int p1), .val (.ref ro4), .val (.double (FP.l2d p1.toInt64)), .second, .val (.double (FP.l2d p1.toInt64)), .second, .unset, .unset, .unset]) rfl (XS.aload X47.here hx rfl (hb hby at_38) rfl rfl (XS.dload X47.here hx rfl (hb hby at_40) rfl  (XS.dload X47.here hx rfl (hb hby at_42) rfl  k))))) ?_
      show Rch p e below _ (T47.setTop (mkF m 44 #[.val (.int p0), .val (.int p1), .val (.int p2), .val (.int p3), .val (.int (5 : Int32)), .val (.int p1), .val (.ref ro4), .val (.double (FP.l2d p1.toInt64)), .second, .val (.double (FP.l2d p1.toInt64)), .second, .unset, .unset, .unset] [(.double (FP.l2d p1.toInt64)), (.double (FP.l2d p1.toInt64)), (.ref ro4)]))
      obtain ⟨v48, T48, L48, X48, Q48, st48⟩ := callVi X47 hx hZ (m36_holds l Z a0 hw ro4 (FP.l2d p1.toInt64) h0 n0 Z0 O0 G.2.2.2.2.2.2.2.2.2.1 G.2.2.2.2.2.2.2.2.2.2.2.2.2.2.2.2.1 (own_de rfl .l)) e47 hown (wd_8 hw) (wd_9 hw) (wd_11 hw) (notFace_of_selects (args := #[]) (mvT hZ (wd_11 hw))) (wd_10 hw) (wd_12 hw) (wd_6 hw) (by decide) (hb hby at_44) 0 (by decide) (by decide) (by decide) (by decide) (by rw [hml]; rfl) ro4 (G.2.2.2.2.2.2.2.2.2.1.ext O0.2) [(.double (FP.l2d p1.toInt64)), (.double (FP.l2d p1.toInt64))] [] rfl (lenOf pd_2 rfl) rfl (Nat.le_of_eq rfl) (Ls := #[.val (.int p0), .val (.int p1), .val (.int p2), .val (.int p3), .val (.int (5 : Int32)), .val (.int p1), .val (.ref ro4), .val (.double (FP.l2d p1.toInt64)), .second, .val (.double (FP.l2d p1.toInt64)), .second, .unset, .unset, .unset])
      obtain ⟨rfl, M48, e48⟩ := Q48
      have N48 := Fr.app N47 M48
      refine Rch.go st48 ?_
      show Rch p e below _ (T48.setTop (mkF m 47 #[.val (.int p0), .val (.int p1), .val (.int p2), .val (.int p3), .val (.int (5 : Int32)), .val (.int p1), .val (.ref ro4), .val (.double (FP.l2d p1.toInt64)), .second, .val (.double (FP.l2d p1.toInt64)), .second, .unset, .unset, .unset] [(.int (0 : Int32))]))
      refine Rch.go (fun t k => XS.istore X48.here hx rfl (hb hby at_47) rfl  (l' := #[.val (.int p0), .val (.int p1), .val (.int p2), .val (.int p3), .val (.int (5 : Int32)), .val (.int p1), .val (.ref ro4), .val (.double (FP.l2d p1.toInt64)), .second, .val (.double (FP.l2d p1.toInt64)), .second, .val (.int (0 : Int32)), .unset, .unset]) rfl (XS.iloadN X48.here hx rfl (hb hby at_49) rfl  (XS.iload X48.here hx rfl (hb hby at_50) rfl  (XS.icmpYes X48.here hx rfl (pc0 := 52) (pc' := 59) rfl (hb hby at_52) rfl (XT.ii_ge_t Int32.lt_irrefl) (by decide) (by decide) (XS.iloadN X48.here hx rfl (hb hby at_59) rfl  (XS.iload X48.here hx rfl (hb hby at_60) rfl  (XS.icmpNo X48.here hx rfl (hb hby at_62) rfl (XT.ii_ne_f rfl) (XS.iconst X48.here hx rfl (hb hby at_65) (XS.goto X48.here hx rfl (pc0 := 66) (pc' := 70) rfl (hb hby at_66) (by decide) (by decide) (XS.istore X48.here hx rfl (hb hby at_70) rfl  (l' := #[.val (.int p0), .val (.int p1), .val (.int p2), .val (.int p3), .val (.int (5 : Int32)), .val (.int p1), .val (.ref ro4), .val (.double (FP.l2d p1.toInt64)), .second, .val (.double (FP.l2d p1.toInt64)), .second, .val (.int (0 : Int32)), .val (.int (0 : Int32)), .unset]) rfl (XS.iload X48.here hx rfl (hb hby at_72) rfl  (XS.ifYes X48.here hx rfl (pc0 := 74) (pc' := 92) rfl (hb hby at_74) rfl (by decide) (by decide) (by decide) k)))))))))))) ?_
      show Rch p e below _ (T48.setTop (mkF m 92 #[.val (.int p0), .val (.int p1), .val (.int p2), .val (.int p3), .val (.int (5 : Int32)), .val (.int p1), .val (.ref ro4), .val (.double (FP.l2d p1.toInt64)), .second, .val (.double (FP.l2d p1.toInt64)), .second, .val (.int (0 : Int32)), .val (.int (0 : Int32)), .unset] []))
      refine Rch.go (fun t k => XS.iload X48.here hx rfl (hb hby at_92) rfl  (XS.iconst X48.here hx rfl (hb hby at_94) (XS.icmpYes X48.here hx rfl (pc0 := 95) (pc' := 113) rfl (hb hby at_95) rfl (by decide) (by decide) (by decide) (XS.iload X48.here hx rfl (hb hby at_113) rfl  (XS.iconst X48.here hx rfl (hb hby at_115) (XS.icmpYes X48.here hx rfl (pc0 := 116) (pc' := 134) rfl (hb hby at_116) rfl (by decide) (by decide) (by decide) (XS.iload X48.here hx rfl (hb hby at_134) rfl  (XS.iconst X48.here hx rfl (hb hby at_136) (XS.icmpYes X48.here hx rfl (pc0 := 137) (pc' := 155) rfl (hb hby at_137) rfl (by decide) (by decide) (by decide) (XS.iload X48.here hx rfl (hb hby at_155) rfl  (XS.iconst X48.here hx rfl (hb hby at_157) (XS.icmpYes X48.here hx rfl (pc0 := 158) (pc' := 176) rfl (hb hby at_158) rfl (by decide) (by decide) (by decide) k)))))))))))) ?_
      show Rch p e below _ (T48.setTop (mkF m 176 #[.val (.int p0), .val (.int p1), .val (.int p2), .val (.int p3), .val (.int (5 : Int32)), .val (.int p1), .val (.ref ro4), .val (.double (FP.l2d p1.toInt64)), .second, .val (.double (FP.l2d p1.toInt64)), .second, .val (.int (0 : Int32)), .val (.int (0 : Int32)), .unset] []))
      refine Rch.go (fun t k => XS.iload X48.here hx rfl (hb hby at_176) rfl  (XS.ifYes X48.here hx rfl (pc0 := 178) (pc' := 185) rfl (hb hby at_178) rfl (by decide) (by decide) (by decide) (XS.iconst X48.here hx rfl (hb hby at_185) (XS.istore X48.here hx rfl (hb hby at_186) rfl  (l' := #[.val (.int p0), .val (.int p1), .val (.int p2), .val (.int p3), .val (.int (5 : Int32)), .val (.int p1), .val (.ref ro4), .val (.double (FP.l2d p1.toInt64)), .second, .val (.double (FP.l2d p1.toInt64)), .second, .val (.int (0 : Int32)), .val (.int (0 : Int32)), .val (.int (0 : Int32))]) rfl (XS.iload X48.here hx rfl (hb hby at_188) rfl  (XS.iload X48.here hx rfl (hb hby at_190) rfl  (XS.icmpNo X48.here hx rfl (hb hby at_192) rfl (by decide) (XS.iconst X48.here hx rfl (hb hby at_195) (XS.goto X48.here hx rfl (pc0 := 196) (pc' := 200) rfl (hb hby at_196) (by decide) (by decide) k))))))))) ?_
      show Rch p e below _ (T48.setTop (mkF m 200 #[.val (.int p0), .val (.int p1), .val (.int p2), .val (.int p3), .val (.int (5 : Int32)), .val (.int p1), .val (.ref ro4), .val (.double (FP.l2d p1.toInt64)), .second, .val (.double (FP.l2d p1.toInt64)), .second, .val (.int (0 : Int32)), .val (.int (0 : Int32)), .val (.int (0 : Int32))] [(.int (1 : Int32))]))
      refine Rch.val X48 hx (t := .boolean) hret hlk rfl (mayI (by simp)) (hb hby at_200) (by decide) (by decide) ?_
      try rw [e48]
      exact ⟨rfl, N48⟩
theorem comes_1 {Post : Tables → Env → Array Value → State → Outcome → State → Prop} (hpost : ∀ tb e args s v u, (limb_1_1.after args s (.returned v) u = true ∧ limb_1_2.after args s (.returned v) u = true ∧ True) → FrameEnd s (.returned v) u (Jvm.fieldLocs frame_1_writes args s ++ Jvm.arrayLocs frame_1_arrays args s ++ Jvm.staticLocs frame_1_statics s) 0 0 → Post tb e args s (.returned v) u) :
    ArmFor flags0 classFile x code maxLocals ret World_1 tables_1 room_1 Calls_1 rest_1 Pre_1 Post := by
  intro l hfl _ _ p e ha hc hk s m args below hf hA hF happ hP
  obtain ⟨hcalls, hrest, hpre⟩ := hP
  obtain ⟨-, -, -, hnamed, -, -, -, hat⟩ := (Spec.applies_iff hf).mp happ
  obtain ⟨hg, hn⟩ := and_e (Cond.before_iff.mp (show (Jvm.Cond.and given_1 narrow_1).before args s = true from hpre))
  obtain ⟨gv0, hg⟩ := and_e hg
  obtain ⟨gv1, hg⟩ := and_e hg
  obtain ⟨gv2, hg⟩ := and_e hg
  obtain ⟨gv3, hg⟩ := and_e hg
  have gv4 := hg
  obtain ⟨w0, w1, w2, w3, rfl⟩ : ∃ w0 w1 w2 w3 : Value, args = #[w0, w1, w2, w3] := by
    have hs : args.size = 4 := by simpa [Cond.value, given_1] using gv0
    obtain ⟨L⟩ := args
    match L, hs with
    | [w0, w1, w2, w3], _ => exact ⟨w0, w1, w2, w3, rfl⟩
  have hw : HW s _ := fun d (hd : d ∈ tables_1) => atoms_spec (ws := Jvm.Cond.code x code maxLocals ret :: tables_1) hat d (List.mem_cons_of_mem _ hd)
  have hfit : Fit s := fun {y c} hc i hi => by
    obtain ⟨ha, rfl⟩ := Array.getElem?_eq_some_iff.mp hc
    have q := List.all_eq_true.mp ((Array.all_eq_true_iff_forall_mem.mp hF) _ (Array.getElem_mem ha)) i (List.mem_range.mpr hi)
    simpa [Array.getElem?_eq_getElem hi] using q
  obtain ⟨i0, ei0⟩ := is_v gv1
  obtain rfl : w0 = (.int i0) := Option.some.inj ei0
  obtain ⟨i1, ei1⟩ := is_v gv2
  obtain rfl : w1 = (.int i1) := Option.some.inj ei1
  obtain ⟨i2, ei2⟩ := is_v gv3
  obtain rfl : w2 = (.int i2) := Option.some.inj ei2
  obtain ⟨i3, ei3⟩ := is_v gv4
  obtain rfl : w3 = (.int i3) := Option.some.inj ei3
  obtain ⟨n0, hn⟩ := and_e hn
  obtain ⟨n1, hn⟩ := and_e hn
  obtain ⟨n2, hn⟩ := and_e hn
  obtain ⟨n3, hn⟩ := and_e hn
  obtain ⟨n4, hn⟩ := and_e hn
  obtain ⟨n5, hn⟩ := and_e hn
  obtain ⟨n6, hn⟩ := and_e hn
  obtain ⟨n7, hn⟩ := and_e hn
  obtain ⟨n8, hn⟩ := and_e hn
  obtain ⟨n9, hn⟩ := and_e hn
  obtain ⟨n10, hn⟩ := and_e hn
  have n11 := hn
  obtain ⟨ro0, ev_ro0⟩ := exa_v n0
  obtain ⟨ro1, ev_ro1⟩ := exa_v n2
  obtain ⟨ro2, ev_ro2⟩ := exa_v n4
  obtain ⟨ro3, ev_ro3⟩ := exa_v n6
  obtain ⟨ro4, ev_ro4⟩ := exa_v n8
  obtain ⟨ro5, ev_ro5⟩ := exa_v n10
  have ev_6 := own_eqI n1
  have ev_7 := own_eqI n3
  have ev_8 := own_eqI n5
  have ev_9 := own_eqI n7
  have ev_10 := own_eqI n9
  have ev_11 := own_eqI n11
  have G : Olds s ro0 ro1 ro2 ro3 ro4 ro5 := ⟨(Sta.start ev_ro0 (Or.inr ⟨(wd_6 hw), (wd_7 hw)⟩)), (Exa.start ev_ro0 n0), (Sta.start ev_ro1 (Or.inr ⟨(wd_6 hw), (wd_23 hw)⟩)), (Exa.start ev_ro1 n2), (Sta.start ev_ro2 (Or.inr ⟨(wd_6 hw), (wd_25 hw)⟩)), (Exa.start ev_ro2 n4), (Sta.start ev_ro3 (Or.inr ⟨(wd_6 hw), (wd_27 hw)⟩)), (Exa.start ev_ro3 n6), (Sta.start ev_ro4 (Or.inr ⟨(wd_6 hw), (wd_29 hw)⟩)), (Exa.start ev_ro4 n8), (Sta.start ev_ro5 (Or.inr ⟨(wd_6 hw), (wd_31 hw)⟩)), (Exa.start ev_ro5 n10), (own_fldV ev_ro0 ev_6), (own_fldV ev_ro1 ev_7), (own_fldV ev_ro2 ev_8), (own_fldV ev_ro3 ev_9), (own_fldV ev_ro4 ev_10), (own_fldV ev_ro5 ev_11)⟩
  obtain ⟨n, o, h1, h2, h3, _, L, rfl, ⟨rfl, N⟩, hq⟩ := law_1 l s _ hw i0 i1 i2 i3 ro0 ro1 ro2 ro3 ro4 ro5 s.heap s.heap.size (Nat.le_refl _) (Old.start s) G p e ha hc hk s m _ below hf ((Spec.applies_iff_loose hf).mp happ).1 ⟨rfl, State.Warmed39.refl s, rfl⟩ trivial
  refine ⟨n, _, h1, h2, h3, hpost _ _ _ _ _ _ ⟨Cond.after_iff.mpr rfl, Cond.after_iff.mpr (eq_i res_at (Term.int_eval (1)) rfl), trivial⟩ ⟨hq.1, hq.2.1, (hq.2.2.sift fun y hy => Or.inr (N y hy)).mono (by decide) (by decide)⟩⟩
theorem main_1_1 : Claimed_1_1 := comes_1 fun _ _ _ _ _ _ h hF => ⟨h.1, hF⟩
theorem main_1_2 : Claimed_1_2 := comes_1 fun _ _ _ _ _ _ h hF => ⟨h.2.1, hF⟩
end Jvm.Pilot.@@N@@
namespace Jvm.Pilot.@@N@@
open Jvm Jvm.ClassFile Sem Op Lib Jvm.Free Jvm.Stand Jvm.Pilot.@@N@@.Jvm.D
/-! MADE BY PROGRAM (witnessworld.py) out of the Statement's table words and the real class files: 12 classes; the members and pool entries that the words name. The judged class is class 1, her method 2. -/
namespace start1
open Jvm.ClassFile
def u (s : String) : CpInfo := .utf8 (stringToUtf16 s)
/-- a pool by its gaps: so many unusable entries, then the entry; so many at the end -/
def gap : Nat → List CpInfo → List CpInfo
  | 0, r => r
  | n + 1, r => .unusable :: gap n r
def poolList (es : List (Nat × CpInfo)) (last : Nat) : List CpInfo := es.foldr (fun e r => gap e.1 (e.2 :: r)) (gap last [])
def pool (es : List (Nat × CpInfo)) (last : Nat) : Array CpInfo := ⟨poolList es last⟩
def fileOf (pool : Array CpInfo) (this : Nat) (attrs : Array Attribute := #[]) (ms : Array MethodInfo := #[]) (fl : Nat := 33) (sup : Nat := 0) (ifs : Array Nat := #[]) (fds : Array FieldInfo := #[]) : ClassFile where
  minorVersion := 0
  majorVersion := 65
  constantPool := pool
  accessFlags := fl
  thisClass := this
  superClass := sup
  interfaces := ifs
  fields := fds
  methods := ms
  attributes := attrs
def plain (name : String) (sup : Option ClassId) : Class where
  name := name
  kind := .ordinary
  loader := none
  accessFlags := 33
  super := sup
  interfaces := #[]
  cf := none
  fields := #[]
  methods := #[]
  instanceTypes := #[]
  staticTypes := #[]
  resolved := #[]
  callSites := []
  init := .initialized
  statics := none
  mirror := none

def pool0 : Array CpInfo := pool [(5, u "<init>"), (0, u "()V"), (1, .class_ 10), (1, u "java/lang/Object")] 113

def k0m0 : Method := { name := "<init>", desc := "()V", sig := { parameters := [], returnType := none }, accessFlags := 1, code := none }
/-- java/lang/Object -/
def k0 : Class := { plain "java/lang/Object" none with
  accessFlags := 33
  interfaces := #[]
  cf := some (fileOf pool0 8 #[] #[{ accessFlags := 1, nameIndex := 5, descriptorIndex := 6, attributes := #[] }] 33 0 #[] #[])
  fields := #[]
  methods := #[k0m0]
  instanceTypes := #[]
  staticTypes := #[]
  resolved := Array.replicate 124 none
  statics := none }

def pool1 : Array CpInfo := pool [(2, .class_ 4), (1, u "java/lang/Object"), (0, u "<init>"), (0, u "()V"), (0, .fieldref 8 9), (0, .class_ 10), (0, .nameAndType 11 12), (0, u "com/example/pathlatch/pathlatch/path/Predicate$Operator"), (0, u "EQUAL"), (0, u "Lcom/example/pathlatch/pathlatch/path/Predicate$Operator;"), (0, .fieldref 8 14), (0, .nameAndType 15 12), (0, u "NOT_EQUAL"), (0, .fieldref 8 17), (0, .nameAndType 18 12), (0, u "LESS_OR_EQUAL"), (0, .fieldref 8 20), (0, .nameAndType 21 12), (0, u "LESS"), (0, .fieldref 8 23), (0, .nameAndType 24 12), (0, u "GREATER_OR_EQUAL"), (0, .fieldref 8 26), (0, .nameAndType 27 12), (0, u "GREATER"), (0, .integer 2147483647), (0, .methodref 30 31), (0, .class_ 32), (0, .nameAndType 33 34), (0, u "com/example/pathlatch/pathlatch/path/OperatorHoldsPinLaw"), (0, u "pick"), (0, u "(I)Lcom/example/pathlatch/pathlatch/path/Predicate$Operator;"), (0, .methodref 8 36), (0, .nameAndType 37 38), (0, u "holds"), (0, u "(DD)Z"), (3, u "law"), (0, u "(IIII)Z")] 6

def k1m0 : Method := { name := "<init>", desc := "()V", sig := { parameters := [], returnType := none }, accessFlags := 1, code := none }
def k1c1 : Code := { maxStack := 2, maxLocals := 1, code := method_2_code, exceptionTable := #[], attributes := #[] }
def k1m1 : Method := { name := "pick", desc := "(I)Lcom/example/pathlatch/pathlatch/path/Predicate$Operator;", sig := { parameters := [.int], returnType := some (.object "com/example/pathlatch/pathlatch/path/Predicate$Operator") }, accessFlags := 10, code := some k1c1 }
def k1c2 : Code := { maxStack := 5, maxLocals := 14, code := code, exceptionTable := #[], attributes := #[] }
def k1m2 : Method := { name := "law", desc := "(IIII)Z", sig := { parameters := [.int, .int, .int, .int], returnType := some .boolean }, accessFlags := 9, code := some k1c2 }
/-- com/example/pathlatch/pathlatch/path/OperatorHoldsPinLaw -/
def k1 : Class := { plain "com/example/pathlatch/pathlatch/path/OperatorHoldsPinLaw" (some 0) with
  accessFlags := 49
  interfaces := #[]
  cf := some (fileOf pool1 30 #[] #[{ accessFlags := 1, nameIndex := 5, descriptorIndex := 6, attributes := #[] }, { accessFlags := 10, nameIndex := 33, descriptorIndex := 34, attributes := #[] }, { accessFlags := 9, nameIndex := 42, descriptorIndex := 43, attributes := #[] }] 49 2 #[] #[])
  fields := #[]
  methods := #[k1m0, k1m1, k1m2]
  instanceTypes := #[]
  staticTypes := #[]
  resolved := Array.replicate 50 none
  statics := none }

def pool2 : Array CpInfo := pool [(1, .class_ 2), (0, u "java/lang/constant/Constable"), (0, .class_ 4), (0, u "java/lang/Object")] 6

/-- java/lang/constant/Constable -/
def k2 : Class := { plain "java/lang/constant/Constable" (some 0) with
  accessFlags := 1537
  interfaces := #[]
  cf := some (fileOf pool2 1 #[] #[] 1537 3 #[] #[])
  fields := #[]
  methods := #[]
  instanceTypes := #[]
  staticTypes := #[]
  resolved := Array.replicate 11 none
  statics := none }

def pool3 : Array CpInfo := pool [(1, .class_ 2), (0, u "java/lang/Comparable"), (0, .class_ 4), (0, u "java/lang/Object")] 7

/-- java/lang/Comparable -/
def k3 : Class := { plain "java/lang/Comparable" (some 0) with
  accessFlags := 1537
  interfaces := #[]
  cf := some (fileOf pool3 1 #[] #[] 1537 3 #[] #[])
  fields := #[]
  methods := #[]
  instanceTypes := #[]
  staticTypes := #[]
  resolved := Array.replicate 12 none
  statics := none }

def pool4 : Array CpInfo := pool [(1, .class_ 2), (0, u "java/io/Serializable"), (0, .class_ 4), (0, u "java/lang/Object")] 2

/-- java/io/Serializable -/
def k4 : Class := { plain "java/io/Serializable" (some 0) with
  accessFlags := 1537
  interfaces := #[]
  cf := some (fileOf pool4 1 #[] #[] 1537 3 #[] #[])
  fields := #[]
  methods := #[]
  instanceTypes := #[]
  staticTypes := #[]
  resolved := Array.replicate 7 none
  statics := none }

def pool5 : Array CpInfo := pool [(2, .class_ 4), (1, u "java/lang/Enum"), (0, u "name"), (0, u "Ljava/lang/String;"), (0, .fieldref 2 8), (0, .nameAndType 9 10), (0, u "ordinal"), (0, u "I"), (1, .class_ 14), (1, u "java/lang/Object"), (4, u "hash"), (86, .class_ 108), (1, u "java/lang/Enum$EnumDesc"), (2, .class_ 112), (0, u "java/lang/constant/Constable"), (0, .class_ 114), (0, u "java/lang/Comparable"), (0, .class_ 116), (0, u "java/io/Serializable"), (9, u "()I")] 77

def k5c0 : Code := { maxStack := 1, maxLocals := 1, code := jdk_37_method_2_code, exceptionTable := #[], attributes := #[] }
def k5m0 : Method := { name := "ordinal", desc := "()I", sig := { parameters := [], returnType := some .int }, accessFlags := 17, code := some k5c0 }
/-- java/lang/Enum -/
def k5 : Class := { plain "java/lang/Enum" (some 0) with
  accessFlags := 1057
  interfaces := #[2, 3, 4]
  cf := some (fileOf pool5 2 #[.nestMembers #[106]] #[{ accessFlags := 17, nameIndex := 9, descriptorIndex := 126, attributes := #[] }] 1057 12 #[111, 113, 115] #[{ accessFlags := 18, nameIndex := 5, descriptorIndex := 6, attributes := #[] }, { accessFlags := 18, nameIndex := 9, descriptorIndex := 10, attributes := #[] }, { accessFlags := 2, nameIndex := 19, descriptorIndex := 10, attributes := #[] }])
  fields := #[{ name := "name", type := (.object "java/lang/String"), accessFlags := 18, slot := 0, constantValue := 0 }, { name := "ordinal", type := .int, accessFlags := 18, slot := 1, constantValue := 0 }, { name := "hash", type := .int, accessFlags := 2, slot := 2, constantValue := 0 }]
  methods := #[k5m0]
  instanceTypes := #[(.object "java/lang/String"), .int, .int]
  staticTypes := #[]
  resolved := Array.replicate 204 none
  statics := none }

def pool6 : Array CpInfo := pool [(1, .class_ 2), (0, u "com/example/pathlatch/pathlatch/path/Predicate$Operator"), (2, u "EQUAL"), (0, u "Lcom/example/pathlatch/pathlatch/path/Predicate$Operator;"), (2, u "NOT_EQUAL"), (2, u "LESS_OR_EQUAL"), (2, u "LESS"), (2, u "GREATER_OR_EQUAL"), (2, u "GREATER"), (2, u "$VALUES"), (0, u "[Lcom/example/pathlatch/pathlatch/path/Predicate$Operator;"), (6, .class_ 34), (1, u "java/lang/Enum"), (8, u "symbol"), (0, u "Ljava/lang/String;"), (2, u "relational"), (0, u "Z"), (0, .methodref 1 50), (0, .nameAndType 51 52), (0, u "ordinal"), (0, u "()I"), (43, u "holds"), (0, u "(DD)Z"), (8, .class_ 107), (0, u "com/example/pathlatch/pathlatch/path/Predicate")] 2

def k6c0 : Code := { maxStack := 4, maxLocals := 5, code := prog_113_method_4_code, exceptionTable := #[], attributes := #[] }
def k6m0 : Method := { name := "holds", desc := "(DD)Z", sig := { parameters := [.double, .double], returnType := some .boolean }, accessFlags := 0, code := some k6c0 }
/-- com/example/pathlatch/pathlatch/path/Predicate$Operator -/
def k6 : Class := { plain "com/example/pathlatch/pathlatch/path/Predicate$Operator" (some 5) with
  accessFlags := 16433
  interfaces := #[]
  cf := some (fileOf pool6 1 #[.nestHost 106] #[{ accessFlags := 0, nameIndex := 96, descriptorIndex := 97, attributes := #[] }] 16433 32 #[] #[{ accessFlags := 16409, nameIndex := 5, descriptorIndex := 6, attributes := #[] }, { accessFlags := 16409, nameIndex := 9, descriptorIndex := 6, attributes := #[] }, { accessFlags := 16409, nameIndex := 12, descriptorIndex := 6, attributes := #[] }, { accessFlags := 16409, nameIndex := 15, descriptorIndex := 6, attributes := #[] }, { accessFlags := 16409, nameIndex := 18, descriptorIndex := 6, attributes := #[] }, { accessFlags := 16409, nameIndex := 21, descriptorIndex := 6, attributes := #[] }, { accessFlags := 16, nameIndex := 43, descriptorIndex := 44, attributes := #[] }, { accessFlags := 16, nameIndex := 47, descriptorIndex := 48, attributes := #[] }, { accessFlags := 4122, nameIndex := 24, descriptorIndex := 25, attributes := #[] }])
  fields := #[{ name := "EQUAL", type := (.object "com/example/pathlatch/pathlatch/path/Predicate$Operator"), accessFlags := 16409, slot := 0, constantValue := 0 }, { name := "NOT_EQUAL", type := (.object "com/example/pathlatch/pathlatch/path/Predicate$Operator"), accessFlags := 16409, slot := 1, constantValue := 0 }, { name := "LESS_OR_EQUAL", type := (.object "com/example/pathlatch/pathlatch/path/Predicate$Operator"), accessFlags := 16409, slot := 2, constantValue := 0 }, { name := "LESS", type := (.object "com/example/pathlatch/pathlatch/path/Predicate$Operator"), accessFlags := 16409, slot := 3, constantValue := 0 }, { name := "GREATER_OR_EQUAL", type := (.object "com/example/pathlatch/pathlatch/path/Predicate$Operator"), accessFlags := 16409, slot := 4, constantValue := 0 }, { name := "GREATER", type := (.object "com/example/pathlatch/pathlatch/path/Predicate$Operator"), accessFlags := 16409, slot := 5, constantValue := 0 }, { name := "symbol", type := (.object "java/lang/String"), accessFlags := 16, slot := 3, constantValue := 0 }, { name := "relational", type := .boolean, accessFlags := 16, slot := 4, constantValue := 0 }, { name := "$VALUES", type := (.array (.object "com/example/pathlatch/pathlatch/path/Predicate$Operator")), accessFlags := 4122, slot := 6, constantValue := 0 }]
  methods := #[k6m0]
  instanceTypes := #[(.object "java/lang/String"), .int, .int, (.object "java/lang/String"), .boolean]
  staticTypes := #[(.object "com/example/pathlatch/pathlatch/path/Predicate$Operator"), (.object "com/example/pathlatch/pathlatch/path/Predicate$Operator"), (.object "com/example/pathlatch/pathlatch/path/Predicate$Operator"), (.object "com/example/pathlatch/pathlatch/path/Predicate$Operator"), (.object "com/example/pathlatch/pathlatch/path/Predicate$Operator"), (.object "com/example/pathlatch/pathlatch/path/Predicate$Operator"), (.array (.object "com/example/pathlatch/pathlatch/path/Predicate$Operator"))]
  resolved := Array.replicate 110 none
  statics := some 0 }

def pool7 : Array CpInfo := pool [(1, u "java/lang/Cloneable"), (0, .class_ 1), (0, u "java/lang/Object"), (0, .class_ 3)] 3

/-- java/lang/Cloneable -/
def k7 : Class := { plain "java/lang/Cloneable" (some 0) with
  accessFlags := 1537
  interfaces := #[]
  cf := some (fileOf pool7 2 #[] #[] 1537 4 #[] #[])
  fields := #[]
  methods := #[]
  instanceTypes := #[]
  staticTypes := #[]
  resolved := Array.replicate 8 none
  statics := none }

/-- the primitive byte -/
def k8 : Class := { plain "byte" none with kind := .primitive 'B', accessFlags := 0x411 }
/-- [B -/
def k9 : Class := { plain "[B" (some 0) with kind := .array 8 .byte, interfaces := #[7, 4], accessFlags := 1041 }

/-- the primitive int -/
def k10 : Class := { plain "int" none with kind := .primitive 'I', accessFlags := 0x411 }
/-- [I -/
def k11 : Class := { plain "[I" (some 0) with kind := .array 10 .int, interfaces := #[7, 4], accessFlags := 1041 }

def heap : Heap := #[{ cls := 6, slots := #[.ref 1, .ref 2, .ref 6, .ref 4, .ref 3, .ref 5, .null], vm := .statics 6 },
  { cls := 6, slots := #[.null, .int 0, .int 0, .null, .int 0], vm := .none },
  { cls := 6, slots := #[.null, .int 1, .int 0, .null, .int 0], vm := .none },
  { cls := 6, slots := #[.null, .int 4, .int 0, .null, .int 0], vm := .none },
  { cls := 6, slots := #[.null, .int 3, .int 0, .null, .int 0], vm := .none },
  { cls := 6, slots := #[.null, .int 5, .int 0, .null, .int 0], vm := .none },
  { cls := 6, slots := #[.null, .int 2, .int 0, .null, .int 0], vm := .none }]
def classes : Array Class := #[k0, k1, k2, k3, k4, k5, k6, k7, k8, k9, k10, k11]
def interned : List (Array UInt16 × Addr) := []
def slotsUsed : Nat := 37
def theMethod : MethodId := ⟨1, 2⟩
def args0 : Array Value := #[.int 5, .int 7, .int 9, .int 1]
def aboutOver (below : List Frame) : State where
  vm := { classes := classes, interned := interned.toArray }
  heap := heap
  slotsUsed := slotsUsed
  threads := #[{ frames := .invoking theMethod args0 :: below }]
def below0 : List Frame := [.native { method := ⟨0, 0⟩, args := #[] }]
def about1 : State := aboutOver below0
def p0 : Program := .bare "" "" ""
def e0 : Env := launch0.env 0 0 0
theorem w_frames : about1.frames = Frame.invoking theMethod args0 :: below0 := rfl
set_option maxRecDepth 65536 in
theorem w_args : argsFit about1.vm theMethod args0 = true := by decide +kernel
set_option maxRecDepth 65536 in
theorem w_heap : heapFits about1 = true := by decide +kernel
set_option maxRecDepth 65536 in
theorem w_runnable : about1.curStatus? = some .runnable := by decide +kernel
set_option maxRecDepth 65536 in
theorem w_alone : about1.alone = true := by decide +kernel
set_option maxRecDepth 65536 in
theorem w_named : about1.methodNamed? x = some theMethod := by decide +kernel
set_option maxRecDepth 65536 in
theorem w_hears : about1.hears theMethod below0 = true := by decide +kernel
set_option maxRecDepth 65536 in
theorem w_ripe : about1.ripe theMethod args0 below0 = true := by decide +kernel
theorem w_running : about1.status = .running := rfl
set_option maxRecDepth 65536 in
theorem w_room : about1.hasRoom e0.platform room_1 = true :=
  launch0.hasRoom_least _ room_1 (by decide +kernel) (by decide +kernel) (by decide +kernel) (by decide +kernel) (by decide +kernel) (by decide +kernel)
theorem allAtoms_all (ts : List Jvm.Cond) (a : Array Jvm.Value) (st : Jvm.State) : (allAtoms ts).before a st = ts.all (fun c => c.before a st) := by
  induction ts with
  | nil => rfl
  | cons c t ih =>
    show (Jvm.Cond.and c (allAtoms t)).before a st = _
    rw [Jvm.Cond.before_and, ih, List.all_cons]
def words1 : List Jvm.Cond := Jvm.Cond.code x code maxLocals ret :: tables_1
/-- a 'code' word, met by the world's own term for the bytes: nothing is compared byte by byte -/
theorem code_word {y : MethodName} {bytes : ByteArray} {mx : Nat} {rt : Option FieldType} {a : Array Value} {s : State} {m : MethodId} {meth : Method} {c : Code} (h1 : s.methodNamed? y = some m) (h2 : s.vm.method? m = some meth) (h3 : meth.code = some c) (h4 : c.code = bytes)
    (h5 : (c.maxLocals == mx && c.exceptionTable.isEmpty && decide (c.maxStack ≤ mostOperands) && decide (meth.sig.returnType = rt) && !meth.locks && decide (parseMethodDescriptor y.desc = some meth.sig)) = true) : (Jvm.Cond.code y bytes mx rt).before a s = true := by
  simp only [Bool.and_eq_true, beq_iff_eq, Bool.not_eq_true', decide_eq_true_eq] at h5
  obtain ⟨⟨⟨⟨⟨g1, g2⟩, g3⟩, g4⟩, g5⟩, g6⟩ := h5
  simp [Cond.before, Cond.holds, Cond.value, h1, h2, h3, h4, g1, g2, g3, g4, g5, g6]
def isCode : Jvm.Cond → Bool
  | .code _ _ _ _ => true
  | _ => false
theorem all_split {L : List Jvm.Cond} {P : Jvm.Cond → Bool} (h1 : L.all (fun c => isCode c || P c) = true) (h2 : ∀ c ∈ L.filter isCode, P c = true) : L.all P = true := by
  refine List.all_eq_true.mpr fun c hc => ?_
  have h := List.all_eq_true.mp h1 c hc
  rcases Bool.eq_false_or_eq_true (isCode c) with hi | hi
  · exact h2 c (List.mem_filter.mpr ⟨hc, hi⟩)
  · simpa [hi] using h
set_option maxRecDepth 65536 in
theorem w_c0 : (Jvm.Cond.code x code maxLocals ret).before args0 about1 = true := code_word (m := ⟨1, 2⟩) (meth := k1m2) (c := k1c2) (by decide +kernel) rfl rfl rfl (by decide +kernel)
set_option maxRecDepth 65536 in
theorem w_c1 : (Jvm.Cond.code ({ cls := "com/example/pathlatch/pathlatch/path/OperatorHoldsPinLaw", name := "pick", desc := "(I)Lcom/example/pathlatch/pathlatch/path/Predicate$Operator;" } : Jvm.MethodName) method_2_code (1 : Nat) (Option.some (Jvm.ClassFile.FieldType.object "com/example/pathlatch/pathlatch/path/Predicate$Operator"))).before args0 about1 = true := code_word (m := ⟨1, 1⟩) (meth := k1m1) (c := k1c1) (by decide +kernel) rfl rfl rfl (by decide +kernel)
set_option maxRecDepth 65536 in
theorem w_c2 : (Jvm.Cond.code ({ cls := "com/example/pathlatch/pathlatch/path/Predicate$Operator", name := "holds", desc := "(DD)Z" } : Jvm.MethodName) prog_113_method_4_code (5 : Nat) (Option.some Jvm.ClassFile.FieldType.boolean)).before args0 about1 = true := code_word (m := ⟨6, 0⟩) (meth := k6m0) (c := k6c0) (by decide +kernel) rfl rfl rfl (by decide +kernel)
set_option maxRecDepth 65536 in
theorem w_c3 : (Jvm.Cond.code ({ cls := "java/lang/Enum", name := "ordinal", desc := "()I" } : Jvm.MethodName) jdk_37_method_2_code (1 : Nat) (Option.some Jvm.ClassFile.FieldType.int)).before args0 about1 = true := code_word (m := ⟨5, 0⟩) (meth := k5m0) (c := k5c0) (by decide +kernel) rfl rfl rfl (by decide +kernel)
def codes1 : List Jvm.Cond := [Jvm.Cond.code x code maxLocals ret, Jvm.Cond.code ({ cls := "com/example/pathlatch/pathlatch/path/OperatorHoldsPinLaw", name := "pick", desc := "(I)Lcom/example/pathlatch/pathlatch/path/Predicate$Operator;" } : Jvm.MethodName) method_2_code (1 : Nat) (Option.some (Jvm.ClassFile.FieldType.object "com/example/pathlatch/pathlatch/path/Predicate$Operator")), Jvm.Cond.code ({ cls := "com/example/pathlatch/pathlatch/path/Predicate$Operator", name := "holds", desc := "(DD)Z" } : Jvm.MethodName) prog_113_method_4_code (5 : Nat) (Option.some Jvm.ClassFile.FieldType.boolean), Jvm.Cond.code ({ cls := "java/lang/Enum", name := "ordinal", desc := "()I" } : Jvm.MethodName) jdk_37_method_2_code (1 : Nat) (Option.some Jvm.ClassFile.FieldType.int)]
set_option maxRecDepth 65536 in
theorem codes_eq : words1.filter isCode = codes1 := rfl
theorem w_codes : ∀ c ∈ words1.filter isCode, c.before args0 about1 = true := by
  rw [codes_eq]
  intro c hc
  simp only [codes1, List.mem_cons, List.not_mem_nil, or_false] at hc
  rcases hc with rfl | rfl | rfl | rfl
  · exact w_c0
  · exact w_c1
  · exact w_c2
  · exact w_c3
set_option maxRecDepth 65536 in
theorem w_t1 : (words1.take 24).all (fun c => isCode c || c.before args0 about1) = true := by decide +kernel
set_option maxRecDepth 65536 in
theorem w_t2 : (words1.drop 24).all (fun c => isCode c || c.before args0 about1) = true := by decide +kernel
theorem w_tables : (allAtoms (Jvm.Cond.code x code maxLocals ret :: tables_1)).before args0 about1 = true := by
  rw [allAtoms_all]
  show words1.all (fun c => c.before args0 about1) = true
  refine all_split ?_ w_codes
  rw [← List.take_append_drop 24 words1, List.all_append, w_t1, w_t2]
  rfl
set_option maxRecDepth 65536 in
theorem w_case : (Jvm.Cond.and given_1 narrow_1).before args0 about1 = true := by decide +kernel
theorem w_applies : (headSpec (Jvm.Cond.code x code maxLocals ret :: tables_1) room_1).applies x e0.platform about1 = true :=
  (Spec.applies_iff w_frames).mpr ⟨w_running, w_runnable, w_alone, w_named, w_hears, w_ripe, w_room, w_tables⟩
theorem atStart : AtStart classFile x code maxLocals ret World_1 tables_1 room_1 Calls_1 rest_1 Pre_1 launch0 p0 e0 about1 theMethod args0 below0 :=
  ⟨lists_1, trivial, launch0.admits_env _ _ _, launch0.least_env, fairChoices_fair.cas, fairChoices_fair.clock, w_frames, w_args, w_heap, w_applies, trivial, trivial, w_case⟩
end start1
theorem witness_1 : WitnessClaimed_1 := ⟨start1.p0, start1.e0, start1.about1, start1.theMethod, start1.args0, start1.below0, start1.atStart⟩
end Jvm.Pilot.@@N@@
