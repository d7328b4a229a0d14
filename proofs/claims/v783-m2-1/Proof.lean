import JvmDerived
import JvmDerived.Pilot.@@N@@Statement
import JvmDerived.Pilot.@@N@@Code
set_option linter.unusedVariables false
set_option linter.unusedSimpArgs false
namespace Jvm.Pilot.@@N@@
open Jvm Jvm.ClassFile Sem Op Lib Jvm.Free Jvm.Stand Jvm.LawKit Jvm.RoadKit Bundle Jvm.Pilot.@@N@@.Jvm.D
section OwnKit
variable {p : Program} {l : Launch} {e : Env} {R : Room} {s : State} {m : MethodId} {args : Array Value} {below : List Frame} {meth : Method} {c : Code} {T : State} {locs : List Loc} {cells slots : Nat} {Z : State} {a0 : Array Value} {h : Heap}
/-- from A the walk comes to an end of which F holds -/
def Rch (p : Program) (e : Env) (below : List Frame) (F : Outcome → State → Prop) (A : State) : Prop := ∃ s₂ o, Steps p.tables e below A s₂ ∧ s₂.status = .running ∧ Ended s₂ below o ∧ F o s₂
theorem Rch.go {F : Outcome → State → Prop} {A B : State} (h : ∀ t, Steps p.tables e below B t → Steps p.tables e below A t) (r : Rch p e below F B) : Rch p e below F A := by
  obtain ⟨t, o, h1, h2⟩ := r
  exact ⟨t, o, h t h1, h2⟩
/-- what a body leaves -/
def Leaves (s : State) (C S : Nat) (Q : Option Value → Heap → List Loc → Prop) (o : Outcome) (U : State) : Prop := ∃ v L, o = .returned v ∧ Q v U.heap L ∧ FrameEnd s o U L C S
/-- a body's contract, at one heap and one row of arguments -/
def Ctr (l : Launch) (Z : State) (ws : List Jvm.Cond) (y : MethodName) (bytes : ByteArray) (maxL : Nat) (ret : Option FieldType) (as' : Array Value) (h0 : Heap) (rm : Room) (Q : Option Value → Heap → List Loc → Prop) : Prop :=
  MetFree l y (head1 (Jvm.Cond.code y bytes maxL ret :: ws) rm) (fun a U => a = as' ∧ Z.Warmed39 U.vm ∧ U.heap = h0) (fun _ _ _ _ _ => True) (fun _ U o U' => ∃ v L, o = .returned v ∧ Q v U'.heap L ∧ FrameEnd U o U' L rm.cells rm.slots)
theorem Ctr.of {ws : List Jvm.Cond} {y : MethodName} {bytes : ByteArray} {maxL : Nat} {ret : Option FieldType} {as' : Array Value} {h0 : Heap} {rm : Room} {Q : Option Value → Heap → List Loc → Prop} {Ls : Array Slot} (hpn : plainFor y = true) (ef : ∀ m, entryFrame m as' maxL = mkF m 0 Ls [])
    (H : ∀ (p : Program) (e : Env) (s : State) (m : MethodId) (below : List Frame) (meth : Method) (c : Code) (T : State), p.tables.exec = Jvm.exec → Z.Warmed39 s.vm → c.code = bytes → c.maxLocals = maxL → s.vm.findClass y.cls = some m.cls → meth.name = y.name → meth.sig.returnType = ret → meth.locks = false →
      Stand p l e rm s m as' below meth c T [] 0 0 → T.heap = h0 → Rch p e below (Leaves s rm.cells rm.slots Q) (T.setTop (mkF m 0 Ls []))) : Ctr l Z ws y bytes maxL ret as' h0 rm Q := by
  refine MetFree.of_bodySF hpn hisR ?_
  intro p e s m args below meth c s₁ Bd hml0 hP hK
  obtain ⟨rfl, hZ, hh⟩ := hP
  have e0 : s₁.heap = h0 := by rw [← hh, Bd.state]; rfl
  obtain ⟨t, o, r1, r2, r3, r4⟩ := H p e s m below meth c s₁ Bd.exec hZ Bd.bytes hml0 (findClass_of_methodNamed Bd.named) (name_of_methodNamed Bd.named Bd.method).1 Bd.returns Bd.notSynchronized (Stand.of_body Bd) e0
  exact ⟨t, o, castTop (ef m) r1, r2, r3, r4⟩
theorem Rch.val (X : Stand p l e R s m args below meth c T locs cells slots) (hx : p.tables.exec = Jvm.exec) {pc : Nat} {Ls : Array Slot} {w : Value} {t : FieldType} {i : Instr} {rest : List Value} {Q : Option Value → Heap → List Loc → Prop} {C S : Nat} (hret : meth.sig.returnType = some t) (hlk : meth.locks = false) (hn : narrow t w = w)
    (hi : (i = .ireturn ∧ (t = .int ∨ t = .boolean ∨ t = .byte ∨ t = .char ∨ t = .short) ∧ ∃ z, w = .int z) ∨ (i = .lreturn ∧ t = .long ∧ ∃ z, w = .long z) ∨ (i = .dreturn ∧ t = .double ∧ ∃ z, w = .double z) ∨ (i = .freturn ∧ t = .float ∧ ∃ z, w = .float z) ∨ (i = .areturn ∧ t.isReference = true ∧ w.isRef = true))
    (hd : decode c.code pc = .ok (i, 1)) (hc : cells ≤ C) (hs : slots ≤ S) (hq : Q (some w) T.heap locs) : Rch p e below (Leaves s C S Q) (T.setTop (mkF m pc Ls (w :: rest))) := by
  obtain ⟨fs, hr, hrun, hended, hW, hsame⟩ := X.leave (v := some w) (fun h => by rw [hret] at h; cases h) hlk
  exact ⟨_, _, retOut X hx hret hn hi hd hr, hrun, hended, _, _, rfl, hq, ⟨_, rfl⟩, hW, hsame.mono hc hs⟩
theorem Rch.void (X : Stand p l e R s m args below meth c T locs cells slots) (hx : p.tables.exec = Jvm.exec) {pc : Nat} {Ls : Array Slot} {Q : Option Value → Heap → List Loc → Prop} {C S : Nat} (hret : meth.sig.returnType = none) (hlk : meth.locks = false)
    (hd : decode c.code pc = .ok (.return_, 1)) (hc : cells ≤ C) (hs : slots ≤ S) (hq : Q none T.heap locs) : Rch p e below (Leaves s C S Q) (T.setTop (mkF m pc Ls [])) := by
  obtain ⟨fs, hr, hrun, hended, hW, hsame⟩ := X.leave (v := none) (fun _ => rfl) hlk
  exact ⟨_, _, X.returnOut hx hret hd hr, hrun, hended, _, _, rfl, hq, ⟨_, rfl⟩, hW, hsame.mono hc hs⟩
theorem mayI {t : FieldType} {z : Int32} (ht : t = .int ∨ t = .boolean ∨ t = .byte ∨ t = .char ∨ t = .short) : ((Instr.ireturn : Instr) = .ireturn ∧ (t = .int ∨ t = .boolean ∨ t = .byte ∨ t = .char ∨ t = .short) ∧ ∃ y, (Value.int z) = .int y) ∨ ((Instr.ireturn : Instr) = .lreturn ∧ t = .long ∧ ∃ y, (Value.int z) = .long y) ∨ ((Instr.ireturn : Instr) = .dreturn ∧ t = .double ∧ ∃ y, (Value.int z) = .double y) ∨ ((Instr.ireturn : Instr) = .freturn ∧ t = .float ∧ ∃ y, (Value.int z) = .float y) ∨ ((Instr.ireturn : Instr) = .areturn ∧ t.isReference = true ∧ (Value.int z).isRef = true) := Or.inl ⟨rfl, ht, z, rfl⟩
end OwnKit
section OwnNum
theorem own_pos (x : Int32) : ¬ (x &&& 2147483647) < 0 := fun h => absurd ((XT.and_neg32 x 2147483647).mp h).2 (by decide)
theorem own_rem {y n : Int32} (h : ¬ y < 0) (hn : 0 < n.toInt) : 0 ≤ (y % n).toInt ∧ (y % n).toInt < n.toInt := by
  rw [Int32.toInt_mod]
  have h' : 0 ≤ y.toInt := Int.not_lt.mp fun q => h ((XT.negI32 y).mpr q)
  exact ⟨Int.tmod_nonneg _ h', Int.tmod_lt_of_pos _ hn⟩
end OwnNum
section OwnCase
variable {Z : State} {args : Array Value}
theorem own_fldI {t : Term} {a : Addr} {C n d : String} {k : Int32} (ev : t.eval args Z none [] Z = some (.ref a)) (h : (Cond.eq (.field t C n d) (.int k)).value args Z none Z [] = some true) : Fld Z Z.heap a C n d (.int k) := by
  refine Fld.start ?_
  rw [← fld_at (args := args) (first := Z) (o := none) (idx := []) (C := C) (n := n) (dd := d) ev]
  obtain ⟨x, y, h1, h2, h3, h4⟩ := cmp_v (Or.inl h)
  have h2' : y = .int k := (Option.some.inj ((Term.int_eval k).symm.trans h2)).symm
  subst h2'
  obtain ⟨z, rfl⟩ := h4
  have h5 : z = k := by simpa [Cond.value, h1, Term.int_eval] using h
  rw [h1, h5]
theorem own_fldR {t u : Term} {a b : Addr} {C n d : String} (ev : t.eval args Z none [] Z = some (.ref a)) (eu : u.eval args Z none [] Z = some (.ref b)) (h : (Cond.eq (.field t C n d) u).value args Z none Z [] = some true) : Fld Z Z.heap a C n d (.ref b) := by
  refine Fld.start ?_
  rw [← fld_at (args := args) (first := Z) (o := none) (idx := []) (C := C) (n := n) (dd := d) ev]
  obtain ⟨x, y, h1, h2, h3, h4⟩ := cmp_v (Or.inl h)
  obtain rfl : y = .ref b := Option.some.inj (h2.symm.trans eu)
  rw [h1]
  rcases ref_cases h4.2 with rfl | ⟨z, rfl⟩
  · simp [Cond.value, h1, eu] at h
  · have h5 : z = b := by simpa [Cond.value, h1, eu] using h
    rw [h5]
end OwnCase
section OwnSets
variable {Z : State} {args : Array Value}
theorem own_len {t : Term} {a : Addr} {ty : FieldType} {k : Int32} (ev : t.eval args Z none [] Z = some (.ref a)) (h1 : (Cond.arrayOf t ty).value args Z none Z [] = some true) (h2 : (Cond.eq (.length t) (.int k)).value args Z none Z [] = some true) : ∃ c, Arr Z Z.heap a c ty ∧ c.slots.size < 2 ^ 31 ∧ c.slots.size.toInt32 = k := by
  obtain ⟨c, A⟩ := Arr.start ev h1
  obtain ⟨x, y, e1, e2, e3, e4⟩ := cmp_v (Or.inl h2)
  have e2' : y = .int k := (Option.some.inj ((Term.int_eval k).symm.trans e2)).symm
  subst e2'
  obtain ⟨z, rfl⟩ := e4
  have h5 : z = k := by simpa [Cond.value, e1, Term.int_eval] using h2
  have hA : Z.arrayAt? a = some c := A.fin (Vm.Alike.refl _)
  simp only [Term.eval, ev, hA, Option.bind_eq_bind, Option.bind_some] at e1
  split at e1
  · rename_i hl
    refine ⟨c, A, hl, ?_⟩
    have := Option.some.inj e1
    rw [← h5]; exact Value.int.inj this
  · cases e1
theorem own_elem {t : Term} {a : Addr} {c : Cell} {ty : FieldType} {k : Int32} {v : Value} (A : Arr Z Z.heap a c ty) (ev : t.eval args Z none [] Z = some (.ref a)) (h : (Term.elem t (.int k)).eval args Z none [] Z = some v) : c.slots[k.toNatClampNeg]? = some v := (elem_in h ev (Term.int_eval k) A.1).2
theorem own_eqI {t : Term} {k : Int32} (h : (Cond.eq t (.int k)).value args Z none Z [] = some true) : t.eval args Z none [] Z = some (.int k) := by
  obtain ⟨x, y, e1, e2, e3, e4⟩ := cmp_v (Or.inl h)
  have e2' : y = .int k := (Option.some.inj ((Term.int_eval k).symm.trans e2)).symm
  subst e2'
  obtain ⟨z, rfl⟩ := e4
  have h5 : z = k := by simpa [Cond.value, e1, Term.int_eval] using h
  rw [e1, h5]
theorem own_eqR {t u : Term} {b : Addr} (eu : u.eval args Z none [] Z = some (.ref b)) (h : (Cond.eq t u).value args Z none Z [] = some true) : t.eval args Z none [] Z = some (.ref b) := by
  obtain ⟨x, y, h1, h2, h3, h4⟩ := cmp_v (Or.inl h)
  obtain rfl : y = .ref b := Option.some.inj (h2.symm.trans eu)
  rw [h1]
  rcases ref_cases h4.2 with rfl | ⟨z, rfl⟩
  · simp [Cond.value, h1, eu] at h
  · have h5 : z = b := by simpa [Cond.value, h1, eu] using h
    rw [h5]
theorem own_neI {t : Term} {x k : Int32} (ev : t.eval args Z none [] Z = some (.int x)) (h : (Cond.not (Cond.eq t (.int k))).value args Z none Z [] = some true) : ¬ x = k := fun q => by
  have h' := not_v h
  simp [Cond.value, ev, Term.int_eval, q] at h'
theorem own_fldV {t : Term} {a : Addr} {C n d : String} {v : Value} (ev : t.eval args Z none [] Z = some (.ref a)) (h : (Term.field t C n d).eval args Z none [] Z = some v) : Fld Z Z.heap a C n d v := Fld.start ((fld_at ev).symm.trans h)
theorem own_nref {v : Value} {t : FieldType} (h : v.isRef = true) : narrow t v = v := by cases v <;> first | rfl | (cases h; done) | (cases t <;> rfl)
theorem own_fref {v : Value} {t : FieldType} (h : v.isRef = true) (ht : t.isReference = true := by rfl) : fits t v = true := by cases t <;> first | (cases ht; done) | (cases v <;> first | rfl | (cases h; done))
end OwnSets
section OwnChar
theorem own_lcmp (x : Int64) : lcmpW x x = 0 := by simp [lcmpW]
theorem own_and255 (x : Int32) : ¬ (255 : Int32) < x &&& 255 ∧ ¬ x &&& 255 < 0 := by
  have h : (x &&& 255).toBitVec ≤ 255#32 := by
    show x.toBitVec &&& 255#32 ≤ 255#32
    rw [BitVec.le_def, BitVec.toNat_and]
    exact Nat.and_le_right
  have h2 : (x &&& 255).toInt = ((x &&& 255).toBitVec.toNat : Int) := by
    show (x &&& 255).toBitVec.toInt = _
    rw [BitVec.toInt_eq_toNat_of_lt]
    rw [BitVec.le_def] at h
    have : (255#32).toNat = 255 := rfl
    omega
  rw [BitVec.le_def] at h
  have h3 : (255#32).toNat = 255 := rfl
  rw [Int32.lt_iff_toInt_lt, Int32.lt_iff_toInt_lt, h2]
  have h4 : (255 : Int32).toInt = 255 := rfl
  have h5 : (0 : Int32).toInt = 0 := rfl
  rw [h4, h5]
  omega
/-- a char of eight bits -/
theorem own_chr (x : Int32) : ∃ c, (x &&& 255).toUInt32.toUInt16.toUInt32.toInt32 = c ∧ nar .char c = c ∧ ¬ (255 : Int32) < c ∧ ¬ c < 0 :=
  ⟨x &&& 255, i2c_mask x, i2c_mask x, (own_and255 x).1, (own_and255 x).2⟩
end OwnChar
section OwnInst
variable {p : Program} {l : Launch} {e : Env} {R : Room} {s : State} {m : MethodId} {args : Array Value} {below : List Frame} {meth : Method} {c : Code} {T : State} {locs : List Loc} {cells slots : Nat} {Z : State} {a0 : Array Value} {h : Heap}
/-- the class K is no interface -/
def NI (Z : State) (K : String) : Prop := ∃ (t : ClassId) (k : Class), Z.vm.findClass K = some t ∧ Z.vm.classes[t]? = some k ∧ k.isInterface = false
theorem NI.ofInst {K : String} {n : Nat} (w : (Cond.instantiable K n).before a0 Z = true) : NI Z K := by
  obtain ⟨c, k, h1, h2, -, h3, -⟩ := Cond.instantiable_spec w
  exact ⟨c, k, h1, h2, by simp at h3; exact h3.1⟩
theorem NI.ofSel {C K : String} {y z : MethodName} (w : (Cond.selects C y z).before a0 Z = true) (hz : z.cls = K) : NI Z K := by
  obtain ⟨c2, r2, m2, -, -, q3, -, kP, hkP, hkPi⟩ := Cond.selects_spec w
  exact ⟨m2.cls, kP, hz ▸ findClass_of_methodNamed q3, hkP, hkPi⟩
theorem own_nsRoot {O K : String} (w : (Cond.noSuperclass O).before a0 Z = true) (wk : NI Z K) (hn : O ≠ K) : NS Z O K := by
  obtain ⟨c, k, h1, h2, h3, -, -⟩ := Cond.noSuperclass_spec w
  obtain ⟨t, -, g1, -⟩ := wk
  have ne := ids_ne h1 g1 hn
  refine ⟨c, t, h1, g1, fun fuel => ?_⟩
  cases fuel with
  | zero => rfl
  | succ f => simp [Vm.isSubclassAux, ne, h2, h3]
theorem own_nsNo {C S K : String} (w : (Cond.superclass C S).before a0 Z = true) (wk : NI Z K) (n : NS Z C K) (hn : C ≠ K) : ∃ c t, Z.vm.findClass C = some c ∧ Z.vm.findClass K = some t ∧ Z.vm.assignable c t = false := by
  obtain ⟨c, t, h0, g0, n3⟩ := n
  obtain ⟨p, k, kp, h1, h2, h3, h4, h5, -, h7⟩ := Cond.superclass_spec h0 w
  obtain ⟨t', k', g1, g2, g3⟩ := wk
  cases g0.symm.trans g1
  have ne := ids_ne h0 g0 hn
  refine ⟨c, t, h0, g0, ?_⟩
  show Z.vm.assignableAux (255 + 1) c t = false
  cases hk : k'.kind <;> simp [Vm.assignableAux, ne, h2, g2, h5, hk, g3, Vm.isSubclass, n3]
/-- 'instanceof', whichever it says -/
theorem own_instE (X : Stand p l e R s m args below meth c T locs cells slots) (hx : p.tables.exec = Jvm.exec) (hZ : Z.Warmed39 s.vm) {own K C : String} {index : Nat} (hown : s.vm.findClass own = some m.cls) (w : (Cond.classLink own index K).before a0 Z = true) (eT : T.heap = h) {a : Addr} (E : Exa Z h a C)
    {g : JFrame} (hg : g.method = m) {rest : List Value} (hs : g.stack = .ref a :: rest) (hd : decode c.code g.pc = .ok (.instanceof index, 3)) :
    (Ins Z h a K true ∧ ∃ T', Stand p l e R s m args below meth c T' locs cells slots ∧ T'.heap = h ∧ ∀ target, Steps p.tables e below (T'.setTop { g with pc := g.pc + 3, stack := .int 1 :: rest }) target → Steps p.tables e below (T.setTop g) target) ∨
    (∃ T', Stand p l e R s m args below meth c T' locs cells slots ∧ T'.heap = h ∧ ∀ target, Steps p.tables e below (T'.setTop { g with pc := g.pc + 3, stack := .int 0 :: rest }) target → Steps p.tables e below (T.setTop g) target) := by
  have hpl : e.platform.magicAccessors = ({} : Platform).magicAccessors := by rw [X.admits.platform]
  obtain ⟨t, ht, -⟩ := Cond.classLink_spec hown (mv (args := args) hZ w) e.platform hpl
  rw [hZ.alike.findClass] at ht
  obtain ⟨cell, k, h1, h2, h3, h4, h5⟩ := id E
  cases ha : Z.vm.assignable cell.cls t with
  | true =>
    have I : Ins Z h a K true := ⟨cell, t, h1, ht, by simp [h4, ha]⟩
    exact Or.inl ⟨I, instY X hx hZ hown w eT I hg hs hd⟩
  | false => exact Or.inr (instNo X hx hZ hown w eT E ⟨cell.cls, t, h2, ht, ha⟩ hg hs hd)
end OwnInst
section OwnCalls
variable {p : Program} {l : Launch} {e : Env} {R : Room} {s : State} {m : MethodId} {args : Array Value} {below : List Frame} {meth : Method} {c : Code} {T : State} {locs : List Loc} {cells slots : Nat} {Z : State} {a0 : Array Value} {h : Heap}
theorem callPr (X : Stand p l e R s m args below meth c T locs cells slots) (hx : p.tables.exec = Jvm.exec) (hZ : Z.Warmed39 s.vm) {own C : String} {index : Nat} {y : MethodName} {bytes : ByteArray} {maxL : Nat} {ret : Option FieldType} {rm : Room} {as' : Array Value} {Q : Option Value → Heap → List Loc → Prop} (M : Ctr l Z [] y bytes maxL ret as' h rm Q) (eT : T.heap = h)
    (hown : s.vm.findClass own = some m.cls) (w1 : (Cond.methodLink own index y).before a0 Z = true) (w2 : (Cond.instanceMethod y).before a0 Z = true) (w3 : (Cond.selects y.cls y y).before a0 Z = true) (w4 : (Cond.privateMethod y).before a0 Z = true) (w5 : (Cond.code y bytes maxL ret).before a0 Z = true) (w6 : (Cond.initialized y.cls).before a0 Z = true)
    (hy : y.cls ≠ "java/lang/invoke/MethodHandle" ∧ y.cls ≠ "java/lang/invoke/VarHandle") {pc : Nat} {Ls : Array Slot} {st : List Value} (hd : decode c.code pc = .ok (.invokevirtual index, 3)) (W : Nat) (hf : rm.frames + 1 ≤ R.frames) (hl : W + (maxL + 11) + rm.locals ≤ R.locals) (hc : cells + rm.cells ≤ R.cells) (hs : slots + rm.slots ≤ R.slots)
    (hsz : Ls.size = c.maxLocals) (a : Addr) (E : Exa Z h a C) (argsL rest : List Value) (has : (.ref a :: argsL).toArray = as') (hlen : ∀ sig, parseMethodDescriptor y.desc = some sig → argsL.length = sig.parameters.length) (hst : st = argsL.reverse ++ .ref a :: rest) (hW : (rest.map fun v => v.category).sum ≤ W) :
    ∃ v T' L, Stand p l e R s m args below meth c T' (locs ++ L) (cells + rm.cells) (slots + rm.slots) ∧ Q v T'.heap L ∧ ∀ t, Steps p.tables e below (T'.setTop (mkF m (pc + 3) Ls (v.toList ++ rest))) t → Steps p.tables e below (T.setTop (mkF m pc Ls st)) t := by
  subst has
  obtain ⟨cq, qa, qb⟩ := E.cell
  rw [← eT] at qa
  obtain ⟨v, _, ⟨T', L', k', n'⟩, -, X', ⟨L, hQ, q1, q2, q3⟩, stp⟩ := X.privateBack hx (y := y) hown (mvT hZ w1) (mvT hZ w2) (mvT hZ w3) (Cond.privateMethod_at (args := args) (mvP (args := args) (s := s) hZ w4)) (mvT hZ w5) hy (backOf (W := W) M hZ w5 w6 hf hl) (g := mkF m pc Ls st) rfl hsz (Steps.refl _) (a := a) qa qb (argsL := argsL) (rest := rest) hlen hst (by show 2 * 0 + _ ≤ _; rw [Nat.mul_zero, Nat.zero_add]; exact hW) hd (fun _ _ => ⟨rfl, eT, hc, hs⟩)
  dsimp only [Pt.U, Pt.locs, Pt.cells, Pt.slots] at X' q1 q2 q3 stp hQ
  subst q1 q2 q3
  exact ⟨v, T', L, X', hQ, fun t k => stp.trans k⟩
theorem callSp (X : Stand p l e R s m args below meth c T locs cells slots) (hx : p.tables.exec = Jvm.exec) (hZ : Z.Warmed39 s.vm) {own : String} {index : Nat} {y : MethodName} {bytes : ByteArray} {maxL : Nat} {rm : Room} {as' : Array Value} {Q : Option Value → Heap → List Loc → Prop} (M : Ctr l Z [] y bytes maxL none as' h rm Q) (eT : T.heap = h)
    (hown : s.vm.findClass own = some m.cls) (hy1 : y.name = "<init>") (w1 : (Cond.methodLink own index y).before a0 Z = true) (w2 : (Cond.instanceMethod y).before a0 Z = true) (w5 : (Cond.code y bytes maxL none).before a0 Z = true) (w6 : (Cond.initialized y.cls).before a0 Z = true)
    (hy : y.cls ≠ "java/lang/invoke/MethodHandle" ∧ y.cls ≠ "java/lang/invoke/VarHandle") {pc : Nat} {Ls : Array Slot} {st : List Value} (hd : decode c.code pc = .ok (.invokespecial index, 3)) (W : Nat) (hf : rm.frames + 1 ≤ R.frames) (hl : W + (maxL + 11) + rm.locals ≤ R.locals) (hc : cells + rm.cells ≤ R.cells) (hs : slots + rm.slots ≤ R.slots)
    (hsz : Ls.size = c.maxLocals) (a : Addr) (argsL rest : List Value) (has : (.ref a :: argsL).toArray = as') (hlen : ∀ sig, parseMethodDescriptor y.desc = some sig → argsL.length = sig.parameters.length) (hst : st = argsL.reverse ++ .ref a :: rest) (hW : (rest.map fun v => v.category).sum ≤ W) :
    ∃ v T' L, Stand p l e R s m args below meth c T' (locs ++ L) (cells + rm.cells) (slots + rm.slots) ∧ Q v T'.heap L ∧ ∀ t, Steps p.tables e below (T'.setTop (mkF m (pc + 3) Ls (v.toList ++ rest))) t → Steps p.tables e below (T.setTop (mkF m pc Ls st)) t := by
  subst has
  obtain ⟨v, _, ⟨T', L', k', n'⟩, -, X', ⟨L, hQ, q1, q2, q3⟩, stp⟩ := X.specialBack hx (y := y) hy1 hown (mvT hZ w1) (mvT hZ w2) (mvT hZ w5) hy (backOf (W := W) M hZ w5 w6 hf hl) (g := mkF m pc Ls st) rfl hsz (Steps.refl _) (a := a) (argsL := argsL) (rest := rest) hlen hst (by show 2 * 0 + _ ≤ _; rw [Nat.mul_zero, Nat.zero_add]; exact hW) hd (fun _ _ => ⟨rfl, eT, hc, hs⟩)
  dsimp only [Pt.U, Pt.locs, Pt.cells, Pt.slots] at X' q1 q2 q3 stp hQ
  subst q1 q2 q3
  exact ⟨v, T', L, X', hQ, fun t k => stp.trans k⟩
theorem callSt (X : Stand p l e R s m args below meth c T locs cells slots) (hx : p.tables.exec = Jvm.exec) (hZ : Z.Warmed39 s.vm) {own : String} {index : Nat} {y : MethodName} {bytes : ByteArray} {maxL : Nat} {ret : Option FieldType} {rm : Room} {as' : Array Value} {Q : Option Value → Heap → List Loc → Prop} (M : Ctr l Z [] y bytes maxL ret as' h rm Q) (eT : T.heap = h)
    (hown : s.vm.findClass own = some m.cls) (w1 : (Cond.methodLink own index y).before a0 Z = true) (w2 : (Cond.static y).before a0 Z = true) (w5 : (Cond.code y bytes maxL ret).before a0 Z = true) (w6 : (Cond.initialized y.cls).before a0 Z = true)
    (hy : y.cls ≠ "java/lang/invoke/MethodHandle" ∧ y.cls ≠ "java/lang/invoke/VarHandle") {pc : Nat} {Ls : Array Slot} {st : List Value} (hd : decode c.code pc = .ok (.invokestatic index, 3)) (W : Nat) (hf : rm.frames + 1 ≤ R.frames) (hl : W + (maxL + 11) + rm.locals ≤ R.locals) (hc : cells + rm.cells ≤ R.cells) (hs : slots + rm.slots ≤ R.slots)
    (hsz : Ls.size = c.maxLocals) (argsL rest : List Value) (has : argsL.toArray = as') (hlen : ∀ sig, parseMethodDescriptor y.desc = some sig → argsL.length = sig.parameters.length) (hst : st = argsL.reverse ++ rest) (hW : (rest.map fun v => v.category).sum ≤ W) :
    ∃ v T' L, Stand p l e R s m args below meth c T' (locs ++ L) (cells + rm.cells) (slots + rm.slots) ∧ Q v T'.heap L ∧ ∀ t, Steps p.tables e below (T'.setTop (mkF m (pc + 3) Ls (v.toList ++ rest))) t → Steps p.tables e below (T.setTop (mkF m pc Ls st)) t := by
  subst has
  obtain ⟨v, _, ⟨T', L', k', n'⟩, -, X', ⟨L, hQ, q1, q2, q3⟩, stp⟩ := Jvm.LawKit.callS X hx (y := y) hown (mvT hZ w1) (mvT hZ w2) (mvT hZ w6) (mvT hZ w5) hy (backOf (W := W) M hZ w5 w6 hf hl) (g := mkF m pc Ls st) rfl hsz (argsL := argsL) (rest := rest) hlen hst (by show 2 * 0 + _ ≤ _; rw [Nat.mul_zero, Nat.zero_add]; exact hW) hd (fun _ _ => ⟨rfl, eT, hc, hs⟩)
  dsimp only [Pt.U, Pt.locs, Pt.cells, Pt.slots] at X' q1 q2 q3 stp hQ
  subst q1 q2 q3
  exact ⟨v, T', L, X', hQ, stp⟩
theorem callVi (X : Stand p l e R s m args below meth c T locs cells slots) (hx : p.tables.exec = Jvm.exec) (hZ : Z.Warmed39 s.vm) {own C : String} {index : Nat} {y z : MethodName} {bytes : ByteArray} {maxL : Nat} {ret : Option FieldType} {rm : Room} {as' : Array Value} {Q : Option Value → Heap → List Loc → Prop} (M : Ctr l Z [] z bytes maxL ret as' h rm Q) (eT : T.heap = h)
    (hown : s.vm.findClass own = some m.cls) (w1 : (Cond.methodLink own index y).before a0 Z = true) (w2 : (Cond.declares y).before a0 Z = true) (w3 : (Cond.selects C y z).before a0 Z = true) (hnf : NotFace s y) (w4 : (Cond.instanceMethod z).before a0 Z = true) (w5 : (Cond.code z bytes maxL ret).before a0 Z = true) (w6 : (Cond.initialized z.cls).before a0 Z = true)
    (hy : y.cls ≠ "java/lang/invoke/MethodHandle" ∧ y.cls ≠ "java/lang/invoke/VarHandle") {pc : Nat} {Ls : Array Slot} {st : List Value} (hd : decode c.code pc = .ok (.invokevirtual index, 3)) (W : Nat) (hf : rm.frames + 1 ≤ R.frames) (hl : W + (maxL + 11) + rm.locals ≤ R.locals) (hc : cells + rm.cells ≤ R.cells) (hs : slots + rm.slots ≤ R.slots)
    (hsz : Ls.size = c.maxLocals) (a : Addr) (E : Exa Z h a C) (argsL rest : List Value) (has : (.ref a :: argsL).toArray = as') (hlen : ∀ sig, parseMethodDescriptor y.desc = some sig → argsL.length = sig.parameters.length) (hst : st = argsL.reverse ++ .ref a :: rest) (hW : (rest.map fun v => v.category).sum ≤ W) :
    ∃ v T' L, Stand p l e R s m args below meth c T' (locs ++ L) (cells + rm.cells) (slots + rm.slots) ∧ Q v T'.heap L ∧ ∀ t, Steps p.tables e below (T'.setTop (mkF m (pc + 3) Ls (v.toList ++ rest))) t → Steps p.tables e below (T.setTop (mkF m pc Ls st)) t := by
  subst has
  obtain ⟨cq, kq, qa, qb, qc⟩ := isOf hZ eT E
  obtain ⟨v, _, ⟨T', L', k', n'⟩, -, X', ⟨L, hQ, q1, q2, q3⟩, stp⟩ := X.virtualBack hx (y := y) (z := z) hown (mvT hZ w1) (mvT hZ w2) hnf (mvT hZ w3) (mvT hZ w4) hy (backOf (W := W) M hZ w5 w6 hf hl) qa qc (g := mkF m pc Ls st) rfl hsz (Steps.refl _) (argsL := argsL) (rest := rest) hlen hst (by show 2 * 0 + _ ≤ _; rw [Nat.mul_zero, Nat.zero_add]; exact hW) hd (fun _ _ => ⟨rfl, eT, hc, hs⟩)
  dsimp only [Pt.U, Pt.locs, Pt.cells, Pt.slots] at X' q1 q2 q3 stp hQ
  subst q1 q2 q3
  exact ⟨v, T', L, X', hQ, fun t k => stp.trans k⟩
end OwnCalls
def Olds (Z : State) (ro0 : Addr) (ro1 : Addr) (ro2 : Addr) (ww3 : Int32) (ww4 : Value) (kk_ro0 : ClassId) (kk_ro1 : ClassId) : Prop := Sta Z Z.heap "java/util/ArrayList" "EMPTY_ELEMENTDATA" "[Ljava/lang/Object;" (.ref ro0) ∧ Exa Z Z.heap ro0 "[Ljava/lang/Object;" ∧ Sta Z Z.heap "java/util/ArrayList" "DEFAULTCAPACITY_EMPTY_ELEMENTDATA" "[Ljava/lang/Object;" (.ref ro1) ∧ Exa Z Z.heap ro1 "[Ljava/lang/Object;" ∧ Sta Z Z.heap "java/lang/Long$LongCache" "cache" "[Ljava/lang/Long;" (.ref ro2) ∧ Exa Z Z.heap ro2 "[Ljava/lang/Long;" ∧ Sta Z Z.heap "java/lang/String" "COMPACT_STRINGS" "Z" (.int ww3) ∧ Sta Z Z.heap "jdk/internal/util/Preconditions" "SIOOBE_FORMATTER" "Ljava/util/function/BiFunction;" ww4 ∧ Arv Z Z.heap ro0 kk_ro0 (.object "java/lang/Object") (0 : Int32) [] .null ∧ Arv Z Z.heap ro1 kk_ro1 (.object "java/lang/Object") (0 : Int32) [] .null ∧ ¬ (ww3 = (0 : Int32)) ∧ ww4.isRef = true
def Cached (Z : State) (ca : Addr) : Prop := ∀ y1 : Int64, ¬ (lcmpW y1 (-128 : Int64)) < (0 : Int32) → ¬ (0 : Int32) < (lcmpW y1 (127 : Int64)) → ∃ (b : Addr) (cl : Cell), Arr Z Z.heap ca cl (.object "java/lang/Long") ∧ ¬ ((y1.toInt32 + (128 : Int32)) < 0 ∨ cl.slots.size ≤ (y1.toInt32 + (128 : Int32)).toNatClampNeg) ∧ cl.slots[(y1.toInt32 + (128 : Int32)).toNatClampNeg]? = some (.ref b) ∧ Exa Z Z.heap b "java/lang/Long"
theorem wd_3 {Z : State} {a0 : Array Value} (hw : ∀ d ∈ tables_1, d.before a0 Z = true) : (Jvm.Cond.initialized "java/util/ArrayList").before a0 Z = true := hw _ (List.mem_of_getElem? (i := 3) rfl)
theorem d0_0 : decode jdk_35_method_24_code 0 = .ok (.sipush 128, 3) := by decide +kernel
theorem d0_3 : decode jdk_35_method_24_code 3 = .ok (.istore_n 2, 1) := by decide +kernel
theorem d0_4 : decode jdk_35_method_24_code 4 = .ok (.lload_n 0, 1) := by decide +kernel
theorem d0_5 : decode jdk_35_method_24_code 5 = .ok (.ldc2_w 230, 3) := by decide +kernel
theorem wd_31 {Z : State} {a0 : Array Value} (hw : ∀ d ∈ tables_1, d.before a0 Z = true) : (Jvm.Cond.constantLong "java/lang/Long" (230 : Nat) (-128 : Int64)).before a0 Z = true := hw _ (List.mem_of_getElem? (i := 31) rfl)
theorem d0_8 : decode jdk_35_method_24_code 8 = .ok (.lcmp, 1) := by decide +kernel
theorem d0_9 : decode jdk_35_method_24_code 9 = .ok (.ifCond .lt 22, 3) := by decide +kernel
theorem d0_31 : decode jdk_35_method_24_code 31 = .ok (.new 1, 3) := by decide +kernel
theorem wd_32 {Z : State} {a0 : Array Value} (hw : ∀ d ∈ tables_1, d.before a0 Z = true) : (Jvm.Cond.classLink "java/lang/Long" (1 : Nat) "java/lang/Long").before a0 Z = true := hw _ (List.mem_of_getElem? (i := 32) rfl)
theorem wd_33 {Z : State} {a0 : Array Value} (hw : ∀ d ∈ tables_1, d.before a0 Z = true) : (Jvm.Cond.instantiable "java/lang/Long" (1 : Nat)).before a0 Z = true := hw _ (List.mem_of_getElem? (i := 33) rfl)
theorem wd_29 {Z : State} {a0 : Array Value} (hw : ∀ d ∈ tables_1, d.before a0 Z = true) : (Jvm.Cond.initialized "java/lang/Long").before a0 Z = true := hw _ (List.mem_of_getElem? (i := 29) rfl)
theorem wd_46 {Z : State} {a0 : Array Value} (hw : ∀ d ∈ tables_1, d.before a0 Z = true) : (Jvm.Cond.laysFinal "java/lang/Long" "java/lang/Long" "value" "J").before a0 Z = true := hw _ (List.mem_of_getElem? (i := 46) rfl)
theorem d0_34 : decode jdk_35_method_24_code 34 = .ok (.dup, 1) := by decide +kernel
theorem d0_35 : decode jdk_35_method_24_code 35 = .ok (.lload_n 0, 1) := by decide +kernel
theorem d0_36 : decode jdk_35_method_24_code 36 = .ok (.invokespecial 240, 3) := by decide +kernel
theorem wd_34 {Z : State} {a0 : Array Value} (hw : ∀ d ∈ tables_1, d.before a0 Z = true) : (Jvm.Cond.methodLink "java/lang/Long" (240 : Nat) ({ cls := "java/lang/Long", name := "<init>", desc := "(J)V" } : Jvm.MethodName)).before a0 Z = true := hw _ (List.mem_of_getElem? (i := 34) rfl)
theorem d1_0 : decode jdk_35_method_26_code 0 = .ok (.aload_n 0, 1) := by decide +kernel
theorem d1_1 : decode jdk_35_method_26_code 1 = .ok (.invokespecial 270, 3) := by decide +kernel
theorem wd_38 {Z : State} {a0 : Array Value} (hw : ∀ d ∈ tables_1, d.before a0 Z = true) : (Jvm.Cond.methodLink "java/lang/Long" (270 : Nat) ({ cls := "java/lang/Number", name := "<init>", desc := "()V" } : Jvm.MethodName)).before a0 Z = true := hw _ (List.mem_of_getElem? (i := 38) rfl)
theorem d2_0 : decode jdk_18_method_1_code 0 = .ok (.aload_n 0, 1) := by decide +kernel
theorem d2_1 : decode jdk_18_method_1_code 1 = .ok (.invokespecial 1, 3) := by decide +kernel
theorem wd_44 {Z : State} {a0 : Array Value} (hw : ∀ d ∈ tables_1, d.before a0 Z = true) : (Jvm.Cond.methodLink "java/lang/Number" (1 : Nat) ({ cls := "java/lang/Object", name := "<init>", desc := "()V" } : Jvm.MethodName)).before a0 Z = true := hw _ (List.mem_of_getElem? (i := 44) rfl)
theorem wd_20 {Z : State} {a0 : Array Value} (hw : ∀ d ∈ tables_1, d.before a0 Z = true) : (Jvm.Cond.instanceMethod ({ cls := "java/lang/Object", name := "<init>", desc := "()V" } : Jvm.MethodName)).before a0 Z = true := hw _ (List.mem_of_getElem? (i := 20) rfl)
theorem wd_21 {Z : State} {a0 : Array Value} (hw : ∀ d ∈ tables_1, d.before a0 Z = true) : (Jvm.Cond.code ({ cls := "java/lang/Object", name := "<init>", desc := "()V" } : Jvm.MethodName) object_method_1_code (1 : Nat) (Option.none : Option Jvm.ClassFile.FieldType)).before a0 Z = true := hw _ (List.mem_of_getElem? (i := 21) rfl)
theorem d2_4 : decode jdk_18_method_1_code 4 = .ok (.return_, 1) := by decide +kernel
theorem pn_java_lang_Number : plainName "java/lang/Number" = true := by first | (simp [plainName, overriddenIn]; done) | decide +kernel
set_option maxRecDepth 65536 in
set_option maxHeartbeats 4000000 in
theorem ef_m2_init (m : MethodId) (x1 : Addr) : entryFrame m #[(.ref x1)] 1 = mkF m 0 #[.val (.ref x1)] [] := by first | rfl | (simp [entryFrame, mkF, argsToLocals, Value.category]; done)
set_option maxRecDepth 65536 in
set_option maxHeartbeats 40000000 in
theorem m2_init (l : Launch) (Z : State) (a0 : Array Value) (hw : ∀ d ∈ tables_1, d.before a0 Z = true) (x1 : Addr) (h0 : Heap) (n0 : Nat) (Z0 : n0 ≤ h0.size) (O0 : Old Z n0 h0) :
    Ctr l Z [] (⟨"java/lang/Number", "<init>", "()V"⟩ : MethodName) jdk_18_method_1_code 1 none #[(.ref x1)] h0 ({ frames := 1, cells := 0, slots := 0, locals := 12 } : Room) (fun v h L => v = none ∧ Fr n0 L ∧ h = h0) := by
  refine Ctr.of (plainFor_of_name pn_java_lang_Number) (fun m => ef_m2_init m x1) ?_
  intro p e s m below meth c T0 hx hZ hby hml hown hnm hret hlk X0 e0
  have N0 := Fr.nil n0
  show Rch p e below _ (T0.setTop (mkF m 0 #[.val (.ref x1)] []))
  refine Rch.go (fun t k => XS.aloadN X0.here hx rfl (hb hby d2_0) rfl rfl k) ?_
  show Rch p e below _ (T0.setTop (mkF m 1 #[.val (.ref x1)] [(.ref x1)]))
  obtain ⟨T1, X1, e1, st1⟩ := initO X0 hx hZ hown (wd_44 hw) (wd_20 hw) (wd_21 hw) e0 (g := (mkF m 1 #[.val (.ref x1)] [(.ref x1)])) rfl (by rw [hml]; rfl) rfl (hb hby d2_1) (by decide) (W := 0) (by show 2 * 0 + _ ≤ _; exact Nat.le_of_eq rfl) (by decide)
  refine Rch.go st1 ?_
  show Rch p e below _ (T1.setTop (mkF m 4 #[.val (.ref x1)] []))
  refine Rch.void X1 hx hret hlk (hb hby d2_4) (by decide) (by decide) ?_
  try rw [e1]
  exact ⟨rfl, N0, rfl⟩
theorem wd_43 {Z : State} {a0 : Array Value} (hw : ∀ d ∈ tables_1, d.before a0 Z = true) : (Jvm.Cond.code ({ cls := "java/lang/Number", name := "<init>", desc := "()V" } : Jvm.MethodName) jdk_18_method_1_code (1 : Nat) (Option.none : Option Jvm.ClassFile.FieldType)).before a0 Z = true := hw _ (List.mem_of_getElem? (i := 43) rfl)
theorem wd_42 {Z : State} {a0 : Array Value} (hw : ∀ d ∈ tables_1, d.before a0 Z = true) : (Jvm.Cond.initialized "java/lang/Number").before a0 Z = true := hw _ (List.mem_of_getElem? (i := 42) rfl)
theorem pd_0 : parseMethodDescriptor "()V" = some ⟨[], none⟩ := by decide +kernel
theorem wd_39 {Z : State} {a0 : Array Value} (hw : ∀ d ∈ tables_1, d.before a0 Z = true) : (Jvm.Cond.instanceMethod ({ cls := "java/lang/Number", name := "<init>", desc := "()V" } : Jvm.MethodName)).before a0 Z = true := hw _ (List.mem_of_getElem? (i := 39) rfl)
theorem d1_4 : decode jdk_35_method_26_code 4 = .ok (.aload_n 0, 1) := by decide +kernel
theorem d1_5 : decode jdk_35_method_26_code 5 = .ok (.lload_n 1, 1) := by decide +kernel
theorem d1_6 : decode jdk_35_method_26_code 6 = .ok (.putfield 273, 3) := by decide +kernel
theorem wd_45 {Z : State} {a0 : Array Value} (hw : ∀ d ∈ tables_1, d.before a0 Z = true) : (Jvm.Cond.fieldLink "java/lang/Long" (273 : Nat) "java/lang/Long" "value" "J").before a0 Z = true := hw _ (List.mem_of_getElem? (i := 45) rfl)
theorem d1_9 : decode jdk_35_method_26_code 9 = .ok (.return_, 1) := by decide +kernel
theorem pn_java_lang_Long : plainName "java/lang/Long" = true := by first | (simp [plainName, overriddenIn]; done) | decide +kernel
set_option maxRecDepth 65536 in
set_option maxHeartbeats 4000000 in
theorem ef_m1_init (m : MethodId) (x1 : Addr) (y2 : Int64) : entryFrame m #[(.ref x1), (.long y2)] 3 = mkF m 0 #[.val (.ref x1), .val (.long y2), .second] [] := by first | rfl | (simp [entryFrame, mkF, argsToLocals, Value.category]; done)
set_option maxRecDepth 65536 in
set_option maxHeartbeats 40000000 in
theorem m1_init (l : Launch) (Z : State) (a0 : Array Value) (hw : ∀ d ∈ tables_1, d.before a0 Z = true) (x1 : Addr) (y2 : Int64) (h0 : Heap) (n0 : Nat) (Z0 : n0 ≤ h0.size) (O0 : Old Z n0 h0) (P1 : Exa Z h0 x1 "java/lang/Long") (P2 : Fld Z h0 x1 "java/lang/Long" "value" "J" (.long (0 : Int64))) (P3 : n0 ≤ x1) :
    Ctr l Z [] (⟨"java/lang/Long", "<init>", "(J)V"⟩ : MethodName) jdk_35_method_26_code 3 none #[(.ref x1), (.long y2)] h0 ({ frames := 2, cells := 0, slots := 0, locals := 24 } : Room) (fun v h L => v = none ∧ Fr n0 L ∧ Keep h0 h [x1] ∧ Fld Z h x1 "java/lang/Long" "value" "J" (.long y2)) := by
  refine Ctr.of (plainFor_of_name pn_java_lang_Long) (fun m => ef_m1_init m x1 y2) ?_
  intro p e s m below meth c T0 hx hZ hby hml hown hnm hret hlk X0 e0
  have N0 := Fr.nil n0
  show Rch p e below _ (T0.setTop (mkF m 0 #[.val (.ref x1), .val (.long y2), .second] []))
  refine Rch.go (fun t k => XS.aloadN X0.here hx rfl (hb hby d1_0) rfl rfl k) ?_
  show Rch p e below _ (T0.setTop (mkF m 1 #[.val (.ref x1), .val (.long y2), .second] [(.ref x1)]))
  obtain ⟨v1, T1, L1, X1, Q1, st1⟩ := callSp X0 hx hZ (m2_init l Z a0 hw x1 h0 n0 Z0 O0 ) e0 hown rfl (wd_38 hw) (wd_39 hw) (wd_43 hw) (wd_42 hw) (by decide) (hb hby d1_1) 0 (by decide) (by decide) (by decide) (by decide) (by rw [hml]; rfl) x1 [] [] rfl (lenOf pd_0 rfl) rfl (Nat.le_of_eq rfl) (Ls := #[.val (.ref x1), .val (.long y2), .second])
  obtain ⟨rfl, M1, e1⟩ := Q1
  have N1 := Fr.app N0 M1
  refine Rch.go st1 ?_
  show Rch p e below _ (T1.setTop (mkF m 4 #[.val (.ref x1), .val (.long y2), .second] []))
  refine Rch.go (fun t k => XS.aloadN X1.here hx rfl (hb hby d1_4) rfl rfl k) ?_
  show Rch p e below _ (T1.setTop (mkF m 5 #[.val (.ref x1), .val (.long y2), .second] [(.ref x1)]))
  refine Rch.go (fun t k => XS.lloadN X1.here hx rfl (hb hby d1_5) rfl  k) ?_
  show Rch p e below _ (T1.setTop (mkF m 6 #[.val (.ref x1), .val (.long y2), .second] [(.long y2), (.ref x1)]))
  obtain ⟨T2, h2, X2, e2, W2, st2⟩ := putF X1 hx hZ hown (host := "") (Or.inl (wd_45 hw)) Via.refl e1 P2 P1 (Or.inr ⟨(wd_46 hw), rfl, hnm⟩) (wd_33 hw) (ty := .long) (by decide) rfl rfl (g := (mkF m 6 #[.val (.ref x1), .val (.long y2), .second] [(.long y2), (.ref x1)])) rfl rfl (hb hby d1_6)
  refine Rch.go st2 ?_
  have z3 : n0 ≤ h2.size := (Nat.le_trans Z0 (Nat.le_of_eq W2.size.symm))
  have o4 := O0.wr W2 P3
  have F2 := P2.same W2
  have N2 := Fr.snoc X2 N1 P3
  show Rch p e below _ (T2.setTop (mkF m 9 #[.val (.ref x1), .val (.long y2), .second] []))
  refine Rch.void X2 hx hret hlk (hb hby d1_9) (by decide) (by decide) ?_
  try rw [e2]
  exact ⟨rfl, N2, ((Keep.refl _ _).wr W2 (Or.inl (List.mem_of_getElem? (i := 0) rfl))), F2⟩
theorem wd_37 {Z : State} {a0 : Array Value} (hw : ∀ d ∈ tables_1, d.before a0 Z = true) : (Jvm.Cond.code ({ cls := "java/lang/Long", name := "<init>", desc := "(J)V" } : Jvm.MethodName) jdk_35_method_26_code (3 : Nat) (Option.none : Option Jvm.ClassFile.FieldType)).before a0 Z = true := hw _ (List.mem_of_getElem? (i := 37) rfl)
theorem pd_1 : parseMethodDescriptor "(J)V" = some ⟨[.long], none⟩ := by decide +kernel
theorem wd_35 {Z : State} {a0 : Array Value} (hw : ∀ d ∈ tables_1, d.before a0 Z = true) : (Jvm.Cond.instanceMethod ({ cls := "java/lang/Long", name := "<init>", desc := "(J)V" } : Jvm.MethodName)).before a0 Z = true := hw _ (List.mem_of_getElem? (i := 35) rfl)
theorem d0_39 : decode jdk_35_method_24_code 39 = .ok (.areturn, 1) := by decide +kernel
theorem d0_12 : decode jdk_35_method_24_code 12 = .ok (.lload_n 0, 1) := by decide +kernel
theorem d0_13 : decode jdk_35_method_24_code 13 = .ok (.ldc2_w 232, 3) := by decide +kernel
theorem wd_135 {Z : State} {a0 : Array Value} (hw : ∀ d ∈ tables_1, d.before a0 Z = true) : (Jvm.Cond.constantLong "java/lang/Long" (232 : Nat) (127 : Int64)).before a0 Z = true := hw _ (List.mem_of_getElem? (i := 135) rfl)
theorem d0_16 : decode jdk_35_method_24_code 16 = .ok (.lcmp, 1) := by decide +kernel
theorem d0_17 : decode jdk_35_method_24_code 17 = .ok (.ifCond .gt 14, 3) := by decide +kernel
theorem d0_20 : decode jdk_35_method_24_code 20 = .ok (.getstatic 234, 3) := by decide +kernel
theorem wd_136 {Z : State} {a0 : Array Value} (hw : ∀ d ∈ tables_1, d.before a0 Z = true) : (Jvm.Cond.fieldLink "java/lang/Long" (234 : Nat) "java/lang/Long$LongCache" "cache" "[Ljava/lang/Long;").before a0 Z = true := hw _ (List.mem_of_getElem? (i := 136) rfl)
theorem d0_23 : decode jdk_35_method_24_code 23 = .ok (.lload_n 0, 1) := by decide +kernel
theorem d0_24 : decode jdk_35_method_24_code 24 = .ok (.l2i, 1) := by decide +kernel
theorem d0_25 : decode jdk_35_method_24_code 25 = .ok (.sipush 128, 3) := by decide +kernel
theorem d0_28 : decode jdk_35_method_24_code 28 = .ok (.iadd, 1) := by decide +kernel
theorem d0_29 : decode jdk_35_method_24_code 29 = .ok (.aaload, 1) := by decide +kernel
theorem d0_30 : decode jdk_35_method_24_code 30 = .ok (.areturn, 1) := by decide +kernel
set_option maxRecDepth 65536 in
set_option maxHeartbeats 4000000 in
theorem ef_lv (m : MethodId) (y1 : Int64) (ca : Addr) : entryFrame m #[(.long y1)] 3 = mkF m 0 #[.val (.long y1), .second, .unset] [] := by first | rfl | (simp [entryFrame, mkF, argsToLocals, Value.category]; done)
set_option maxRecDepth 65536 in
set_option maxHeartbeats 40000000 in
theorem lv (l : Launch) (Z : State) (a0 : Array Value) (hw : ∀ d ∈ tables_1, d.before a0 Z = true) (y1 : Int64) (ca : Addr) (h0 : Heap) (n0 : Nat) (Z0 : n0 ≤ h0.size) (O0 : Old Z n0 h0) (C1 : Sta Z Z.heap "java/lang/Long$LongCache" "cache" "[Ljava/lang/Long;" (.ref ca)) (C2 : Cached Z ca) :
    Ctr l Z [] (⟨"java/lang/Long", "valueOf", "(J)Ljava/lang/Long;"⟩ : MethodName) jdk_35_method_24_code 3 (some (.object "java/lang/Long")) #[(.long y1)] h0 ({ frames := 3, cells := 1, slots := 1, locals := 39 } : Room) (fun v h L => ∃ a : Addr, v = some (.ref a) ∧ Fr n0 L ∧ Keep h0 h [] ∧ Exa Z h a "java/lang/Long") := by
  refine Ctr.of (plainFor_of_name pn_java_lang_Long) (fun m => ef_lv m y1 ca) ?_
  intro p e s m below meth c T0 hx hZ hby hml hown hnm hret hlk X0 e0
  have N0 := Fr.nil n0
  show Rch p e below _ (T0.setTop (mkF m 0 #[.val (.long y1), .second, .unset] []))
  refine Rch.go (fun t k => XS.sipush X0.here hx rfl (hb hby d0_0) k) ?_
  show Rch p e below _ (T0.setTop (mkF m 3 #[.val (.long y1), .second, .unset] [(.int (128 : Int32))]))
  refine Rch.go (fun t k => XS.istoreN X0.here hx rfl (hb hby d0_3) rfl  (l' := #[.val (.long y1), .second, .val (.int (128 : Int32))]) rfl k) ?_
  show Rch p e below _ (T0.setTop (mkF m 4 #[.val (.long y1), .second, .val (.int (128 : Int32))] []))
  refine Rch.go (fun t k => XS.lloadN X0.here hx rfl (hb hby d0_4) rfl  k) ?_
  show Rch p e below _ (T0.setTop (mkF m 5 #[.val (.long y1), .second, .val (.int (128 : Int32))] [(.long y1)]))
  refine Rch.go (fun t k => Jvm.Stand.ldc2J X0 hx hown (mvT hZ (wd_31 hw)) rfl (hb hby d0_5) k) ?_
  show Rch p e below _ (T0.setTop (mkF m 8 #[.val (.long y1), .second, .val (.int (128 : Int32))] [(.long (-128 : Int64)), (.long y1)]))
  refine Rch.go (fun t k => XS.lcmp X0.here hx rfl (hb hby d0_8) rfl k) ?_
  show Rch p e below _ (T0.setTop (mkF m 9 #[.val (.long y1), .second, .val (.int (128 : Int32))] [(.int (lcmpW y1 (-128 : Int64)))]))
  by_cases hlo : (lcmpW y1 (-128 : Int64)) < (0 : Int32)
  · show Rch p e below _ (T0.setTop (mkF m 9 #[.val (.long y1), .second, .val (.int (128 : Int32))] [(.int (lcmpW y1 (-128 : Int64)))]))
    refine Rch.go (fun t k => XS.ifYes X0.here hx rfl (pc0 := 9) (pc' := 31) rfl (hb hby d0_9) rfl (XT.i0_lt_t hlo) (by decide) (by decide) k) ?_
    show Rch p e below _ (T0.setTop (mkF m 31 #[.val (.long y1), .second, .val (.int (128 : Int32))] []))
    obtain ⟨T1, h1, X1, e1, E1, A1, D1, -, st1⟩ := newO X0 hx hZ hown (wd_32 hw) (wd_33 hw) (wd_29 hw) e0 (g := (mkF m 31 #[.val (.long y1), .second, .val (.int (128 : Int32))] [])) rfl (hb hby d0_31) (by decide) (by decide)
    obtain ⟨b1, g1⟩ : ∃ z, z = h0.size := ⟨_, rfl⟩
    rw [← g1] at A1 D1 st1
    refine Rch.go st1 ?_
    have z2 : n0 ≤ h1.size := (Nat.le_trans Z0 E1.1)
    have o3 := O0.ext E1
    have g_b1 : n0 ≤ b1 := Nat.le_trans Z0 (Nat.le_of_eq g1.symm)
    have F1_value : Fld Z h1 b1 "java/lang/Long" "value" "J" (.long (0 : Int64)) := (D1 (Or.inr (wd_46 hw)) (ty := .long) (by decide))
    show Rch p e below _ (T1.setTop (mkF m 34 #[.val (.long y1), .second, .val (.int (128 : Int32))] [(.ref b1)]))
    refine Rch.go (fun t k => XS.dup X1.here hx rfl (hb hby d0_34) rfl rfl k) ?_
    show Rch p e below _ (T1.setTop (mkF m 35 #[.val (.long y1), .second, .val (.int (128 : Int32))] [(.ref b1), (.ref b1)]))
    refine Rch.go (fun t k => XS.lloadN X1.here hx rfl (hb hby d0_35) rfl  k) ?_
    show Rch p e below _ (T1.setTop (mkF m 36 #[.val (.long y1), .second, .val (.int (128 : Int32))] [(.long y1), (.ref b1), (.ref b1)]))
    obtain ⟨v4, T4, L4, X4, Q4, st4⟩ := callSp X1 hx hZ (m1_init l Z a0 hw b1 y1 h1 n0 z2 o3 A1 F1_value g_b1) e1 hown rfl (wd_34 hw) (wd_35 hw) (wd_37 hw) (wd_29 hw) (by decide) (hb hby d0_36) 1 (by decide) (by decide) (by decide) (by decide) (by rw [hml]; rfl) b1 [(.long y1)] [(.ref b1)] rfl (lenOf pd_1 rfl) rfl (Nat.le_of_eq rfl) (Ls := #[.val (.long y1), .second, .val (.int (128 : Int32))])
    obtain ⟨rfl, M4, K4, F4_0⟩ := Q4
    have N4 := Fr.app N0 M4
    refine Rch.go st4 ?_
    have z5 : n0 ≤ T4.heap.size := (Nat.le_trans z2 K4.1)
    have o6 := o3.keep K4 (allS g_b1 all0)
    show Rch p e below _ (T4.setTop (mkF m 39 #[.val (.long y1), .second, .val (.int (128 : Int32))] [(.ref b1)]))
    have f7 := (A1.keep K4)
    refine Rch.val X4 hx (t := (.object "java/lang/Long")) hret hlk rfl (Or.inr (Or.inr (Or.inr (Or.inr ⟨rfl, rfl, rfl⟩)))) (hb hby d0_39) (by decide) (by decide) ?_
    exact ⟨b1, rfl, N4, (((Keep.refl _ _).ext E1).trans K4 (allS (Or.inr (Nat.le_trans (Nat.le_refl _) (Nat.le_of_eq g1.symm))) all0)), f7⟩
  · show Rch p e below _ (T0.setTop (mkF m 9 #[.val (.long y1), .second, .val (.int (128 : Int32))] [(.int (lcmpW y1 (-128 : Int64)))]))
    refine Rch.go (fun t k => XS.ifNo X0.here hx rfl (hb hby d0_9) rfl (XT.i0_lt_f hlo) k) ?_
    show Rch p e below _ (T0.setTop (mkF m 12 #[.val (.long y1), .second, .val (.int (128 : Int32))] []))
    refine Rch.go (fun t k => XS.lloadN X0.here hx rfl (hb hby d0_12) rfl  k) ?_
    show Rch p e below _ (T0.setTop (mkF m 13 #[.val (.long y1), .second, .val (.int (128 : Int32))] [(.long y1)]))
    refine Rch.go (fun t k => Jvm.Stand.ldc2J X0 hx hown (mvT hZ (wd_135 hw)) rfl (hb hby d0_13) k) ?_
    show Rch p e below _ (T0.setTop (mkF m 16 #[.val (.long y1), .second, .val (.int (128 : Int32))] [(.long (127 : Int64)), (.long y1)]))
    refine Rch.go (fun t k => XS.lcmp X0.here hx rfl (hb hby d0_16) rfl k) ?_
    show Rch p e below _ (T0.setTop (mkF m 17 #[.val (.long y1), .second, .val (.int (128 : Int32))] [(.int (lcmpW y1 (127 : Int64)))]))
    by_cases hhi : (0 : Int32) < (lcmpW y1 (127 : Int64))
    · show Rch p e below _ (T0.setTop (mkF m 17 #[.val (.long y1), .second, .val (.int (128 : Int32))] [(.int (lcmpW y1 (127 : Int64)))]))
      refine Rch.go (fun t k => XS.ifYes X0.here hx rfl (pc0 := 17) (pc' := 31) rfl (hb hby d0_17) rfl (XT.i0_gt_t hhi) (by decide) (by decide) k) ?_
      show Rch p e below _ (T0.setTop (mkF m 31 #[.val (.long y1), .second, .val (.int (128 : Int32))] []))
      obtain ⟨T8, h8, X8, e8, E8, A8, D8, -, st8⟩ := newO X0 hx hZ hown (wd_32 hw) (wd_33 hw) (wd_29 hw) e0 (g := (mkF m 31 #[.val (.long y1), .second, .val (.int (128 : Int32))] [])) rfl (hb hby d0_31) (by decide) (by decide)
      obtain ⟨b8, g8⟩ : ∃ z, z = h0.size := ⟨_, rfl⟩
      rw [← g8] at A8 D8 st8
      refine Rch.go st8 ?_
      have z9 : n0 ≤ h8.size := (Nat.le_trans Z0 E8.1)
      have o10 := O0.ext E8
      have g_b8 : n0 ≤ b8 := Nat.le_trans Z0 (Nat.le_of_eq g8.symm)
      have F8_value : Fld Z h8 b8 "java/lang/Long" "value" "J" (.long (0 : Int64)) := (D8 (Or.inr (wd_46 hw)) (ty := .long) (by decide))
      show Rch p e below _ (T8.setTop (mkF m 34 #[.val (.long y1), .second, .val (.int (128 : Int32))] [(.ref b8)]))
      refine Rch.go (fun t k => XS.dup X8.here hx rfl (hb hby d0_34) rfl rfl k) ?_
      show Rch p e below _ (T8.setTop (mkF m 35 #[.val (.long y1), .second, .val (.int (128 : Int32))] [(.ref b8), (.ref b8)]))
      refine Rch.go (fun t k => XS.lloadN X8.here hx rfl (hb hby d0_35) rfl  k) ?_
      show Rch p e below _ (T8.setTop (mkF m 36 #[.val (.long y1), .second, .val (.int (128 : Int32))] [(.long y1), (.ref b8), (.ref b8)]))
      obtain ⟨v11, T11, L11, X11, Q11, st11⟩ := callSp X8 hx hZ (m1_init l Z a0 hw b8 y1 h8 n0 z9 o10 A8 F8_value g_b8) e8 hown rfl (wd_34 hw) (wd_35 hw) (wd_37 hw) (wd_29 hw) (by decide) (hb hby d0_36) 1 (by decide) (by decide) (by decide) (by decide) (by rw [hml]; rfl) b8 [(.long y1)] [(.ref b8)] rfl (lenOf pd_1 rfl) rfl (Nat.le_of_eq rfl) (Ls := #[.val (.long y1), .second, .val (.int (128 : Int32))])
      obtain ⟨rfl, M11, K11, F11_0⟩ := Q11
      have N11 := Fr.app N0 M11
      refine Rch.go st11 ?_
      have z12 : n0 ≤ T11.heap.size := (Nat.le_trans z9 K11.1)
      have o13 := o10.keep K11 (allS g_b8 all0)
      show Rch p e below _ (T11.setTop (mkF m 39 #[.val (.long y1), .second, .val (.int (128 : Int32))] [(.ref b8)]))
      have f14 := (A8.keep K11)
      refine Rch.val X11 hx (t := (.object "java/lang/Long")) hret hlk rfl (Or.inr (Or.inr (Or.inr (Or.inr ⟨rfl, rfl, rfl⟩)))) (hb hby d0_39) (by decide) (by decide) ?_
      exact ⟨b8, rfl, N11, (((Keep.refl _ _).ext E8).trans K11 (allS (Or.inr (Nat.le_trans (Nat.le_refl _) (Nat.le_of_eq g8.symm))) all0)), f14⟩
    · show Rch p e below _ (T0.setTop (mkF m 17 #[.val (.long y1), .second, .val (.int (128 : Int32))] [(.int (lcmpW y1 (127 : Int64)))]))
      refine Rch.go (fun t k => XS.ifNo X0.here hx rfl (hb hby d0_17) rfl (XT.i0_gt_f hhi) k) ?_
      show Rch p e below _ (T0.setTop (mkF m 20 #[.val (.long y1), .second, .val (.int (128 : Int32))] []))
      obtain ⟨T15, X15, e15, st15⟩ := getS2 X0 hx hZ hown (host := "") (Or.inl (wd_136 hw)) Via.refl e0 (C1.ext O0.2) (g := (mkF m 20 #[.val (.long y1), .second, .val (.int (128 : Int32))] [])) rfl (hb hby d0_20)
      refine Rch.go st15 ?_
      show Rch p e below _ (T15.setTop (mkF m 23 #[.val (.long y1), .second, .val (.int (128 : Int32))] [(.ref ca)]))
      refine Rch.go (fun t k => XS.lloadN X15.here hx rfl (hb hby d0_23) rfl  k) ?_
      show Rch p e below _ (T15.setTop (mkF m 24 #[.val (.long y1), .second, .val (.int (128 : Int32))] [(.long y1), (.ref ca)]))
      refine Rch.go (fun t k => XS.l2i X15.here hx rfl (hb hby d0_24) rfl k) ?_
      show Rch p e below _ (T15.setTop (mkF m 25 #[.val (.long y1), .second, .val (.int (128 : Int32))] [(.int (y1.toInt32)), (.ref ca)]))
      refine Rch.go (fun t k => XS.sipush X15.here hx rfl (hb hby d0_25) k) ?_
      show Rch p e below _ (T15.setTop (mkF m 28 #[.val (.long y1), .second, .val (.int (128 : Int32))] [(.int (128 : Int32)), (.int (y1.toInt32)), (.ref ca)]))
      refine Rch.go (fun t k => XS.iadd X15.here hx rfl (hb hby d0_28) rfl k) ?_
      show Rch p e below _ (T15.setTop (mkF m 29 #[.val (.long y1), .second, .val (.int (128 : Int32))] [(.int ((y1.toInt32) + (128 : Int32))), (.ref ca)]))
      obtain ⟨b16, cc16, hA16, hin16, hat16, hE16⟩ := C2 y1 hlo hhi
      have r16 := hA16.ext O0.2
      refine Rch.go (fun t k => X15.aaload hx (j := ((y1.toInt32) + (128 : Int32))) (v := (.ref b16)) (by rw [e15]; exact r16.1) (State.isArrayOf_alike hZ.alike r16.2.1) rfl r16.2.2 hin16 hat16 (g := (mkF m 29 #[.val (.long y1), .second, .val (.int (128 : Int32))] [(.int ((y1.toInt32) + (128 : Int32))), (.ref ca)])) rfl rfl (hb hby d0_29) t k) ?_
      show Rch p e below _ (T15.setTop (mkF m 30 #[.val (.long y1), .second, .val (.int (128 : Int32))] [(.ref b16)]))
      refine Rch.val X15 hx (t := (.object "java/lang/Long")) hret hlk rfl (Or.inr (Or.inr (Or.inr (Or.inr ⟨rfl, rfl, rfl⟩)))) (hb hby d0_30) (by decide) (by decide) ?_
      try rw [e15]
      exact ⟨b16, rfl, N0, (Keep.refl _ _), (hE16.ext O0.2)⟩
theorem wd_0 {Z : State} {a0 : Array Value} (hw : ∀ d ∈ tables_1, d.before a0 Z = true) : (Jvm.Cond.arrayClass Jvm.ClassFile.FieldType.char).before a0 Z = true := hw _ (List.mem_of_getElem? (i := 0) rfl)
theorem wd_1 {Z : State} {a0 : Array Value} (hw : ∀ d ∈ tables_1, d.before a0 Z = true) : (Jvm.Cond.classLink "com/example/pathlatch/pathlatch/check/LogVerdictSerializablePinLaw" (12 : Nat) "java/util/ArrayList").before a0 Z = true := hw _ (List.mem_of_getElem? (i := 1) rfl)
theorem wd_2 {Z : State} {a0 : Array Value} (hw : ∀ d ∈ tables_1, d.before a0 Z = true) : (Jvm.Cond.instantiable "java/util/ArrayList" (3 : Nat)).before a0 Z = true := hw _ (List.mem_of_getElem? (i := 2) rfl)
theorem wd_23 {Z : State} {a0 : Array Value} (hw : ∀ d ∈ tables_1, d.before a0 Z = true) : (Jvm.Cond.lays "java/util/ArrayList" "java/util/AbstractList" "modCount" "I").before a0 Z = true := hw _ (List.mem_of_getElem? (i := 23) rfl)
theorem wd_26 {Z : State} {a0 : Array Value} (hw : ∀ d ∈ tables_1, d.before a0 Z = true) : (Jvm.Cond.lays "java/util/ArrayList" "java/util/ArrayList" "elementData" "[Ljava/lang/Object;").before a0 Z = true := hw _ (List.mem_of_getElem? (i := 26) rfl)
theorem wd_55 {Z : State} {a0 : Array Value} (hw : ∀ d ∈ tables_1, d.before a0 Z = true) : (Jvm.Cond.lays "java/util/ArrayList" "java/util/ArrayList" "size" "I").before a0 Z = true := hw _ (List.mem_of_getElem? (i := 55) rfl)
theorem wd_4 {Z : State} {a0 : Array Value} (hw : ∀ d ∈ tables_1, d.before a0 Z = true) : (Jvm.Cond.methodLink "com/example/pathlatch/pathlatch/check/LogVerdictSerializablePinLaw" (14 : Nat) ({ cls := "java/util/ArrayList", name := "<init>", desc := "()V" } : Jvm.MethodName)).before a0 Z = true := hw _ (List.mem_of_getElem? (i := 4) rfl)
theorem d3_0 : decode jdk_38_method_2_code 0 = .ok (.aload_n 0, 1) := by decide +kernel
theorem d3_1 : decode jdk_38_method_2_code 1 = .ok (.invokespecial 1, 3) := by decide +kernel
theorem wd_7 {Z : State} {a0 : Array Value} (hw : ∀ d ∈ tables_1, d.before a0 Z = true) : (Jvm.Cond.methodLink "java/util/ArrayList" (1 : Nat) ({ cls := "java/util/AbstractList", name := "<init>", desc := "()V" } : Jvm.MethodName)).before a0 Z = true := hw _ (List.mem_of_getElem? (i := 7) rfl)
theorem d4_0 : decode jdk_39_method_1_code 0 = .ok (.aload_n 0, 1) := by decide +kernel
theorem d4_1 : decode jdk_39_method_1_code 1 = .ok (.invokespecial 1, 3) := by decide +kernel
theorem wd_13 {Z : State} {a0 : Array Value} (hw : ∀ d ∈ tables_1, d.before a0 Z = true) : (Jvm.Cond.methodLink "java/util/AbstractList" (1 : Nat) ({ cls := "java/util/AbstractCollection", name := "<init>", desc := "()V" } : Jvm.MethodName)).before a0 Z = true := hw _ (List.mem_of_getElem? (i := 13) rfl)
theorem d5_0 : decode jdk_22_method_1_code 0 = .ok (.aload_n 0, 1) := by decide +kernel
theorem d5_1 : decode jdk_22_method_1_code 1 = .ok (.invokespecial 1, 3) := by decide +kernel
theorem wd_19 {Z : State} {a0 : Array Value} (hw : ∀ d ∈ tables_1, d.before a0 Z = true) : (Jvm.Cond.methodLink "java/util/AbstractCollection" (1 : Nat) ({ cls := "java/lang/Object", name := "<init>", desc := "()V" } : Jvm.MethodName)).before a0 Z = true := hw _ (List.mem_of_getElem? (i := 19) rfl)
theorem d5_4 : decode jdk_22_method_1_code 4 = .ok (.return_, 1) := by decide +kernel
theorem pn_java_util_AbstractCollection : plainName "java/util/AbstractCollection" = true := by first | (simp [plainName, overriddenIn]; done) | decide +kernel
set_option maxRecDepth 65536 in
set_option maxHeartbeats 4000000 in
theorem ef_m6_init (m : MethodId) (x1 : Addr) : entryFrame m #[(.ref x1)] 1 = mkF m 0 #[.val (.ref x1)] [] := by first | rfl | (simp [entryFrame, mkF, argsToLocals, Value.category]; done)
set_option maxRecDepth 65536 in
set_option maxHeartbeats 40000000 in
theorem m6_init (l : Launch) (Z : State) (a0 : Array Value) (hw : ∀ d ∈ tables_1, d.before a0 Z = true) (x1 : Addr) (h0 : Heap) (n0 : Nat) (Z0 : n0 ≤ h0.size) (O0 : Old Z n0 h0) :
    Ctr l Z [] (⟨"java/util/AbstractCollection", "<init>", "()V"⟩ : MethodName) jdk_22_method_1_code 1 none #[(.ref x1)] h0 ({ frames := 1, cells := 0, slots := 0, locals := 12 } : Room) (fun v h L => v = none ∧ Fr n0 L ∧ h = h0) := by
  refine Ctr.of (plainFor_of_name pn_java_util_AbstractCollection) (fun m => ef_m6_init m x1) ?_
  intro p e s m below meth c T0 hx hZ hby hml hown hnm hret hlk X0 e0
  have N0 := Fr.nil n0
  show Rch p e below _ (T0.setTop (mkF m 0 #[.val (.ref x1)] []))
  refine Rch.go (fun t k => XS.aloadN X0.here hx rfl (hb hby d5_0) rfl rfl k) ?_
  show Rch p e below _ (T0.setTop (mkF m 1 #[.val (.ref x1)] [(.ref x1)]))
  obtain ⟨T1, X1, e1, st1⟩ := initO X0 hx hZ hown (wd_19 hw) (wd_20 hw) (wd_21 hw) e0 (g := (mkF m 1 #[.val (.ref x1)] [(.ref x1)])) rfl (by rw [hml]; rfl) rfl (hb hby d5_1) (by decide) (W := 0) (by show 2 * 0 + _ ≤ _; exact Nat.le_of_eq rfl) (by decide)
  refine Rch.go st1 ?_
  show Rch p e below _ (T1.setTop (mkF m 4 #[.val (.ref x1)] []))
  refine Rch.void X1 hx hret hlk (hb hby d5_4) (by decide) (by decide) ?_
  try rw [e1]
  exact ⟨rfl, N0, rfl⟩
theorem wd_18 {Z : State} {a0 : Array Value} (hw : ∀ d ∈ tables_1, d.before a0 Z = true) : (Jvm.Cond.code ({ cls := "java/util/AbstractCollection", name := "<init>", desc := "()V" } : Jvm.MethodName) jdk_22_method_1_code (1 : Nat) (Option.none : Option Jvm.ClassFile.FieldType)).before a0 Z = true := hw _ (List.mem_of_getElem? (i := 18) rfl)
theorem wd_17 {Z : State} {a0 : Array Value} (hw : ∀ d ∈ tables_1, d.before a0 Z = true) : (Jvm.Cond.initialized "java/util/AbstractCollection").before a0 Z = true := hw _ (List.mem_of_getElem? (i := 17) rfl)
theorem wd_14 {Z : State} {a0 : Array Value} (hw : ∀ d ∈ tables_1, d.before a0 Z = true) : (Jvm.Cond.instanceMethod ({ cls := "java/util/AbstractCollection", name := "<init>", desc := "()V" } : Jvm.MethodName)).before a0 Z = true := hw _ (List.mem_of_getElem? (i := 14) rfl)
theorem d4_4 : decode jdk_39_method_1_code 4 = .ok (.aload_n 0, 1) := by decide +kernel
theorem d4_5 : decode jdk_39_method_1_code 5 = .ok (.iconst 0, 1) := by decide +kernel
theorem d4_6 : decode jdk_39_method_1_code 6 = .ok (.putfield 7, 3) := by decide +kernel
theorem wd_22 {Z : State} {a0 : Array Value} (hw : ∀ d ∈ tables_1, d.before a0 Z = true) : (Jvm.Cond.fieldLink "java/util/AbstractList" (7 : Nat) "java/util/AbstractList" "modCount" "I").before a0 Z = true := hw _ (List.mem_of_getElem? (i := 22) rfl)
theorem d4_9 : decode jdk_39_method_1_code 9 = .ok (.return_, 1) := by decide +kernel
theorem pn_java_util_AbstractList : plainName "java/util/AbstractList" = true := by first | (simp [plainName, overriddenIn]; done) | decide +kernel
set_option maxRecDepth 65536 in
set_option maxHeartbeats 4000000 in
theorem ef_m5_init (m : MethodId) (x1 : Addr) : entryFrame m #[(.ref x1)] 1 = mkF m 0 #[.val (.ref x1)] [] := by first | rfl | (simp [entryFrame, mkF, argsToLocals, Value.category]; done)
set_option maxRecDepth 65536 in
set_option maxHeartbeats 40000000 in
theorem m5_init (l : Launch) (Z : State) (a0 : Array Value) (hw : ∀ d ∈ tables_1, d.before a0 Z = true) (x1 : Addr) (h0 : Heap) (n0 : Nat) (Z0 : n0 ≤ h0.size) (O0 : Old Z n0 h0) (P1 : Exa Z h0 x1 "java/util/ArrayList") (P2 : Fld Z h0 x1 "java/util/AbstractList" "modCount" "I" (.int (0 : Int32))) (P3 : n0 ≤ x1) (P4 : Fld Z h0 x1 "java/util/ArrayList" "elementData" "[Ljava/lang/Object;" .null) (P5 : Fld Z h0 x1 "java/util/ArrayList" "size" "I" (.int (0 : Int32))) :
    Ctr l Z [] (⟨"java/util/AbstractList", "<init>", "()V"⟩ : MethodName) jdk_39_method_1_code 1 none #[(.ref x1)] h0 ({ frames := 2, cells := 0, slots := 0, locals := 24 } : Room) (fun v h L => v = none ∧ Fr n0 L ∧ Keep h0 h [x1] ∧ Fld Z h x1 "java/util/AbstractList" "modCount" "I" (.int (0 : Int32)) ∧ Fld Z h x1 "java/util/ArrayList" "elementData" "[Ljava/lang/Object;" .null ∧ Fld Z h x1 "java/util/ArrayList" "size" "I" (.int (0 : Int32))) := by
  refine Ctr.of (plainFor_of_name pn_java_util_AbstractList) (fun m => ef_m5_init m x1) ?_
  intro p e s m below meth c T0 hx hZ hby hml hown hnm hret hlk X0 e0
  have N0 := Fr.nil n0
  show Rch p e below _ (T0.setTop (mkF m 0 #[.val (.ref x1)] []))
  refine Rch.go (fun t k => XS.aloadN X0.here hx rfl (hb hby d4_0) rfl rfl k) ?_
  show Rch p e below _ (T0.setTop (mkF m 1 #[.val (.ref x1)] [(.ref x1)]))
  obtain ⟨v1, T1, L1, X1, Q1, st1⟩ := callSp X0 hx hZ (m6_init l Z a0 hw x1 h0 n0 Z0 O0 ) e0 hown rfl (wd_13 hw) (wd_14 hw) (wd_18 hw) (wd_17 hw) (by decide) (hb hby d4_1) 0 (by decide) (by decide) (by decide) (by decide) (by rw [hml]; rfl) x1 [] [] rfl (lenOf pd_0 rfl) rfl (Nat.le_of_eq rfl) (Ls := #[.val (.ref x1)])
  obtain ⟨rfl, M1, e1⟩ := Q1
  have N1 := Fr.app N0 M1
  refine Rch.go st1 ?_
  show Rch p e below _ (T1.setTop (mkF m 4 #[.val (.ref x1)] []))
  refine Rch.go (fun t k => XS.aloadN X1.here hx rfl (hb hby d4_4) rfl rfl k) ?_
  show Rch p e below _ (T1.setTop (mkF m 5 #[.val (.ref x1)] [(.ref x1)]))
  refine Rch.go (fun t k => XS.iconst X1.here hx rfl (hb hby d4_5) k) ?_
  show Rch p e below _ (T1.setTop (mkF m 6 #[.val (.ref x1)] [(.int (0 : Int32)), (.ref x1)]))
  obtain ⟨T2, h2, X2, e2, W2, st2⟩ := putF X1 hx hZ hown (host := "") (Or.inl (wd_22 hw)) Via.refl e1 P2 P1 (Or.inl (wd_23 hw)) (wd_2 hw) (ty := .int) (by decide) rfl rfl (g := (mkF m 6 #[.val (.ref x1)] [(.int (0 : Int32)), (.ref x1)])) rfl rfl (hb hby d4_6)
  refine Rch.go st2 ?_
  have z3 : n0 ≤ h2.size := (Nat.le_trans Z0 (Nat.le_of_eq W2.size.symm))
  have o4 := O0.wr W2 P3
  have F2 := P2.same W2
  have N2 := Fr.snoc X2 N1 P3
  show Rch p e below _ (T2.setTop (mkF m 9 #[.val (.ref x1)] []))
  have f5 := (P4.other W2 (Or.inr (slot_ne (Or.inl (wd_26 hw)) (Or.inl (wd_23 hw)) (by decide) (t := (.array (.object "java/lang/Object"))) (t' := .int) (by decide) (by decide))))
  have f6 := (P5.other W2 (Or.inr (slot_ne (Or.inl (wd_55 hw)) (Or.inl (wd_23 hw)) (by decide) (t := .int) (t' := .int) (by decide) (by decide))))
  refine Rch.void X2 hx hret hlk (hb hby d4_9) (by decide) (by decide) ?_
  try rw [e2]
  exact ⟨rfl, N2, ((Keep.refl _ _).wr W2 (Or.inl (List.mem_of_getElem? (i := 0) rfl))), F2, f5, f6⟩
theorem wd_12 {Z : State} {a0 : Array Value} (hw : ∀ d ∈ tables_1, d.before a0 Z = true) : (Jvm.Cond.code ({ cls := "java/util/AbstractList", name := "<init>", desc := "()V" } : Jvm.MethodName) jdk_39_method_1_code (1 : Nat) (Option.none : Option Jvm.ClassFile.FieldType)).before a0 Z = true := hw _ (List.mem_of_getElem? (i := 12) rfl)
theorem wd_11 {Z : State} {a0 : Array Value} (hw : ∀ d ∈ tables_1, d.before a0 Z = true) : (Jvm.Cond.initialized "java/util/AbstractList").before a0 Z = true := hw _ (List.mem_of_getElem? (i := 11) rfl)
theorem wd_8 {Z : State} {a0 : Array Value} (hw : ∀ d ∈ tables_1, d.before a0 Z = true) : (Jvm.Cond.instanceMethod ({ cls := "java/util/AbstractList", name := "<init>", desc := "()V" } : Jvm.MethodName)).before a0 Z = true := hw _ (List.mem_of_getElem? (i := 8) rfl)
theorem d3_4 : decode jdk_38_method_2_code 4 = .ok (.aload_n 0, 1) := by decide +kernel
theorem d3_5 : decode jdk_38_method_2_code 5 = .ok (.getstatic 39, 3) := by decide +kernel
theorem wd_24 {Z : State} {a0 : Array Value} (hw : ∀ d ∈ tables_1, d.before a0 Z = true) : (Jvm.Cond.fieldLink "java/util/ArrayList" (39 : Nat) "java/util/ArrayList" "DEFAULTCAPACITY_EMPTY_ELEMENTDATA" "[Ljava/lang/Object;").before a0 Z = true := hw _ (List.mem_of_getElem? (i := 24) rfl)
theorem d3_8 : decode jdk_38_method_2_code 8 = .ok (.putfield 9, 3) := by decide +kernel
theorem wd_25 {Z : State} {a0 : Array Value} (hw : ∀ d ∈ tables_1, d.before a0 Z = true) : (Jvm.Cond.fieldLink "java/util/ArrayList" (9 : Nat) "java/util/ArrayList" "elementData" "[Ljava/lang/Object;").before a0 Z = true := hw _ (List.mem_of_getElem? (i := 25) rfl)
theorem d3_11 : decode jdk_38_method_2_code 11 = .ok (.return_, 1) := by decide +kernel
theorem pn_java_util_ArrayList : plainName "java/util/ArrayList" = true := by first | (simp [plainName, overriddenIn]; done) | decide +kernel
set_option maxRecDepth 65536 in
set_option maxHeartbeats 4000000 in
theorem ef_m4_init (m : MethodId) (x1 : Addr) (x2 : Addr) : entryFrame m #[(.ref x1)] 1 = mkF m 0 #[.val (.ref x1)] [] := by first | rfl | (simp [entryFrame, mkF, argsToLocals, Value.category]; done)
set_option maxRecDepth 65536 in
set_option maxHeartbeats 40000000 in
theorem m4_init (l : Launch) (Z : State) (a0 : Array Value) (hw : ∀ d ∈ tables_1, d.before a0 Z = true) (x1 : Addr) (x2 : Addr) (h0 : Heap) (n0 : Nat) (Z0 : n0 ≤ h0.size) (O0 : Old Z n0 h0) (P1 : Exa Z h0 x1 "java/util/ArrayList") (P2 : Fld Z h0 x1 "java/util/AbstractList" "modCount" "I" (.int (0 : Int32))) (P3 : n0 ≤ x1) (P4 : Fld Z h0 x1 "java/util/ArrayList" "elementData" "[Ljava/lang/Object;" .null) (P5 : Fld Z h0 x1 "java/util/ArrayList" "size" "I" (.int (0 : Int32))) (P6 : Sta Z Z.heap "java/util/ArrayList" "DEFAULTCAPACITY_EMPTY_ELEMENTDATA" "[Ljava/lang/Object;" (.ref x2)) :
    Ctr l Z [] (⟨"java/util/ArrayList", "<init>", "()V"⟩ : MethodName) jdk_38_method_2_code 1 none #[(.ref x1)] h0 ({ frames := 3, cells := 0, slots := 0, locals := 36 } : Room) (fun v h L => v = none ∧ Fr n0 L ∧ Keep h0 h [x1] ∧ Fld Z h x1 "java/util/AbstractList" "modCount" "I" (.int (0 : Int32)) ∧ Fld Z h x1 "java/util/ArrayList" "elementData" "[Ljava/lang/Object;" (.ref x2) ∧ Fld Z h x1 "java/util/ArrayList" "size" "I" (.int (0 : Int32))) := by
  refine Ctr.of (plainFor_of_name pn_java_util_ArrayList) (fun m => ef_m4_init m x1 x2) ?_
  intro p e s m below meth c T0 hx hZ hby hml hown hnm hret hlk X0 e0
  have N0 := Fr.nil n0
  show Rch p e below _ (T0.setTop (mkF m 0 #[.val (.ref x1)] []))
  refine Rch.go (fun t k => XS.aloadN X0.here hx rfl (hb hby d3_0) rfl rfl k) ?_
  show Rch p e below _ (T0.setTop (mkF m 1 #[.val (.ref x1)] [(.ref x1)]))
  obtain ⟨v1, T1, L1, X1, Q1, st1⟩ := callSp X0 hx hZ (m5_init l Z a0 hw x1 h0 n0 Z0 O0 P1 P2 P3 P4 P5) e0 hown rfl (wd_7 hw) (wd_8 hw) (wd_12 hw) (wd_11 hw) (by decide) (hb hby d3_1) 0 (by decide) (by decide) (by decide) (by decide) (by rw [hml]; rfl) x1 [] [] rfl (lenOf pd_0 rfl) rfl (Nat.le_of_eq rfl) (Ls := #[.val (.ref x1)])
  obtain ⟨rfl, M1, K1, F1_0, F1_1, F1_2⟩ := Q1
  have N1 := Fr.app N0 M1
  refine Rch.go st1 ?_
  have z2 : n0 ≤ T1.heap.size := (Nat.le_trans Z0 K1.1)
  have o3 := O0.keep K1 (allS P3 all0)
  show Rch p e below _ (T1.setTop (mkF m 4 #[.val (.ref x1)] []))
  refine Rch.go (fun t k => XS.aloadN X1.here hx rfl (hb hby d3_4) rfl rfl k) ?_
  show Rch p e below _ (T1.setTop (mkF m 5 #[.val (.ref x1)] [(.ref x1)]))
  obtain ⟨T4, X4, e4, st4⟩ := getS2 X1 hx hZ hown (host := "") (Or.inl (wd_24 hw)) Via.refl rfl (P6.ext o3.2) (g := (mkF m 5 #[.val (.ref x1)] [(.ref x1)])) rfl (hb hby d3_5)
  refine Rch.go st4 ?_
  show Rch p e below _ (T4.setTop (mkF m 8 #[.val (.ref x1)] [(.ref x2), (.ref x1)]))
  have f6 := (P1.keep K1)
  obtain ⟨T5, h5, X5, e5, W5, st5⟩ := putF X4 hx hZ hown (host := "") (Or.inl (wd_25 hw)) Via.refl e4 F1_1 f6 (Or.inl (wd_26 hw)) (wd_2 hw) (ty := (.array (.object "java/lang/Object"))) (by decide) rfl rfl (g := (mkF m 8 #[.val (.ref x1)] [(.ref x2), (.ref x1)])) rfl rfl (hb hby d3_8)
  refine Rch.go st5 ?_
  have z7 : n0 ≤ h5.size := (Nat.le_trans z2 (Nat.le_of_eq W5.size.symm))
  have o8 := o3.wr W5 P3
  have F5 := F1_1.same W5
  have N5 := Fr.snoc X5 N1 P3
  show Rch p e below _ (T5.setTop (mkF m 11 #[.val (.ref x1)] []))
  have f9 := (F1_0.other W5 (Or.inr (slot_ne (Or.inl (wd_23 hw)) (Or.inl (wd_26 hw)) (by decide) (t := .int) (t' := (.array (.object "java/lang/Object"))) (by decide) (by decide))))
  have f10 := (F1_2.other W5 (Or.inr (slot_ne (Or.inl (wd_55 hw)) (Or.inl (wd_26 hw)) (by decide) (t := .int) (t' := (.array (.object "java/lang/Object"))) (by decide) (by decide))))
  refine Rch.void X5 hx hret hlk (hb hby d3_11) (by decide) (by decide) ?_
  try rw [e5]
  exact ⟨rfl, N5, (((Keep.refl _ _).trans K1 (allS (Or.inl (List.mem_of_getElem? (i := 0) rfl)) all0)).wr W5 (Or.inl (List.mem_of_getElem? (i := 0) rfl))), f9, F5, f10⟩
theorem wd_6 {Z : State} {a0 : Array Value} (hw : ∀ d ∈ tables_1, d.before a0 Z = true) : (Jvm.Cond.code ({ cls := "java/util/ArrayList", name := "<init>", desc := "()V" } : Jvm.MethodName) jdk_38_method_2_code (1 : Nat) (Option.none : Option Jvm.ClassFile.FieldType)).before a0 Z = true := hw _ (List.mem_of_getElem? (i := 6) rfl)
theorem wd_5 {Z : State} {a0 : Array Value} (hw : ∀ d ∈ tables_1, d.before a0 Z = true) : (Jvm.Cond.instanceMethod ({ cls := "java/util/ArrayList", name := "<init>", desc := "()V" } : Jvm.MethodName)).before a0 Z = true := hw _ (List.mem_of_getElem? (i := 5) rfl)
theorem wd_78 {Z : State} {a0 : Array Value} (hw : ∀ d ∈ tables_1, d.before a0 Z = true) : (Jvm.Cond.classLink "com/example/pathlatch/pathlatch/check/LogVerdictSerializablePinLaw" (25 : Nat) "com/example/pathlatch/pathlatch/check/LogVerdict").before a0 Z = true := hw _ (List.mem_of_getElem? (i := 78) rfl)
theorem wd_79 {Z : State} {a0 : Array Value} (hw : ∀ d ∈ tables_1, d.before a0 Z = true) : (Jvm.Cond.instantiable "com/example/pathlatch/pathlatch/check/LogVerdict" (4 : Nat)).before a0 Z = true := hw _ (List.mem_of_getElem? (i := 79) rfl)
theorem wd_80 {Z : State} {a0 : Array Value} (hw : ∀ d ∈ tables_1, d.before a0 Z = true) : (Jvm.Cond.initialized "com/example/pathlatch/pathlatch/check/LogVerdict").before a0 Z = true := hw _ (List.mem_of_getElem? (i := 80) rfl)
theorem wd_91 {Z : State} {a0 : Array Value} (hw : ∀ d ∈ tables_1, d.before a0 Z = true) : (Jvm.Cond.laysFinal "com/example/pathlatch/pathlatch/check/LogVerdict" "com/example/pathlatch/pathlatch/check/LogVerdict" "closedAt" "J").before a0 Z = true := hw _ (List.mem_of_getElem? (i := 91) rfl)
theorem wd_93 {Z : State} {a0 : Array Value} (hw : ∀ d ∈ tables_1, d.before a0 Z = true) : (Jvm.Cond.laysFinal "com/example/pathlatch/pathlatch/check/LogVerdict" "com/example/pathlatch/pathlatch/check/LogVerdict" "closingToken" "Ljava/lang/String;").before a0 Z = true := hw _ (List.mem_of_getElem? (i := 93) rfl)
theorem wd_95 {Z : State} {a0 : Array Value} (hw : ∀ d ∈ tables_1, d.before a0 Z = true) : (Jvm.Cond.laysFinal "com/example/pathlatch/pathlatch/check/LogVerdict" "com/example/pathlatch/pathlatch/check/LogVerdict" "serialOrder" "Ljava/util/List;").before a0 Z = true := hw _ (List.mem_of_getElem? (i := 95) rfl)
theorem wd_97 {Z : State} {a0 : Array Value} (hw : ∀ d ∈ tables_1, d.before a0 Z = true) : (Jvm.Cond.laysFinal "com/example/pathlatch/pathlatch/check/LogVerdict" "com/example/pathlatch/pathlatch/check/LogVerdict" "cycle" "Ljava/util/List;").before a0 Z = true := hw _ (List.mem_of_getElem? (i := 97) rfl)
theorem wd_81 {Z : State} {a0 : Array Value} (hw : ∀ d ∈ tables_1, d.before a0 Z = true) : (Jvm.Cond.methodLink "com/example/pathlatch/pathlatch/check/LogVerdictSerializablePinLaw" (27 : Nat) ({ cls := "com/example/pathlatch/pathlatch/check/LogVerdict", name := "<init>", desc := "(JLjava/lang/String;Ljava/util/List;Ljava/util/List;)V" } : Jvm.MethodName)).before a0 Z = true := hw _ (List.mem_of_getElem? (i := 81) rfl)
theorem d6_0 : decode prog_48_method_1_code 0 = .ok (.aload_n 0, 1) := by decide +kernel
theorem d6_1 : decode prog_48_method_1_code 1 = .ok (.invokespecial 1, 3) := by decide +kernel
theorem wd_84 {Z : State} {a0 : Array Value} (hw : ∀ d ∈ tables_1, d.before a0 Z = true) : (Jvm.Cond.methodLink "com/example/pathlatch/pathlatch/check/LogVerdict" (1 : Nat) ({ cls := "java/lang/Record", name := "<init>", desc := "()V" } : Jvm.MethodName)).before a0 Z = true := hw _ (List.mem_of_getElem? (i := 84) rfl)
theorem d7_0 : decode jdk_30_method_1_code 0 = .ok (.aload_n 0, 1) := by decide +kernel
theorem d7_1 : decode jdk_30_method_1_code 1 = .ok (.invokespecial 1, 3) := by decide +kernel
theorem wd_89 {Z : State} {a0 : Array Value} (hw : ∀ d ∈ tables_1, d.before a0 Z = true) : (Jvm.Cond.methodLink "java/lang/Record" (1 : Nat) ({ cls := "java/lang/Object", name := "<init>", desc := "()V" } : Jvm.MethodName)).before a0 Z = true := hw _ (List.mem_of_getElem? (i := 89) rfl)
theorem d7_4 : decode jdk_30_method_1_code 4 = .ok (.return_, 1) := by decide +kernel
theorem pn_java_lang_Record : plainName "java/lang/Record" = true := by first | (simp [plainName, overriddenIn]; done) | decide +kernel
set_option maxRecDepth 65536 in
set_option maxHeartbeats 4000000 in
theorem ef_m11_init (m : MethodId) (x1 : Addr) : entryFrame m #[(.ref x1)] 1 = mkF m 0 #[.val (.ref x1)] [] := by first | rfl | (simp [entryFrame, mkF, argsToLocals, Value.category]; done)
set_option maxRecDepth 65536 in
set_option maxHeartbeats 40000000 in
theorem m11_init (l : Launch) (Z : State) (a0 : Array Value) (hw : ∀ d ∈ tables_1, d.before a0 Z = true) (x1 : Addr) (h0 : Heap) (n0 : Nat) (Z0 : n0 ≤ h0.size) (O0 : Old Z n0 h0) :
    Ctr l Z [] (⟨"java/lang/Record", "<init>", "()V"⟩ : MethodName) jdk_30_method_1_code 1 none #[(.ref x1)] h0 ({ frames := 1, cells := 0, slots := 0, locals := 12 } : Room) (fun v h L => v = none ∧ Fr n0 L ∧ h = h0) := by
  refine Ctr.of (plainFor_of_name pn_java_lang_Record) (fun m => ef_m11_init m x1) ?_
  intro p e s m below meth c T0 hx hZ hby hml hown hnm hret hlk X0 e0
  have N0 := Fr.nil n0
  show Rch p e below _ (T0.setTop (mkF m 0 #[.val (.ref x1)] []))
  refine Rch.go (fun t k => XS.aloadN X0.here hx rfl (hb hby d7_0) rfl rfl k) ?_
  show Rch p e below _ (T0.setTop (mkF m 1 #[.val (.ref x1)] [(.ref x1)]))
  obtain ⟨T1, X1, e1, st1⟩ := initO X0 hx hZ hown (wd_89 hw) (wd_20 hw) (wd_21 hw) e0 (g := (mkF m 1 #[.val (.ref x1)] [(.ref x1)])) rfl (by rw [hml]; rfl) rfl (hb hby d7_1) (by decide) (W := 0) (by show 2 * 0 + _ ≤ _; exact Nat.le_of_eq rfl) (by decide)
  refine Rch.go st1 ?_
  show Rch p e below _ (T1.setTop (mkF m 4 #[.val (.ref x1)] []))
  refine Rch.void X1 hx hret hlk (hb hby d7_4) (by decide) (by decide) ?_
  try rw [e1]
  exact ⟨rfl, N0, rfl⟩
theorem wd_88 {Z : State} {a0 : Array Value} (hw : ∀ d ∈ tables_1, d.before a0 Z = true) : (Jvm.Cond.code ({ cls := "java/lang/Record", name := "<init>", desc := "()V" } : Jvm.MethodName) jdk_30_method_1_code (1 : Nat) (Option.none : Option Jvm.ClassFile.FieldType)).before a0 Z = true := hw _ (List.mem_of_getElem? (i := 88) rfl)
theorem wd_87 {Z : State} {a0 : Array Value} (hw : ∀ d ∈ tables_1, d.before a0 Z = true) : (Jvm.Cond.initialized "java/lang/Record").before a0 Z = true := hw _ (List.mem_of_getElem? (i := 87) rfl)
theorem wd_85 {Z : State} {a0 : Array Value} (hw : ∀ d ∈ tables_1, d.before a0 Z = true) : (Jvm.Cond.instanceMethod ({ cls := "java/lang/Record", name := "<init>", desc := "()V" } : Jvm.MethodName)).before a0 Z = true := hw _ (List.mem_of_getElem? (i := 85) rfl)
theorem d6_4 : decode prog_48_method_1_code 4 = .ok (.aload_n 0, 1) := by decide +kernel
theorem d6_5 : decode prog_48_method_1_code 5 = .ok (.lload_n 1, 1) := by decide +kernel
theorem d6_6 : decode prog_48_method_1_code 6 = .ok (.putfield 7, 3) := by decide +kernel
theorem wd_90 {Z : State} {a0 : Array Value} (hw : ∀ d ∈ tables_1, d.before a0 Z = true) : (Jvm.Cond.fieldLink "com/example/pathlatch/pathlatch/check/LogVerdict" (7 : Nat) "com/example/pathlatch/pathlatch/check/LogVerdict" "closedAt" "J").before a0 Z = true := hw _ (List.mem_of_getElem? (i := 90) rfl)
theorem d6_9 : decode prog_48_method_1_code 9 = .ok (.aload_n 0, 1) := by decide +kernel
theorem d6_10 : decode prog_48_method_1_code 10 = .ok (.aload_n 3, 1) := by decide +kernel
theorem d6_11 : decode prog_48_method_1_code 11 = .ok (.putfield 13, 3) := by decide +kernel
theorem wd_92 {Z : State} {a0 : Array Value} (hw : ∀ d ∈ tables_1, d.before a0 Z = true) : (Jvm.Cond.fieldLink "com/example/pathlatch/pathlatch/check/LogVerdict" (13 : Nat) "com/example/pathlatch/pathlatch/check/LogVerdict" "closingToken" "Ljava/lang/String;").before a0 Z = true := hw _ (List.mem_of_getElem? (i := 92) rfl)
theorem d6_14 : decode prog_48_method_1_code 14 = .ok (.aload_n 0, 1) := by decide +kernel
theorem d6_15 : decode prog_48_method_1_code 15 = .ok (.aload 4, 2) := by decide +kernel
theorem d6_17 : decode prog_48_method_1_code 17 = .ok (.putfield 17, 3) := by decide +kernel
theorem wd_94 {Z : State} {a0 : Array Value} (hw : ∀ d ∈ tables_1, d.before a0 Z = true) : (Jvm.Cond.fieldLink "com/example/pathlatch/pathlatch/check/LogVerdict" (17 : Nat) "com/example/pathlatch/pathlatch/check/LogVerdict" "serialOrder" "Ljava/util/List;").before a0 Z = true := hw _ (List.mem_of_getElem? (i := 94) rfl)
theorem d6_20 : decode prog_48_method_1_code 20 = .ok (.aload_n 0, 1) := by decide +kernel
theorem d6_21 : decode prog_48_method_1_code 21 = .ok (.aload 5, 2) := by decide +kernel
theorem d6_23 : decode prog_48_method_1_code 23 = .ok (.putfield 21, 3) := by decide +kernel
theorem wd_96 {Z : State} {a0 : Array Value} (hw : ∀ d ∈ tables_1, d.before a0 Z = true) : (Jvm.Cond.fieldLink "com/example/pathlatch/pathlatch/check/LogVerdict" (21 : Nat) "com/example/pathlatch/pathlatch/check/LogVerdict" "cycle" "Ljava/util/List;").before a0 Z = true := hw _ (List.mem_of_getElem? (i := 96) rfl)
theorem d6_26 : decode prog_48_method_1_code 26 = .ok (.return_, 1) := by decide +kernel
theorem pn_com_example_pathlatch_pathlatch_check_LogVerdict : plainName "com/example/pathlatch/pathlatch/check/LogVerdict" = true := by first | (simp [plainName, overriddenIn]; done) | decide +kernel
set_option maxRecDepth 65536 in
set_option maxHeartbeats 4000000 in
theorem ef_m10_init (m : MethodId) (x1 : Addr) (y2 : Int64) (vv3 : Value) (x4 : Addr) (x5 : Addr) (q_vv3 : vv3.isRef = true) : entryFrame m #[(.ref x1), (.long y2), vv3, (.ref x4), (.ref x5)] 6 = mkF m 0 #[.val (.ref x1), .val (.long y2), .second, .val vv3, .val (.ref x4), .val (.ref x5)] [] := by rcases ref_cases q_vv3 with rfl | ⟨_, rfl⟩ <;> first | rfl | (simp [entryFrame, mkF, argsToLocals, Value.category]; done)
set_option maxRecDepth 65536 in
set_option maxHeartbeats 40000000 in
theorem m10_init (l : Launch) (Z : State) (a0 : Array Value) (hw : ∀ d ∈ tables_1, d.before a0 Z = true) (x1 : Addr) (y2 : Int64) (vv3 : Value) (x4 : Addr) (x5 : Addr) (h0 : Heap) (n0 : Nat) (Z0 : n0 ≤ h0.size) (O0 : Old Z n0 h0) (P1 : vv3.isRef = true) (P2 : Exa Z h0 x1 "com/example/pathlatch/pathlatch/check/LogVerdict") (P3 : Fld Z h0 x1 "com/example/pathlatch/pathlatch/check/LogVerdict" "closedAt" "J" (.long (0 : Int64))) (P4 : n0 ≤ x1) (P5 : Fld Z h0 x1 "com/example/pathlatch/pathlatch/check/LogVerdict" "closingToken" "Ljava/lang/String;" .null) (P6 : Fld Z h0 x1 "com/example/pathlatch/pathlatch/check/LogVerdict" "serialOrder" "Ljava/util/List;" .null) (P7 : Fld Z h0 x1 "com/example/pathlatch/pathlatch/check/LogVerdict" "cycle" "Ljava/util/List;" .null) :
    Ctr l Z [] (⟨"com/example/pathlatch/pathlatch/check/LogVerdict", "<init>", "(JLjava/lang/String;Ljava/util/List;Ljava/util/List;)V"⟩ : MethodName) prog_48_method_1_code 6 none #[(.ref x1), (.long y2), vv3, (.ref x4), (.ref x5)] h0 ({ frames := 2, cells := 0, slots := 0, locals := 24 } : Room) (fun v h L => v = none ∧ Fr n0 L ∧ Keep h0 h [x1] ∧ Fld Z h x1 "com/example/pathlatch/pathlatch/check/LogVerdict" "closedAt" "J" (.long y2) ∧ Fld Z h x1 "com/example/pathlatch/pathlatch/check/LogVerdict" "closingToken" "Ljava/lang/String;" vv3 ∧ Fld Z h x1 "com/example/pathlatch/pathlatch/check/LogVerdict" "serialOrder" "Ljava/util/List;" (.ref x4) ∧ Fld Z h x1 "com/example/pathlatch/pathlatch/check/LogVerdict" "cycle" "Ljava/util/List;" (.ref x5)) := by
  refine Ctr.of (plainFor_of_name pn_com_example_pathlatch_pathlatch_check_LogVerdict) (fun m => ef_m10_init m x1 y2 vv3 x4 x5 P1) ?_
  intro p e s m below meth c T0 hx hZ hby hml hown hnm hret hlk X0 e0
  have N0 := Fr.nil n0
  show Rch p e below _ (T0.setTop (mkF m 0 #[.val (.ref x1), .val (.long y2), .second, .val vv3, .val (.ref x4), .val (.ref x5)] []))
  refine Rch.go (fun t k => XS.aloadN X0.here hx rfl (hb hby d6_0) rfl rfl k) ?_
  show Rch p e below _ (T0.setTop (mkF m 1 #[.val (.ref x1), .val (.long y2), .second, .val vv3, .val (.ref x4), .val (.ref x5)] [(.ref x1)]))
  obtain ⟨v1, T1, L1, X1, Q1, st1⟩ := callSp X0 hx hZ (m11_init l Z a0 hw x1 h0 n0 Z0 O0 ) e0 hown rfl (wd_84 hw) (wd_85 hw) (wd_88 hw) (wd_87 hw) (by decide) (hb hby d6_1) 0 (by decide) (by decide) (by decide) (by decide) (by rw [hml]; rfl) x1 [] [] rfl (lenOf pd_0 rfl) rfl (Nat.le_of_eq rfl) (Ls := #[.val (.ref x1), .val (.long y2), .second, .val vv3, .val (.ref x4), .val (.ref x5)])
  obtain ⟨rfl, M1, e1⟩ := Q1
  have N1 := Fr.app N0 M1
  refine Rch.go st1 ?_
  show Rch p e below _ (T1.setTop (mkF m 4 #[.val (.ref x1), .val (.long y2), .second, .val vv3, .val (.ref x4), .val (.ref x5)] []))
  refine Rch.go (fun t k => XS.aloadN X1.here hx rfl (hb hby d6_4) rfl rfl k) ?_
  show Rch p e below _ (T1.setTop (mkF m 5 #[.val (.ref x1), .val (.long y2), .second, .val vv3, .val (.ref x4), .val (.ref x5)] [(.ref x1)]))
  refine Rch.go (fun t k => XS.lloadN X1.here hx rfl (hb hby d6_5) rfl  k) ?_
  show Rch p e below _ (T1.setTop (mkF m 6 #[.val (.ref x1), .val (.long y2), .second, .val vv3, .val (.ref x4), .val (.ref x5)] [(.long y2), (.ref x1)]))
  obtain ⟨T2, h2, X2, e2, W2, st2⟩ := putF X1 hx hZ hown (host := "") (Or.inl (wd_90 hw)) Via.refl e1 P3 P2 (Or.inr ⟨(wd_91 hw), rfl, hnm⟩) (wd_79 hw) (ty := .long) (by decide) rfl rfl (g := (mkF m 6 #[.val (.ref x1), .val (.long y2), .second, .val vv3, .val (.ref x4), .val (.ref x5)] [(.long y2), (.ref x1)])) rfl rfl (hb hby d6_6)
  refine Rch.go st2 ?_
  have z3 : n0 ≤ h2.size := (Nat.le_trans Z0 (Nat.le_of_eq W2.size.symm))
  have o4 := O0.wr W2 P4
  have F2 := P3.same W2
  have N2 := Fr.snoc X2 N1 P4
  show Rch p e below _ (T2.setTop (mkF m 9 #[.val (.ref x1), .val (.long y2), .second, .val vv3, .val (.ref x4), .val (.ref x5)] []))
  refine Rch.go (fun t k => XS.aloadN X2.here hx rfl (hb hby d6_9) rfl rfl k) ?_
  show Rch p e below _ (T2.setTop (mkF m 10 #[.val (.ref x1), .val (.long y2), .second, .val vv3, .val (.ref x4), .val (.ref x5)] [(.ref x1)]))
  refine Rch.go (fun t k => XS.aloadN X2.here hx rfl (hb hby d6_10) rfl P1 k) ?_
  show Rch p e below _ (T2.setTop (mkF m 11 #[.val (.ref x1), .val (.long y2), .second, .val vv3, .val (.ref x4), .val (.ref x5)] [vv3, (.ref x1)]))
  have f6 := (P5.other W2 (Or.inr (slot_ne (Or.inr (wd_93 hw)) (Or.inr (wd_91 hw)) (by decide) (t := (.object "java/lang/String")) (t' := .long) (by decide) (by decide))))
  have f7 := (P2.wr W2)
  obtain ⟨T5, h5, X5, e5, W5, st5⟩ := putF X2 hx hZ hown (host := "") (Or.inl (wd_92 hw)) Via.refl e2 f6 f7 (Or.inr ⟨(wd_93 hw), rfl, hnm⟩) (wd_79 hw) (ty := (.object "java/lang/String")) (by decide) (own_nref P1) (own_fref P1) (g := (mkF m 11 #[.val (.ref x1), .val (.long y2), .second, .val vv3, .val (.ref x4), .val (.ref x5)] [vv3, (.ref x1)])) rfl rfl (hb hby d6_11)
  refine Rch.go st5 ?_
  have z8 : n0 ≤ h5.size := (Nat.le_trans z3 (Nat.le_of_eq W5.size.symm))
  have o9 := o4.wr W5 P4
  have F5 := f6.same W5
  have N5 := Fr.snoc X5 N2 P4
  show Rch p e below _ (T5.setTop (mkF m 14 #[.val (.ref x1), .val (.long y2), .second, .val vv3, .val (.ref x4), .val (.ref x5)] []))
  refine Rch.go (fun t k => XS.aloadN X5.here hx rfl (hb hby d6_14) rfl rfl k) ?_
  show Rch p e below _ (T5.setTop (mkF m 15 #[.val (.ref x1), .val (.long y2), .second, .val vv3, .val (.ref x4), .val (.ref x5)] [(.ref x1)]))
  refine Rch.go (fun t k => XS.aload X5.here hx rfl (hb hby d6_15) rfl rfl k) ?_
  show Rch p e below _ (T5.setTop (mkF m 17 #[.val (.ref x1), .val (.long y2), .second, .val vv3, .val (.ref x4), .val (.ref x5)] [(.ref x4), (.ref x1)]))
  have f11 := ((P6.other W2 (Or.inr (slot_ne (Or.inr (wd_95 hw)) (Or.inr (wd_91 hw)) (by decide) (t := (.object "java/util/List")) (t' := .long) (by decide) (by decide)))).other W5 (Or.inr (slot_ne (Or.inr (wd_95 hw)) (Or.inr (wd_93 hw)) (by decide) (t := (.object "java/util/List")) (t' := (.object "java/lang/String")) (by decide) (by decide))))
  have f12 := (f7.wr W5)
  obtain ⟨T10, h10, X10, e10, W10, st10⟩ := putF X5 hx hZ hown (host := "") (Or.inl (wd_94 hw)) Via.refl e5 f11 f12 (Or.inr ⟨(wd_95 hw), rfl, hnm⟩) (wd_79 hw) (ty := (.object "java/util/List")) (by decide) rfl rfl (g := (mkF m 17 #[.val (.ref x1), .val (.long y2), .second, .val vv3, .val (.ref x4), .val (.ref x5)] [(.ref x4), (.ref x1)])) rfl rfl (hb hby d6_17)
  refine Rch.go st10 ?_
  have z13 : n0 ≤ h10.size := (Nat.le_trans z8 (Nat.le_of_eq W10.size.symm))
  have o14 := o9.wr W10 P4
  have F10 := f11.same W10
  have N10 := Fr.snoc X10 N5 P4
  show Rch p e below _ (T10.setTop (mkF m 20 #[.val (.ref x1), .val (.long y2), .second, .val vv3, .val (.ref x4), .val (.ref x5)] []))
  refine Rch.go (fun t k => XS.aloadN X10.here hx rfl (hb hby d6_20) rfl rfl k) ?_
  show Rch p e below _ (T10.setTop (mkF m 21 #[.val (.ref x1), .val (.long y2), .second, .val vv3, .val (.ref x4), .val (.ref x5)] [(.ref x1)]))
  refine Rch.go (fun t k => XS.aload X10.here hx rfl (hb hby d6_21) rfl rfl k) ?_
  show Rch p e below _ (T10.setTop (mkF m 23 #[.val (.ref x1), .val (.long y2), .second, .val vv3, .val (.ref x4), .val (.ref x5)] [(.ref x5), (.ref x1)]))
  have f16 := (((P7.other W2 (Or.inr (slot_ne (Or.inr (wd_97 hw)) (Or.inr (wd_91 hw)) (by decide) (t := (.object "java/util/List")) (t' := .long) (by decide) (by decide)))).other W5 (Or.inr (slot_ne (Or.inr (wd_97 hw)) (Or.inr (wd_93 hw)) (by decide) (t := (.object "java/util/List")) (t' := (.object "java/lang/String")) (by decide) (by decide)))).other W10 (Or.inr (slot_ne (Or.inr (wd_97 hw)) (Or.inr (wd_95 hw)) (by decide) (t := (.object "java/util/List")) (t' := (.object "java/util/List")) (by decide) (by decide))))
  have f17 := (f12.wr W10)
  obtain ⟨T15, h15, X15, e15, W15, st15⟩ := putF X10 hx hZ hown (host := "") (Or.inl (wd_96 hw)) Via.refl e10 f16 f17 (Or.inr ⟨(wd_97 hw), rfl, hnm⟩) (wd_79 hw) (ty := (.object "java/util/List")) (by decide) rfl rfl (g := (mkF m 23 #[.val (.ref x1), .val (.long y2), .second, .val vv3, .val (.ref x4), .val (.ref x5)] [(.ref x5), (.ref x1)])) rfl rfl (hb hby d6_23)
  refine Rch.go st15 ?_
  have z18 : n0 ≤ h15.size := (Nat.le_trans z13 (Nat.le_of_eq W15.size.symm))
  have o19 := o14.wr W15 P4
  have F15 := f16.same W15
  have N15 := Fr.snoc X15 N10 P4
  show Rch p e below _ (T15.setTop (mkF m 26 #[.val (.ref x1), .val (.long y2), .second, .val vv3, .val (.ref x4), .val (.ref x5)] []))
  have f20 := (((F2.other W5 (Or.inr (slot_ne (Or.inr (wd_91 hw)) (Or.inr (wd_93 hw)) (by decide) (t := .long) (t' := (.object "java/lang/String")) (by decide) (by decide)))).other W10 (Or.inr (slot_ne (Or.inr (wd_91 hw)) (Or.inr (wd_95 hw)) (by decide) (t := .long) (t' := (.object "java/util/List")) (by decide) (by decide)))).other W15 (Or.inr (slot_ne (Or.inr (wd_91 hw)) (Or.inr (wd_97 hw)) (by decide) (t := .long) (t' := (.object "java/util/List")) (by decide) (by decide))))
  have f21 := ((F5.other W10 (Or.inr (slot_ne (Or.inr (wd_93 hw)) (Or.inr (wd_95 hw)) (by decide) (t := (.object "java/lang/String")) (t' := (.object "java/util/List")) (by decide) (by decide)))).other W15 (Or.inr (slot_ne (Or.inr (wd_93 hw)) (Or.inr (wd_97 hw)) (by decide) (t := (.object "java/lang/String")) (t' := (.object "java/util/List")) (by decide) (by decide))))
  have f22 := (F10.other W15 (Or.inr (slot_ne (Or.inr (wd_95 hw)) (Or.inr (wd_97 hw)) (by decide) (t := (.object "java/util/List")) (t' := (.object "java/util/List")) (by decide) (by decide))))
  refine Rch.void X15 hx hret hlk (hb hby d6_26) (by decide) (by decide) ?_
  try rw [e15]
  exact ⟨rfl, N15, (((((Keep.refl _ _).wr W2 (Or.inl (List.mem_of_getElem? (i := 0) rfl))).wr W5 (Or.inl (List.mem_of_getElem? (i := 0) rfl))).wr W10 (Or.inl (List.mem_of_getElem? (i := 0) rfl))).wr W15 (Or.inl (List.mem_of_getElem? (i := 0) rfl))), f20, f21, f22, F15⟩
theorem wd_83 {Z : State} {a0 : Array Value} (hw : ∀ d ∈ tables_1, d.before a0 Z = true) : (Jvm.Cond.code ({ cls := "com/example/pathlatch/pathlatch/check/LogVerdict", name := "<init>", desc := "(JLjava/lang/String;Ljava/util/List;Ljava/util/List;)V" } : Jvm.MethodName) prog_48_method_1_code (6 : Nat) (Option.none : Option Jvm.ClassFile.FieldType)).before a0 Z = true := hw _ (List.mem_of_getElem? (i := 83) rfl)
theorem pd_2 : parseMethodDescriptor "(JLjava/lang/String;Ljava/util/List;Ljava/util/List;)V" = some ⟨[.long, (.object "java/lang/String"), (.object "java/util/List"), (.object "java/util/List")], none⟩ := by decide +kernel
theorem wd_82 {Z : State} {a0 : Array Value} (hw : ∀ d ∈ tables_1, d.before a0 Z = true) : (Jvm.Cond.instanceMethod ({ cls := "com/example/pathlatch/pathlatch/check/LogVerdict", name := "<init>", desc := "(JLjava/lang/String;Ljava/util/List;Ljava/util/List;)V" } : Jvm.MethodName)).before a0 Z = true := hw _ (List.mem_of_getElem? (i := 82) rfl)
theorem wd_98 {Z : State} {a0 : Array Value} (hw : ∀ d ∈ tables_1, d.before a0 Z = true) : (Jvm.Cond.methodLink "com/example/pathlatch/pathlatch/check/LogVerdictSerializablePinLaw" (30 : Nat) ({ cls := "com/example/pathlatch/pathlatch/check/LogVerdict", name := "serializable", desc := "()Z" } : Jvm.MethodName)).before a0 Z = true := hw _ (List.mem_of_getElem? (i := 98) rfl)
theorem d8_0 : decode prog_48_method_2_code 0 = .ok (.aload_n 0, 1) := by decide +kernel
theorem d8_1 : decode prog_48_method_2_code 1 = .ok (.getfield 7, 3) := by decide +kernel
theorem d8_4 : decode prog_48_method_2_code 4 = .ok (.lconst 0, 1) := by decide +kernel
theorem d8_5 : decode prog_48_method_2_code 5 = .ok (.lcmp, 1) := by decide +kernel
theorem d8_6 : decode prog_48_method_2_code 6 = .ok (.ifCond .ne 7, 3) := by decide +kernel
theorem d8_9 : decode prog_48_method_2_code 9 = .ok (.iconst 1, 1) := by decide +kernel
theorem d8_10 : decode prog_48_method_2_code 10 = .ok (.goto 4, 3) := by decide +kernel
theorem d8_14 : decode prog_48_method_2_code 14 = .ok (.ireturn, 1) := by decide +kernel
set_option maxRecDepth 65536 in
set_option maxHeartbeats 4000000 in
theorem ef_m12_serializable (m : MethodId) (x1 : Addr) (y2 : Int64) : entryFrame m #[(.ref x1)] 1 = mkF m 0 #[.val (.ref x1)] [] := by first | rfl | (simp [entryFrame, mkF, argsToLocals, Value.category]; done)
set_option maxRecDepth 65536 in
set_option maxHeartbeats 40000000 in
theorem m12_serializable (l : Launch) (Z : State) (a0 : Array Value) (hw : ∀ d ∈ tables_1, d.before a0 Z = true) (x1 : Addr) (y2 : Int64) (h0 : Heap) (n0 : Nat) (Z0 : n0 ≤ h0.size) (O0 : Old Z n0 h0) (P1 : Fld Z h0 x1 "com/example/pathlatch/pathlatch/check/LogVerdict" "closedAt" "J" (.long y2)) (P2 : (lcmpW y2 (0 : Int64)) = (0 : Int32)) :
    Ctr l Z [] (⟨"com/example/pathlatch/pathlatch/check/LogVerdict", "serializable", "()Z"⟩ : MethodName) prog_48_method_2_code 1 (some .boolean) #[(.ref x1)] h0 ({ frames := 0, cells := 0, slots := 0, locals := 0 } : Room) (fun v h L => v = some (.int (1 : Int32)) ∧ Fr n0 L ∧ h = h0) := by
  refine Ctr.of (plainFor_of_name pn_com_example_pathlatch_pathlatch_check_LogVerdict) (fun m => ef_m12_serializable m x1 y2) ?_
  intro p e s m below meth c T0 hx hZ hby hml hown hnm hret hlk X0 e0
  have N0 := Fr.nil n0
  show Rch p e below _ (T0.setTop (mkF m 0 #[.val (.ref x1)] []))
  refine Rch.go (fun t k => XS.aloadN X0.here hx rfl (hb hby d8_0) rfl rfl k) ?_
  show Rch p e below _ (T0.setTop (mkF m 1 #[.val (.ref x1)] [(.ref x1)]))
  obtain ⟨T1, X1, e1, st1⟩ := getF X0 hx hZ hown (host := "") (Or.inl (wd_90 hw)) Via.refl e0 P1 (g := (mkF m 1 #[.val (.ref x1)] [(.ref x1)])) rfl rfl (hb hby d8_1)
  refine Rch.go st1 ?_
  show Rch p e below _ (T1.setTop (mkF m 4 #[.val (.ref x1)] [(.long y2)]))
  refine Rch.go (fun t k => XS.lconst X1.here hx rfl (hb hby d8_4) k) ?_
  show Rch p e below _ (T1.setTop (mkF m 5 #[.val (.ref x1)] [(.long (0 : Int64)), (.long y2)]))
  refine Rch.go (fun t k => XS.lcmp X1.here hx rfl (hb hby d8_5) rfl k) ?_
  show Rch p e below _ (T1.setTop (mkF m 6 #[.val (.ref x1)] [(.int (lcmpW y2 (0 : Int64)))]))
  refine Rch.go (fun t k => XS.ifNo X1.here hx rfl (hb hby d8_6) rfl (XT.i0_ne_f P2) k) ?_
  show Rch p e below _ (T1.setTop (mkF m 9 #[.val (.ref x1)] []))
  refine Rch.go (fun t k => XS.iconst X1.here hx rfl (hb hby d8_9) k) ?_
  show Rch p e below _ (T1.setTop (mkF m 10 #[.val (.ref x1)] [(.int (1 : Int32))]))
  refine Rch.go (fun t k => XS.goto X1.here hx rfl (pc0 := 10) (pc' := 14) rfl (hb hby d8_10) (by decide) (by decide) k) ?_
  show Rch p e below _ (T1.setTop (mkF m 14 #[.val (.ref x1)] [(.int (1 : Int32))]))
  refine Rch.val X1 hx (t := .boolean) hret hlk rfl (mayI (by simp)) (hb hby d8_14) (by decide) (by decide) ?_
  try rw [e1]
  exact ⟨rfl, N0, rfl⟩
theorem wd_102 {Z : State} {a0 : Array Value} (hw : ∀ d ∈ tables_1, d.before a0 Z = true) : (Jvm.Cond.code ({ cls := "com/example/pathlatch/pathlatch/check/LogVerdict", name := "serializable", desc := "()Z" } : Jvm.MethodName) prog_48_method_2_code (1 : Nat) (Option.some Jvm.ClassFile.FieldType.boolean)).before a0 Z = true := hw _ (List.mem_of_getElem? (i := 102) rfl)
theorem pd_3 : parseMethodDescriptor "()Z" = some ⟨[], some .boolean⟩ := by decide +kernel
theorem wd_101 {Z : State} {a0 : Array Value} (hw : ∀ d ∈ tables_1, d.before a0 Z = true) : (Jvm.Cond.selects "com/example/pathlatch/pathlatch/check/LogVerdict" ({ cls := "com/example/pathlatch/pathlatch/check/LogVerdict", name := "serializable", desc := "()Z" } : Jvm.MethodName) ({ cls := "com/example/pathlatch/pathlatch/check/LogVerdict", name := "serializable", desc := "()Z" } : Jvm.MethodName)).before a0 Z = true := hw _ (List.mem_of_getElem? (i := 101) rfl)
theorem wd_99 {Z : State} {a0 : Array Value} (hw : ∀ d ∈ tables_1, d.before a0 Z = true) : (Jvm.Cond.declares ({ cls := "com/example/pathlatch/pathlatch/check/LogVerdict", name := "serializable", desc := "()Z" } : Jvm.MethodName)).before a0 Z = true := hw _ (List.mem_of_getElem? (i := 99) rfl)
theorem wd_100 {Z : State} {a0 : Array Value} (hw : ∀ d ∈ tables_1, d.before a0 Z = true) : (Jvm.Cond.instanceMethod ({ cls := "com/example/pathlatch/pathlatch/check/LogVerdict", name := "serializable", desc := "()Z" } : Jvm.MethodName)).before a0 Z = true := hw _ (List.mem_of_getElem? (i := 100) rfl)
theorem wd_103 {Z : State} {a0 : Array Value} (hw : ∀ d ∈ tables_1, d.before a0 Z = true) : (Jvm.Cond.methodLink "com/example/pathlatch/pathlatch/check/LogVerdictSerializablePinLaw" (34 : Nat) ({ cls := "com/example/pathlatch/pathlatch/check/LogVerdict", name := "closedAt", desc := "()J" } : Jvm.MethodName)).before a0 Z = true := hw _ (List.mem_of_getElem? (i := 103) rfl)
theorem d9_0 : decode prog_48_method_6_code 0 = .ok (.aload_n 0, 1) := by decide +kernel
theorem d9_1 : decode prog_48_method_6_code 1 = .ok (.getfield 7, 3) := by decide +kernel
theorem d9_4 : decode prog_48_method_6_code 4 = .ok (.lreturn, 1) := by decide +kernel
set_option maxRecDepth 65536 in
set_option maxHeartbeats 4000000 in
theorem ef_m13_closedAt (m : MethodId) (x1 : Addr) (y2 : Int64) : entryFrame m #[(.ref x1)] 1 = mkF m 0 #[.val (.ref x1)] [] := by first | rfl | (simp [entryFrame, mkF, argsToLocals, Value.category]; done)
set_option maxRecDepth 65536 in
set_option maxHeartbeats 40000000 in
theorem m13_closedAt (l : Launch) (Z : State) (a0 : Array Value) (hw : ∀ d ∈ tables_1, d.before a0 Z = true) (x1 : Addr) (y2 : Int64) (h0 : Heap) (n0 : Nat) (Z0 : n0 ≤ h0.size) (O0 : Old Z n0 h0) (P1 : Fld Z h0 x1 "com/example/pathlatch/pathlatch/check/LogVerdict" "closedAt" "J" (.long y2)) :
    Ctr l Z [] (⟨"com/example/pathlatch/pathlatch/check/LogVerdict", "closedAt", "()J"⟩ : MethodName) prog_48_method_6_code 1 (some .long) #[(.ref x1)] h0 ({ frames := 0, cells := 0, slots := 0, locals := 0 } : Room) (fun v h L => v = some (.long y2) ∧ Fr n0 L ∧ h = h0) := by
  refine Ctr.of (plainFor_of_name pn_com_example_pathlatch_pathlatch_check_LogVerdict) (fun m => ef_m13_closedAt m x1 y2) ?_
  intro p e s m below meth c T0 hx hZ hby hml hown hnm hret hlk X0 e0
  have N0 := Fr.nil n0
  show Rch p e below _ (T0.setTop (mkF m 0 #[.val (.ref x1)] []))
  refine Rch.go (fun t k => XS.aloadN X0.here hx rfl (hb hby d9_0) rfl rfl k) ?_
  show Rch p e below _ (T0.setTop (mkF m 1 #[.val (.ref x1)] [(.ref x1)]))
  obtain ⟨T1, X1, e1, st1⟩ := getF X0 hx hZ hown (host := "") (Or.inl (wd_90 hw)) Via.refl e0 P1 (g := (mkF m 1 #[.val (.ref x1)] [(.ref x1)])) rfl rfl (hb hby d9_1)
  refine Rch.go st1 ?_
  show Rch p e below _ (T1.setTop (mkF m 4 #[.val (.ref x1)] [(.long y2)]))
  refine Rch.val X1 hx (t := .long) hret hlk rfl (Or.inr (Or.inl ⟨rfl, rfl, _, rfl⟩)) (hb hby d9_4) (by decide) (by decide) ?_
  try rw [e1]
  exact ⟨rfl, N0, rfl⟩
theorem wd_107 {Z : State} {a0 : Array Value} (hw : ∀ d ∈ tables_1, d.before a0 Z = true) : (Jvm.Cond.code ({ cls := "com/example/pathlatch/pathlatch/check/LogVerdict", name := "closedAt", desc := "()J" } : Jvm.MethodName) prog_48_method_6_code (1 : Nat) (Option.some Jvm.ClassFile.FieldType.long)).before a0 Z = true := hw _ (List.mem_of_getElem? (i := 107) rfl)
theorem pd_4 : parseMethodDescriptor "()J" = some ⟨[], some .long⟩ := by decide +kernel
theorem wd_106 {Z : State} {a0 : Array Value} (hw : ∀ d ∈ tables_1, d.before a0 Z = true) : (Jvm.Cond.selects "com/example/pathlatch/pathlatch/check/LogVerdict" ({ cls := "com/example/pathlatch/pathlatch/check/LogVerdict", name := "closedAt", desc := "()J" } : Jvm.MethodName) ({ cls := "com/example/pathlatch/pathlatch/check/LogVerdict", name := "closedAt", desc := "()J" } : Jvm.MethodName)).before a0 Z = true := hw _ (List.mem_of_getElem? (i := 106) rfl)
theorem wd_104 {Z : State} {a0 : Array Value} (hw : ∀ d ∈ tables_1, d.before a0 Z = true) : (Jvm.Cond.declares ({ cls := "com/example/pathlatch/pathlatch/check/LogVerdict", name := "closedAt", desc := "()J" } : Jvm.MethodName)).before a0 Z = true := hw _ (List.mem_of_getElem? (i := 104) rfl)
theorem wd_105 {Z : State} {a0 : Array Value} (hw : ∀ d ∈ tables_1, d.before a0 Z = true) : (Jvm.Cond.instanceMethod ({ cls := "com/example/pathlatch/pathlatch/check/LogVerdict", name := "closedAt", desc := "()J" } : Jvm.MethodName)).before a0 Z = true := hw _ (List.mem_of_getElem? (i := 105) rfl)
theorem d8_13 : decode prog_48_method_2_code 13 = .ok (.iconst 0, 1) := by decide +kernel
set_option maxRecDepth 65536 in
set_option maxHeartbeats 4000000 in
theorem ef_m14_serializable (m : MethodId) (x1 : Addr) (y2 : Int64) : entryFrame m #[(.ref x1)] 1 = mkF m 0 #[.val (.ref x1)] [] := by first | rfl | (simp [entryFrame, mkF, argsToLocals, Value.category]; done)
set_option maxRecDepth 65536 in
set_option maxHeartbeats 40000000 in
theorem m14_serializable (l : Launch) (Z : State) (a0 : Array Value) (hw : ∀ d ∈ tables_1, d.before a0 Z = true) (x1 : Addr) (y2 : Int64) (h0 : Heap) (n0 : Nat) (Z0 : n0 ≤ h0.size) (O0 : Old Z n0 h0) (P1 : Fld Z h0 x1 "com/example/pathlatch/pathlatch/check/LogVerdict" "closedAt" "J" (.long y2)) (P2 : ¬ ((lcmpW y2 (0 : Int64)) = (0 : Int32))) :
    Ctr l Z [] (⟨"com/example/pathlatch/pathlatch/check/LogVerdict", "serializable", "()Z"⟩ : MethodName) prog_48_method_2_code 1 (some .boolean) #[(.ref x1)] h0 ({ frames := 0, cells := 0, slots := 0, locals := 0 } : Room) (fun v h L => v = some (.int (0 : Int32)) ∧ Fr n0 L ∧ h = h0) := by
  refine Ctr.of (plainFor_of_name pn_com_example_pathlatch_pathlatch_check_LogVerdict) (fun m => ef_m14_serializable m x1 y2) ?_
  intro p e s m below meth c T0 hx hZ hby hml hown hnm hret hlk X0 e0
  have N0 := Fr.nil n0
  show Rch p e below _ (T0.setTop (mkF m 0 #[.val (.ref x1)] []))
  refine Rch.go (fun t k => XS.aloadN X0.here hx rfl (hb hby d8_0) rfl rfl k) ?_
  show Rch p e below _ (T0.setTop (mkF m 1 #[.val (.ref x1)] [(.ref x1)]))
  obtain ⟨T1, X1, e1, st1⟩ := getF X0 hx hZ hown (host := "") (Or.inl (wd_90 hw)) Via.refl e0 P1 (g := (mkF m 1 #[.val (.ref x1)] [(.ref x1)])) rfl rfl (hb hby d8_1)
  refine Rch.go st1 ?_
  show Rch p e below _ (T1.setTop (mkF m 4 #[.val (.ref x1)] [(.long y2)]))
  refine Rch.go (fun t k => XS.lconst X1.here hx rfl (hb hby d8_4) k) ?_
  show Rch p e below _ (T1.setTop (mkF m 5 #[.val (.ref x1)] [(.long (0 : Int64)), (.long y2)]))
  refine Rch.go (fun t k => XS.lcmp X1.here hx rfl (hb hby d8_5) rfl k) ?_
  show Rch p e below _ (T1.setTop (mkF m 6 #[.val (.ref x1)] [(.int (lcmpW y2 (0 : Int64)))]))
  refine Rch.go (fun t k => XS.ifYes X1.here hx rfl (pc0 := 6) (pc' := 13) rfl (hb hby d8_6) rfl (XT.i0_ne_t P2) (by decide) (by decide) k) ?_
  show Rch p e below _ (T1.setTop (mkF m 13 #[.val (.ref x1)] []))
  refine Rch.go (fun t k => XS.iconst X1.here hx rfl (hb hby d8_13) k) ?_
  show Rch p e below _ (T1.setTop (mkF m 14 #[.val (.ref x1)] [(.int (0 : Int32))]))
  refine Rch.val X1 hx (t := .boolean) hret hlk rfl (mayI (by simp)) (hb hby d8_14) (by decide) (by decide) ?_
  try rw [e1]
  exact ⟨rfl, N0, rfl⟩
set_option maxRecDepth 65536 in
set_option maxHeartbeats 40000000 in
theorem closed_9 (l : Launch) (Z : State) (a0 : Array Value) (hw : ∀ d ∈ tables_1, d.before a0 Z = true) (sl1 : Slot) (sl2 : Slot) (sl3 : Slot) (sl4 : Slot) (sl5 : Slot) (sl6 : Slot) (sl7 : Slot) (sl8 : Slot) (vv9 : Value) (x10 : Addr) (x11 : Addr) (y12 : Int64) (h0 : Heap) (n0 : Nat) (Z0 : n0 ≤ h0.size) (O0 : Old Z n0 h0) (P1 : vv9.isRef = true) (p : Program) (e : Env) (s : State) (m : MethodId) (below : List Frame) (meth : Method) (c : Code) (T0 : State) (args : Array Value) (locs : List Loc) (hx : p.tables.exec = Jvm.exec) (hZ : Z.Warmed39 s.vm) (hby : c.code = code) (hml : c.maxLocals = 16) (hown : s.vm.findClass "com/example/pathlatch/pathlatch/check/LogVerdictSerializablePinLaw" = some m.cls) (hnm : meth.name = "law") (hret : meth.sig.returnType = some .boolean) (hlk : meth.locks = false) (X0 : Stand p l e room_1 s m args below meth c T0 locs 9 36) (e0 : T0.heap = h0) (N0 : Fr n0 locs) :
    Rch p e below (Leaves s room_1.cells room_1.slots (fun v h L => v = some (.int (1 : Int32)) ∧ Fr n0 L)) (T0.setTop (mkF m 114 #[sl1, sl2, sl3, sl4, sl5, sl6, sl7, sl8, .val vv9, .val (.ref x10), .val (.ref x11), .unset, .unset, .unset, .unset, .unset] [(.long y12)])) := by
  show Rch p e below _ (T0.setTop (mkF m 114 #[sl1, sl2, sl3, sl4, sl5, sl6, sl7, sl8, .val vv9, .val (.ref x10), .val (.ref x11), .unset, .unset, .unset, .unset, .unset] [(.long y12)]))
  refine Rch.go (fun t k => XS.lstore X0.here hx rfl (hb hby at_114) rfl  (l' := #[sl1, sl2, sl3, sl4, sl5, sl6, sl7, sl8, .val vv9, .val (.ref x10), .val (.ref x11), .val (.long y12), .second, .unset, .unset, .unset]) rfl k) ?_
  show Rch p e below _ (T0.setTop (mkF m 116 #[sl1, sl2, sl3, sl4, sl5, sl6, sl7, sl8, .val vv9, .val (.ref x10), .val (.ref x11), .val (.long y12), .second, .unset, .unset, .unset] []))
  by_cases hz : (lcmpW y12 (0 : Int64)) = (0 : Int32)
  · show Rch p e below _ (T0.setTop (mkF m 116 #[sl1, sl2, sl3, sl4, sl5, sl6, sl7, sl8, .val vv9, .val (.ref x10), .val (.ref x11), .val (.long y12), .second, .unset, .unset, .unset] []))
    obtain ⟨T1, h1, X1, e1, E1, A1, D1, -, st1⟩ := newO X0 hx hZ hown (wd_78 hw) (wd_79 hw) (wd_80 hw) e0 (g := (mkF m 116 #[sl1, sl2, sl3, sl4, sl5, sl6, sl7, sl8, .val vv9, .val (.ref x10), .val (.ref x11), .val (.long y12), .second, .unset, .unset, .unset] [])) rfl (hb hby at_116) (by decide) (by decide)
    obtain ⟨b1, g1⟩ : ∃ z, z = h0.size := ⟨_, rfl⟩
    rw [← g1] at A1 D1 st1
    refine Rch.go st1 ?_
    have z2 : n0 ≤ h1.size := (Nat.le_trans Z0 E1.1)
    have o3 := O0.ext E1
    have g_b1 : n0 ≤ b1 := Nat.le_trans Z0 (Nat.le_of_eq g1.symm)
    have F1_closedAt : Fld Z h1 b1 "com/example/pathlatch/pathlatch/check/LogVerdict" "closedAt" "J" (.long (0 : Int64)) := (D1 (Or.inr (wd_91 hw)) (ty := .long) (by decide))
    have F1_closingToken : Fld Z h1 b1 "com/example/pathlatch/pathlatch/check/LogVerdict" "closingToken" "Ljava/lang/String;" .null := (D1 (Or.inr (wd_93 hw)) (ty := (.object "java/lang/String")) (by decide))
    have F1_serialOrder : Fld Z h1 b1 "com/example/pathlatch/pathlatch/check/LogVerdict" "serialOrder" "Ljava/util/List;" .null := (D1 (Or.inr (wd_95 hw)) (ty := (.object "java/util/List")) (by decide))
    have F1_cycle : Fld Z h1 b1 "com/example/pathlatch/pathlatch/check/LogVerdict" "cycle" "Ljava/util/List;" .null := (D1 (Or.inr (wd_97 hw)) (ty := (.object "java/util/List")) (by decide))
    show Rch p e below _ (T1.setTop (mkF m 119 #[sl1, sl2, sl3, sl4, sl5, sl6, sl7, sl8, .val vv9, .val (.ref x10), .val (.ref x11), .val (.long y12), .second, .unset, .unset, .unset] [(.ref b1)]))
    refine Rch.go (fun t k => XS.dup X1.here hx rfl (hb hby at_119) rfl rfl k) ?_
    show Rch p e below _ (T1.setTop (mkF m 120 #[sl1, sl2, sl3, sl4, sl5, sl6, sl7, sl8, .val vv9, .val (.ref x10), .val (.ref x11), .val (.long y12), .second, .unset, .unset, .unset] [(.ref b1), (.ref b1)]))
    refine Rch.go (fun t k => XS.lload X1.here hx rfl (hb hby at_120) rfl  k) ?_
    show Rch p e below _ (T1.setTop (mkF m 122 #[sl1, sl2, sl3, sl4, sl5, sl6, sl7, sl8, .val vv9, .val (.ref x10), .val (.ref x11), .val (.long y12), .second, .unset, .unset, .unset] [(.long y12), (.ref b1), (.ref b1)]))
    refine Rch.go (fun t k => XS.aload X1.here hx rfl (hb hby at_122) rfl P1 k) ?_
    show Rch p e below _ (T1.setTop (mkF m 124 #[sl1, sl2, sl3, sl4, sl5, sl6, sl7, sl8, .val vv9, .val (.ref x10), .val (.ref x11), .val (.long y12), .second, .unset, .unset, .unset] [vv9, (.long y12), (.ref b1), (.ref b1)]))
    refine Rch.go (fun t k => XS.aload X1.here hx rfl (hb hby at_124) rfl rfl k) ?_
    show Rch p e below _ (T1.setTop (mkF m 126 #[sl1, sl2, sl3, sl4, sl5, sl6, sl7, sl8, .val vv9, .val (.ref x10), .val (.ref x11), .val (.long y12), .second, .unset, .unset, .unset] [(.ref x10), vv9, (.long y12), (.ref b1), (.ref b1)]))
    refine Rch.go (fun t k => XS.aload X1.here hx rfl (hb hby at_126) rfl rfl k) ?_
    show Rch p e below _ (T1.setTop (mkF m 128 #[sl1, sl2, sl3, sl4, sl5, sl6, sl7, sl8, .val vv9, .val (.ref x10), .val (.ref x11), .val (.long y12), .second, .unset, .unset, .unset] [(.ref x11), (.ref x10), vv9, (.long y12), (.ref b1), (.ref b1)]))
    obtain ⟨v4, T4, L4, X4, Q4, st4⟩ := callSp X1 hx hZ (m10_init l Z a0 hw b1 y12 vv9 x10 x11 h1 n0 z2 o3 P1 A1 F1_closedAt g_b1 F1_closingToken F1_serialOrder F1_cycle) e1 hown rfl (wd_81 hw) (wd_82 hw) (wd_83 hw) (wd_80 hw) (by decide) (hb hby at_128) 1 (by decide) (by decide) (by decide) (by decide) (by rw [hml]; rfl) b1 [(.long y12), vv9, (.ref x10), (.ref x11)] [(.ref b1)] rfl (lenOf pd_2 rfl) rfl (Nat.le_of_eq rfl) (Ls := #[sl1, sl2, sl3, sl4, sl5, sl6, sl7, sl8, .val vv9, .val (.ref x10), .val (.ref x11), .val (.long y12), .second, .unset, .unset, .unset])
    obtain ⟨rfl, M4, K4, F4_0, F4_1, F4_2, F4_3⟩ := Q4
    have N4 := Fr.app N0 M4
    refine Rch.go st4 ?_
    have z5 : n0 ≤ T4.heap.size := (Nat.le_trans z2 K4.1)
    have o6 := o3.keep K4 (allS g_b1 all0)
    show Rch p e below _ (T4.setTop (mkF m 131 #[sl1, sl2, sl3, sl4, sl5, sl6, sl7, sl8, .val vv9, .val (.ref x10), .val (.ref x11), .val (.long y12), .second, .unset, .unset, .unset] [(.ref b1)]))
    refine Rch.go (fun t k => XS.astore X4.here hx rfl (hb hby at_131) rfl rfl (l' := #[sl1, sl2, sl3, sl4, sl5, sl6, sl7, sl8, .val vv9, .val (.ref x10), .val (.ref x11), .val (.long y12), .second, .val (.ref b1), .unset, .unset]) rfl k) ?_
    show Rch p e below _ (T4.setTop (mkF m 133 #[sl1, sl2, sl3, sl4, sl5, sl6, sl7, sl8, .val vv9, .val (.ref x10), .val (.ref x11), .val (.long y12), .second, .val (.ref b1), .unset, .unset] []))
    refine Rch.go (fun t k => XS.aload X4.here hx rfl (hb hby at_133) rfl rfl k) ?_
    show Rch p e below _ (T4.setTop (mkF m 135 #[sl1, sl2, sl3, sl4, sl5, sl6, sl7, sl8, .val vv9, .val (.ref x10), .val (.ref x11), .val (.long y12), .second, .val (.ref b1), .unset, .unset] [(.ref b1)]))
    have f8 := (A1.keep K4)
    obtain ⟨v7, T7, L7, X7, Q7, st7⟩ := callVi X4 hx hZ (m12_serializable l Z a0 hw b1 y12 T4.heap n0 z5 o6 F4_0 hz) rfl hown (wd_98 hw) (wd_99 hw) (wd_101 hw) (notFace_of_selects (args := #[]) (mvT hZ (wd_101 hw))) (wd_100 hw) (wd_102 hw) (wd_80 hw) (by decide) (hb hby at_135) 0 (by decide) (by decide) (by decide) (by decide) (by rw [hml]; rfl) b1 f8 [] [] rfl (lenOf pd_3 rfl) rfl (Nat.le_of_eq rfl) (Ls := #[sl1, sl2, sl3, sl4, sl5, sl6, sl7, sl8, .val vv9, .val (.ref x10), .val (.ref x11), .val (.long y12), .second, .val (.ref b1), .unset, .unset])
    obtain ⟨rfl, M7, e7⟩ := Q7
    have N7 := Fr.app N4 M7
    refine Rch.go st7 ?_
    show Rch p e below _ (T7.setTop (mkF m 138 #[sl1, sl2, sl3, sl4, sl5, sl6, sl7, sl8, .val vv9, .val (.ref x10), .val (.ref x11), .val (.long y12), .second, .val (.ref b1), .unset, .unset] [(.int (1 : Int32))]))
    refine Rch.go (fun t k => XS.istore X7.here hx rfl (hb hby at_138) rfl  (l' := #[sl1, sl2, sl3, sl4, sl5, sl6, sl7, sl8, .val vv9, .val (.ref x10), .val (.ref x11), .val (.long y12), .second, .val (.ref b1), .val (.int (1 : Int32)), .unset]) rfl k) ?_
    show Rch p e below _ (T7.setTop (mkF m 140 #[sl1, sl2, sl3, sl4, sl5, sl6, sl7, sl8, .val vv9, .val (.ref x10), .val (.ref x11), .val (.long y12), .second, .val (.ref b1), .val (.int (1 : Int32)), .unset] []))
    refine Rch.go (fun t k => XS.aload X7.here hx rfl (hb hby at_140) rfl rfl k) ?_
    show Rch p e below _ (T7.setTop (mkF m 142 #[sl1, sl2, sl3, sl4, sl5, sl6, sl7, sl8, .val vv9, .val (.ref x10), .val (.ref x11), .val (.long y12), .second, .val (.ref b1), .val (.int (1 : Int32)), .unset] [(.ref b1)]))
    obtain ⟨v9, T9, L9, X9, Q9, st9⟩ := callVi X7 hx hZ (m12_serializable l Z a0 hw b1 y12 T4.heap n0 z5 o6 F4_0 hz) e7 hown (wd_98 hw) (wd_99 hw) (wd_101 hw) (notFace_of_selects (args := #[]) (mvT hZ (wd_101 hw))) (wd_100 hw) (wd_102 hw) (wd_80 hw) (by decide) (hb hby at_142) 0 (by decide) (by decide) (by decide) (by decide) (by rw [hml]; rfl) b1 f8 [] [] rfl (lenOf pd_3 rfl) rfl (Nat.le_of_eq rfl) (Ls := #[sl1, sl2, sl3, sl4, sl5, sl6, sl7, sl8, .val vv9, .val (.ref x10), .val (.ref x11), .val (.long y12), .second, .val (.ref b1), .val (.int (1 : Int32)), .unset])
    obtain ⟨rfl, M9, e9⟩ := Q9
    have N9 := Fr.app N7 M9
    refine Rch.go st9 ?_
    show Rch p e below _ (T9.setTop (mkF m 145 #[sl1, sl2, sl3, sl4, sl5, sl6, sl7, sl8, .val vv9, .val (.ref x10), .val (.ref x11), .val (.long y12), .second, .val (.ref b1), .val (.int (1 : Int32)), .unset] [(.int (1 : Int32))]))
    refine Rch.go (fun t k => XS.istore X9.here hx rfl (hb hby at_145) rfl  (l' := #[sl1, sl2, sl3, sl4, sl5, sl6, sl7, sl8, .val vv9, .val (.ref x10), .val (.ref x11), .val (.long y12), .second, .val (.ref b1), .val (.int (1 : Int32)), .val (.int (1 : Int32))]) rfl k) ?_
    show Rch p e below _ (T9.setTop (mkF m 147 #[sl1, sl2, sl3, sl4, sl5, sl6, sl7, sl8, .val vv9, .val (.ref x10), .val (.ref x11), .val (.long y12), .second, .val (.ref b1), .val (.int (1 : Int32)), .val (.int (1 : Int32))] []))
    refine Rch.go (fun t k => XS.iload X9.here hx rfl (hb hby at_147) rfl  k) ?_
    show Rch p e below _ (T9.setTop (mkF m 149 #[sl1, sl2, sl3, sl4, sl5, sl6, sl7, sl8, .val vv9, .val (.ref x10), .val (.ref x11), .val (.long y12), .second, .val (.ref b1), .val (.int (1 : Int32)), .val (.int (1 : Int32))] [(.int (1 : Int32))]))
    refine Rch.go (fun t k => XS.lload X9.here hx rfl (hb hby at_149) rfl  k) ?_
    show Rch p e below _ (T9.setTop (mkF m 151 #[sl1, sl2, sl3, sl4, sl5, sl6, sl7, sl8, .val vv9, .val (.ref x10), .val (.ref x11), .val (.long y12), .second, .val (.ref b1), .val (.int (1 : Int32)), .val (.int (1 : Int32))] [(.long y12), (.int (1 : Int32))]))
    refine Rch.go (fun t k => XS.lconst X9.here hx rfl (hb hby at_151) k) ?_
    show Rch p e below _ (T9.setTop (mkF m 152 #[sl1, sl2, sl3, sl4, sl5, sl6, sl7, sl8, .val vv9, .val (.ref x10), .val (.ref x11), .val (.long y12), .second, .val (.ref b1), .val (.int (1 : Int32)), .val (.int (1 : Int32))] [(.long (0 : Int64)), (.long y12), (.int (1 : Int32))]))
    refine Rch.go (fun t k => XS.lcmp X9.here hx rfl (hb hby at_152) rfl k) ?_
    show Rch p e below _ (T9.setTop (mkF m 153 #[sl1, sl2, sl3, sl4, sl5, sl6, sl7, sl8, .val vv9, .val (.ref x10), .val (.ref x11), .val (.long y12), .second, .val (.ref b1), .val (.int (1 : Int32)), .val (.int (1 : Int32))] [(.int (lcmpW y12 (0 : Int64))), (.int (1 : Int32))]))
    refine Rch.go (fun t k => XS.ifNo X9.here hx rfl (hb hby at_153) rfl (XT.i0_ne_f hz) k) ?_
    show Rch p e below _ (T9.setTop (mkF m 156 #[sl1, sl2, sl3, sl4, sl5, sl6, sl7, sl8, .val vv9, .val (.ref x10), .val (.ref x11), .val (.long y12), .second, .val (.ref b1), .val (.int (1 : Int32)), .val (.int (1 : Int32))] [(.int (1 : Int32))]))
    refine Rch.go (fun t k => XS.iconst X9.here hx rfl (hb hby at_156) k) ?_
    show Rch p e below _ (T9.setTop (mkF m 157 #[sl1, sl2, sl3, sl4, sl5, sl6, sl7, sl8, .val vv9, .val (.ref x10), .val (.ref x11), .val (.long y12), .second, .val (.ref b1), .val (.int (1 : Int32)), .val (.int (1 : Int32))] [(.int (1 : Int32)), (.int (1 : Int32))]))
    refine Rch.go (fun t k => XS.goto X9.here hx rfl (pc0 := 157) (pc' := 161) rfl (hb hby at_157) (by decide) (by decide) k) ?_
    show Rch p e below _ (T9.setTop (mkF m 161 #[sl1, sl2, sl3, sl4, sl5, sl6, sl7, sl8, .val vv9, .val (.ref x10), .val (.ref x11), .val (.long y12), .second, .val (.ref b1), .val (.int (1 : Int32)), .val (.int (1 : Int32))] [(.int (1 : Int32)), (.int (1 : Int32))]))
    refine Rch.go (fun t k => XS.icmpNo X9.here hx rfl (hb hby at_161) rfl (by decide) k) ?_
    show Rch p e below _ (T9.setTop (mkF m 164 #[sl1, sl2, sl3, sl4, sl5, sl6, sl7, sl8, .val vv9, .val (.ref x10), .val (.ref x11), .val (.long y12), .second, .val (.ref b1), .val (.int (1 : Int32)), .val (.int (1 : Int32))] []))
    refine Rch.go (fun t k => XS.iload X9.here hx rfl (hb hby at_164) rfl  k) ?_
    show Rch p e below _ (T9.setTop (mkF m 166 #[sl1, sl2, sl3, sl4, sl5, sl6, sl7, sl8, .val vv9, .val (.ref x10), .val (.ref x11), .val (.long y12), .second, .val (.ref b1), .val (.int (1 : Int32)), .val (.int (1 : Int32))] [(.int (1 : Int32))]))
    refine Rch.go (fun t k => XS.iload X9.here hx rfl (hb hby at_166) rfl  k) ?_
    show Rch p e below _ (T9.setTop (mkF m 168 #[sl1, sl2, sl3, sl4, sl5, sl6, sl7, sl8, .val vv9, .val (.ref x10), .val (.ref x11), .val (.long y12), .second, .val (.ref b1), .val (.int (1 : Int32)), .val (.int (1 : Int32))] [(.int (1 : Int32)), (.int (1 : Int32))]))
    refine Rch.go (fun t k => XS.icmpNo X9.here hx rfl (hb hby at_168) rfl (by decide) k) ?_
    show Rch p e below _ (T9.setTop (mkF m 171 #[sl1, sl2, sl3, sl4, sl5, sl6, sl7, sl8, .val vv9, .val (.ref x10), .val (.ref x11), .val (.long y12), .second, .val (.ref b1), .val (.int (1 : Int32)), .val (.int (1 : Int32))] []))
    refine Rch.go (fun t k => XS.aload X9.here hx rfl (hb hby at_171) rfl rfl k) ?_
    show Rch p e below _ (T9.setTop (mkF m 173 #[sl1, sl2, sl3, sl4, sl5, sl6, sl7, sl8, .val vv9, .val (.ref x10), .val (.ref x11), .val (.long y12), .second, .val (.ref b1), .val (.int (1 : Int32)), .val (.int (1 : Int32))] [(.ref b1)]))
    obtain ⟨v10, T10, L10, X10, Q10, st10⟩ := callVi X9 hx hZ (m13_closedAt l Z a0 hw b1 y12 T4.heap n0 z5 o6 F4_0) e9 hown (wd_103 hw) (wd_104 hw) (wd_106 hw) (notFace_of_selects (args := #[]) (mvT hZ (wd_106 hw))) (wd_105 hw) (wd_107 hw) (wd_80 hw) (by decide) (hb hby at_173) 0 (by decide) (by decide) (by decide) (by decide) (by rw [hml]; rfl) b1 f8 [] [] rfl (lenOf pd_4 rfl) rfl (Nat.le_of_eq rfl) (Ls := #[sl1, sl2, sl3, sl4, sl5, sl6, sl7, sl8, .val vv9, .val (.ref x10), .val (.ref x11), .val (.long y12), .second, .val (.ref b1), .val (.int (1 : Int32)), .val (.int (1 : Int32))])
    obtain ⟨rfl, M10, e10⟩ := Q10
    have N10 := Fr.app N9 M10
    refine Rch.go st10 ?_
    show Rch p e below _ (T10.setTop (mkF m 176 #[sl1, sl2, sl3, sl4, sl5, sl6, sl7, sl8, .val vv9, .val (.ref x10), .val (.ref x11), .val (.long y12), .second, .val (.ref b1), .val (.int (1 : Int32)), .val (.int (1 : Int32))] [(.long y12)]))
    refine Rch.go (fun t k => XS.lload X10.here hx rfl (hb hby at_176) rfl  k) ?_
    show Rch p e below _ (T10.setTop (mkF m 178 #[sl1, sl2, sl3, sl4, sl5, sl6, sl7, sl8, .val vv9, .val (.ref x10), .val (.ref x11), .val (.long y12), .second, .val (.ref b1), .val (.int (1 : Int32)), .val (.int (1 : Int32))] [(.long y12), (.long y12)]))
    refine Rch.go (fun t k => XS.lcmp X10.here hx rfl (hb hby at_178) rfl k) ?_
    show Rch p e below _ (T10.setTop (mkF m 179 #[sl1, sl2, sl3, sl4, sl5, sl6, sl7, sl8, .val vv9, .val (.ref x10), .val (.ref x11), .val (.long y12), .second, .val (.ref b1), .val (.int (1 : Int32)), .val (.int (1 : Int32))] [(.int (lcmpW y12 y12))]))
    rw [own_lcmp]
    show Rch p e below _ (T10.setTop (mkF m 179 #[sl1, sl2, sl3, sl4, sl5, sl6, sl7, sl8, .val vv9, .val (.ref x10), .val (.ref x11), .val (.long y12), .second, .val (.ref b1), .val (.int (1 : Int32)), .val (.int (1 : Int32))] [(.int (0 : Int32))]))
    refine Rch.go (fun t k => XS.ifNo X10.here hx rfl (hb hby at_179) rfl (by decide) k) ?_
    show Rch p e below _ (T10.setTop (mkF m 182 #[sl1, sl2, sl3, sl4, sl5, sl6, sl7, sl8, .val vv9, .val (.ref x10), .val (.ref x11), .val (.long y12), .second, .val (.ref b1), .val (.int (1 : Int32)), .val (.int (1 : Int32))] []))
    refine Rch.go (fun t k => XS.iconst X10.here hx rfl (hb hby at_182) k) ?_
    show Rch p e below _ (T10.setTop (mkF m 183 #[sl1, sl2, sl3, sl4, sl5, sl6, sl7, sl8, .val vv9, .val (.ref x10), .val (.ref x11), .val (.long y12), .second, .val (.ref b1), .val (.int (1 : Int32)), .val (.int (1 : Int32))] [(.int (1 : Int32))]))
    refine Rch.go (fun t k => XS.goto X10.here hx rfl (pc0 := 183) (pc' := 187) rfl (hb hby at_183) (by decide) (by decide) k) ?_
    show Rch p e below _ (T10.setTop (mkF m 187 #[sl1, sl2, sl3, sl4, sl5, sl6, sl7, sl8, .val vv9, .val (.ref x10), .val (.ref x11), .val (.long y12), .second, .val (.ref b1), .val (.int (1 : Int32)), .val (.int (1 : Int32))] [(.int (1 : Int32))]))
    refine Rch.val X10 hx (t := .boolean) hret hlk rfl (mayI (by simp)) (hb hby at_187) (by decide) (by decide) ?_
    try rw [e10]
    exact ⟨rfl, N10⟩
  · show Rch p e below _ (T0.setTop (mkF m 116 #[sl1, sl2, sl3, sl4, sl5, sl6, sl7, sl8, .val vv9, .val (.ref x10), .val (.ref x11), .val (.long y12), .second, .unset, .unset, .unset] []))
    obtain ⟨T11, h11, X11, e11, E11, A11, D11, -, st11⟩ := newO X0 hx hZ hown (wd_78 hw) (wd_79 hw) (wd_80 hw) e0 (g := (mkF m 116 #[sl1, sl2, sl3, sl4, sl5, sl6, sl7, sl8, .val vv9, .val (.ref x10), .val (.ref x11), .val (.long y12), .second, .unset, .unset, .unset] [])) rfl (hb hby at_116) (by decide) (by decide)
    obtain ⟨b11, g11⟩ : ∃ z, z = h0.size := ⟨_, rfl⟩
    rw [← g11] at A11 D11 st11
    refine Rch.go st11 ?_
    have z12 : n0 ≤ h11.size := (Nat.le_trans Z0 E11.1)
    have o13 := O0.ext E11
    have g_b11 : n0 ≤ b11 := Nat.le_trans Z0 (Nat.le_of_eq g11.symm)
    have F11_closedAt : Fld Z h11 b11 "com/example/pathlatch/pathlatch/check/LogVerdict" "closedAt" "J" (.long (0 : Int64)) := (D11 (Or.inr (wd_91 hw)) (ty := .long) (by decide))
    have F11_closingToken : Fld Z h11 b11 "com/example/pathlatch/pathlatch/check/LogVerdict" "closingToken" "Ljava/lang/String;" .null := (D11 (Or.inr (wd_93 hw)) (ty := (.object "java/lang/String")) (by decide))
    have F11_serialOrder : Fld Z h11 b11 "com/example/pathlatch/pathlatch/check/LogVerdict" "serialOrder" "Ljava/util/List;" .null := (D11 (Or.inr (wd_95 hw)) (ty := (.object "java/util/List")) (by decide))
    have F11_cycle : Fld Z h11 b11 "com/example/pathlatch/pathlatch/check/LogVerdict" "cycle" "Ljava/util/List;" .null := (D11 (Or.inr (wd_97 hw)) (ty := (.object "java/util/List")) (by decide))
    show Rch p e below _ (T11.setTop (mkF m 119 #[sl1, sl2, sl3, sl4, sl5, sl6, sl7, sl8, .val vv9, .val (.ref x10), .val (.ref x11), .val (.long y12), .second, .unset, .unset, .unset] [(.ref b11)]))
    refine Rch.go (fun t k => XS.dup X11.here hx rfl (hb hby at_119) rfl rfl k) ?_
    show Rch p e below _ (T11.setTop (mkF m 120 #[sl1, sl2, sl3, sl4, sl5, sl6, sl7, sl8, .val vv9, .val (.ref x10), .val (.ref x11), .val (.long y12), .second, .unset, .unset, .unset] [(.ref b11), (.ref b11)]))
    refine Rch.go (fun t k => XS.lload X11.here hx rfl (hb hby at_120) rfl  k) ?_
    show Rch p e below _ (T11.setTop (mkF m 122 #[sl1, sl2, sl3, sl4, sl5, sl6, sl7, sl8, .val vv9, .val (.ref x10), .val (.ref x11), .val (.long y12), .second, .unset, .unset, .unset] [(.long y12), (.ref b11), (.ref b11)]))
    refine Rch.go (fun t k => XS.aload X11.here hx rfl (hb hby at_122) rfl P1 k) ?_
    show Rch p e below _ (T11.setTop (mkF m 124 #[sl1, sl2, sl3, sl4, sl5, sl6, sl7, sl8, .val vv9, .val (.ref x10), .val (.ref x11), .val (.long y12), .second, .unset, .unset, .unset] [vv9, (.long y12), (.ref b11), (.ref b11)]))
    refine Rch.go (fun t k => XS.aload X11.here hx rfl (hb hby at_124) rfl rfl k) ?_
    show Rch p e below _ (T11.setTop (mkF m 126 #[sl1, sl2, sl3, sl4, sl5, sl6, sl7, sl8, .val vv9, .val (.ref x10), .val (.ref x11), .val (.long y12), .second, .unset, .unset, .unset] [(.ref x10), vv9, (.long y12), (.ref b11), (.ref b11)]))
    refine Rch.go (fun t k => XS.aload X11.here hx rfl (hb hby at_126) rfl rfl k) ?_
    show Rch p e below _ (T11.setTop (mkF m 128 #[sl1, sl2, sl3, sl4, sl5, sl6, sl7, sl8, .val vv9, .val (.ref x10), .val (.ref x11), .val (.long y12), .second, .unset, .unset, .unset] [(.ref x11), (.ref x10), vv9, (.long y12), (.ref b11), (.ref b11)]))
    obtain ⟨v14, T14, L14, X14, Q14, st14⟩ := callSp X11 hx hZ (m10_init l Z a0 hw b11 y12 vv9 x10 x11 h11 n0 z12 o13 P1 A11 F11_closedAt g_b11 F11_closingToken F11_serialOrder F11_cycle) e11 hown rfl (wd_81 hw) (wd_82 hw) (wd_83 hw) (wd_80 hw) (by decide) (hb hby at_128) 1 (by decide) (by decide) (by decide) (by decide) (by rw [hml]; rfl) b11 [(.long y12), vv9, (.ref x10), (.ref x11)] [(.ref b11)] rfl (lenOf pd_2 rfl) rfl (Nat.le_of_eq rfl) (Ls := #[sl1, sl2, sl3, sl4, sl5, sl6, sl7, sl8, .val vv9, .val (.ref x10), .val (.ref x11), .val (.long y12), .second, .unset, .unset, .unset])
    obtain ⟨rfl, M14, K14, F14_0, F14_1, F14_2, F14_3⟩ := Q14
    have N14 := Fr.app N0 M14
    refine Rch.go st14 ?_
    have z15 : n0 ≤ T14.heap.size := (Nat.le_trans z12 K14.1)
    have o16 := o13.keep K14 (allS g_b11 all0)
    show Rch p e below _ (T14.setTop (mkF m 131 #[sl1, sl2, sl3, sl4, sl5, sl6, sl7, sl8, .val vv9, .val (.ref x10), .val (.ref x11), .val (.long y12), .second, .unset, .unset, .unset] [(.ref b11)]))
    refine Rch.go (fun t k => XS.astore X14.here hx rfl (hb hby at_131) rfl rfl (l' := #[sl1, sl2, sl3, sl4, sl5, sl6, sl7, sl8, .val vv9, .val (.ref x10), .val (.ref x11), .val (.long y12), .second, .val (.ref b11), .unset, .unset]) rfl k) ?_
    show Rch p e below _ (T14.setTop (mkF m 133 #[sl1, sl2, sl3, sl4, sl5, sl6, sl7, sl8, .val vv9, .val (.ref x10), .val (.ref x11), .val (.long y12), .second, .val (.ref b11), .unset, .unset] []))
    refine Rch.go (fun t k => XS.aload X14.here hx rfl (hb hby at_133) rfl rfl k) ?_
    show Rch p e below _ (T14.setTop (mkF m 135 #[sl1, sl2, sl3, sl4, sl5, sl6, sl7, sl8, .val vv9, .val (.ref x10), .val (.ref x11), .val (.long y12), .second, .val (.ref b11), .unset, .unset] [(.ref b11)]))
    have f18 := (A11.keep K14)
    obtain ⟨v17, T17, L17, X17, Q17, st17⟩ := callVi X14 hx hZ (m14_serializable l Z a0 hw b11 y12 T14.heap n0 z15 o16 F14_0 hz) rfl hown (wd_98 hw) (wd_99 hw) (wd_101 hw) (notFace_of_selects (args := #[]) (mvT hZ (wd_101 hw))) (wd_100 hw) (wd_102 hw) (wd_80 hw) (by decide) (hb hby at_135) 0 (by decide) (by decide) (by decide) (by decide) (by rw [hml]; rfl) b11 f18 [] [] rfl (lenOf pd_3 rfl) rfl (Nat.le_of_eq rfl) (Ls := #[sl1, sl2, sl3, sl4, sl5, sl6, sl7, sl8, .val vv9, .val (.ref x10), .val (.ref x11), .val (.long y12), .second, .val (.ref b11), .unset, .unset])
    obtain ⟨rfl, M17, e17⟩ := Q17
    have N17 := Fr.app N14 M17
    refine Rch.go st17 ?_
    show Rch p e below _ (T17.setTop (mkF m 138 #[sl1, sl2, sl3, sl4, sl5, sl6, sl7, sl8, .val vv9, .val (.ref x10), .val (.ref x11), .val (.long y12), .second, .val (.ref b11), .unset, .unset] [(.int (0 : Int32))]))
    refine Rch.go (fun t k => XS.istore X17.here hx rfl (hb hby at_138) rfl  (l' := #[sl1, sl2, sl3, sl4, sl5, sl6, sl7, sl8, .val vv9, .val (.ref x10), .val (.ref x11), .val (.long y12), .second, .val (.ref b11), .val (.int (0 : Int32)), .unset]) rfl k) ?_
    show Rch p e below _ (T17.setTop (mkF m 140 #[sl1, sl2, sl3, sl4, sl5, sl6, sl7, sl8, .val vv9, .val (.ref x10), .val (.ref x11), .val (.long y12), .second, .val (.ref b11), .val (.int (0 : Int32)), .unset] []))
    refine Rch.go (fun t k => XS.aload X17.here hx rfl (hb hby at_140) rfl rfl k) ?_
    show Rch p e below _ (T17.setTop (mkF m 142 #[sl1, sl2, sl3, sl4, sl5, sl6, sl7, sl8, .val vv9, .val (.ref x10), .val (.ref x11), .val (.long y12), .second, .val (.ref b11), .val (.int (0 : Int32)), .unset] [(.ref b11)]))
    obtain ⟨v19, T19, L19, X19, Q19, st19⟩ := callVi X17 hx hZ (m14_serializable l Z a0 hw b11 y12 T14.heap n0 z15 o16 F14_0 hz) e17 hown (wd_98 hw) (wd_99 hw) (wd_101 hw) (notFace_of_selects (args := #[]) (mvT hZ (wd_101 hw))) (wd_100 hw) (wd_102 hw) (wd_80 hw) (by decide) (hb hby at_142) 0 (by decide) (by decide) (by decide) (by decide) (by rw [hml]; rfl) b11 f18 [] [] rfl (lenOf pd_3 rfl) rfl (Nat.le_of_eq rfl) (Ls := #[sl1, sl2, sl3, sl4, sl5, sl6, sl7, sl8, .val vv9, .val (.ref x10), .val (.ref x11), .val (.long y12), .second, .val (.ref b11), .val (.int (0 : Int32)), .unset])
    obtain ⟨rfl, M19, e19⟩ := Q19
    have N19 := Fr.app N17 M19
    refine Rch.go st19 ?_
    show Rch p e below _ (T19.setTop (mkF m 145 #[sl1, sl2, sl3, sl4, sl5, sl6, sl7, sl8, .val vv9, .val (.ref x10), .val (.ref x11), .val (.long y12), .second, .val (.ref b11), .val (.int (0 : Int32)), .unset] [(.int (0 : Int32))]))
    refine Rch.go (fun t k => XS.istore X19.here hx rfl (hb hby at_145) rfl  (l' := #[sl1, sl2, sl3, sl4, sl5, sl6, sl7, sl8, .val vv9, .val (.ref x10), .val (.ref x11), .val (.long y12), .second, .val (.ref b11), .val (.int (0 : Int32)), .val (.int (0 : Int32))]) rfl k) ?_
    show Rch p e below _ (T19.setTop (mkF m 147 #[sl1, sl2, sl3, sl4, sl5, sl6, sl7, sl8, .val vv9, .val (.ref x10), .val (.ref x11), .val (.long y12), .second, .val (.ref b11), .val (.int (0 : Int32)), .val (.int (0 : Int32))] []))
    refine Rch.go (fun t k => XS.iload X19.here hx rfl (hb hby at_147) rfl  k) ?_
    show Rch p e below _ (T19.setTop (mkF m 149 #[sl1, sl2, sl3, sl4, sl5, sl6, sl7, sl8, .val vv9, .val (.ref x10), .val (.ref x11), .val (.long y12), .second, .val (.ref b11), .val (.int (0 : Int32)), .val (.int (0 : Int32))] [(.int (0 : Int32))]))
    refine Rch.go (fun t k => XS.lload X19.here hx rfl (hb hby at_149) rfl  k) ?_
    show Rch p e below _ (T19.setTop (mkF m 151 #[sl1, sl2, sl3, sl4, sl5, sl6, sl7, sl8, .val vv9, .val (.ref x10), .val (.ref x11), .val (.long y12), .second, .val (.ref b11), .val (.int (0 : Int32)), .val (.int (0 : Int32))] [(.long y12), (.int (0 : Int32))]))
    refine Rch.go (fun t k => XS.lconst X19.here hx rfl (hb hby at_151) k) ?_
    show Rch p e below _ (T19.setTop (mkF m 152 #[sl1, sl2, sl3, sl4, sl5, sl6, sl7, sl8, .val vv9, .val (.ref x10), .val (.ref x11), .val (.long y12), .second, .val (.ref b11), .val (.int (0 : Int32)), .val (.int (0 : Int32))] [(.long (0 : Int64)), (.long y12), (.int (0 : Int32))]))
    refine Rch.go (fun t k => XS.lcmp X19.here hx rfl (hb hby at_152) rfl k) ?_
    show Rch p e below _ (T19.setTop (mkF m 153 #[sl1, sl2, sl3, sl4, sl5, sl6, sl7, sl8, .val vv9, .val (.ref x10), .val (.ref x11), .val (.long y12), .second, .val (.ref b11), .val (.int (0 : Int32)), .val (.int (0 : Int32))] [(.int (lcmpW y12 (0 : Int64))), (.int (0 : Int32))]))
    refine Rch.go (fun t k => XS.ifYes X19.here hx rfl (pc0 := 153) (pc' := 160) rfl (hb hby at_153) rfl (XT.i0_ne_t hz) (by decide) (by decide) k) ?_
    show Rch p e below _ (T19.setTop (mkF m 160 #[sl1, sl2, sl3, sl4, sl5, sl6, sl7, sl8, .val vv9, .val (.ref x10), .val (.ref x11), .val (.long y12), .second, .val (.ref b11), .val (.int (0 : Int32)), .val (.int (0 : Int32))] [(.int (0 : Int32))]))
    refine Rch.go (fun t k => XS.iconst X19.here hx rfl (hb hby at_160) k) ?_
    show Rch p e below _ (T19.setTop (mkF m 161 #[sl1, sl2, sl3, sl4, sl5, sl6, sl7, sl8, .val vv9, .val (.ref x10), .val (.ref x11), .val (.long y12), .second, .val (.ref b11), .val (.int (0 : Int32)), .val (.int (0 : Int32))] [(.int (0 : Int32)), (.int (0 : Int32))]))
    refine Rch.go (fun t k => XS.icmpNo X19.here hx rfl (hb hby at_161) rfl (by decide) k) ?_
    show Rch p e below _ (T19.setTop (mkF m 164 #[sl1, sl2, sl3, sl4, sl5, sl6, sl7, sl8, .val vv9, .val (.ref x10), .val (.ref x11), .val (.long y12), .second, .val (.ref b11), .val (.int (0 : Int32)), .val (.int (0 : Int32))] []))
    refine Rch.go (fun t k => XS.iload X19.here hx rfl (hb hby at_164) rfl  k) ?_
    show Rch p e below _ (T19.setTop (mkF m 166 #[sl1, sl2, sl3, sl4, sl5, sl6, sl7, sl8, .val vv9, .val (.ref x10), .val (.ref x11), .val (.long y12), .second, .val (.ref b11), .val (.int (0 : Int32)), .val (.int (0 : Int32))] [(.int (0 : Int32))]))
    refine Rch.go (fun t k => XS.iload X19.here hx rfl (hb hby at_166) rfl  k) ?_
    show Rch p e below _ (T19.setTop (mkF m 168 #[sl1, sl2, sl3, sl4, sl5, sl6, sl7, sl8, .val vv9, .val (.ref x10), .val (.ref x11), .val (.long y12), .second, .val (.ref b11), .val (.int (0 : Int32)), .val (.int (0 : Int32))] [(.int (0 : Int32)), (.int (0 : Int32))]))
    refine Rch.go (fun t k => XS.icmpNo X19.here hx rfl (hb hby at_168) rfl (by decide) k) ?_
    show Rch p e below _ (T19.setTop (mkF m 171 #[sl1, sl2, sl3, sl4, sl5, sl6, sl7, sl8, .val vv9, .val (.ref x10), .val (.ref x11), .val (.long y12), .second, .val (.ref b11), .val (.int (0 : Int32)), .val (.int (0 : Int32))] []))
    refine Rch.go (fun t k => XS.aload X19.here hx rfl (hb hby at_171) rfl rfl k) ?_
    show Rch p e below _ (T19.setTop (mkF m 173 #[sl1, sl2, sl3, sl4, sl5, sl6, sl7, sl8, .val vv9, .val (.ref x10), .val (.ref x11), .val (.long y12), .second, .val (.ref b11), .val (.int (0 : Int32)), .val (.int (0 : Int32))] [(.ref b11)]))
    obtain ⟨v20, T20, L20, X20, Q20, st20⟩ := callVi X19 hx hZ (m13_closedAt l Z a0 hw b11 y12 T14.heap n0 z15 o16 F14_0) e19 hown (wd_103 hw) (wd_104 hw) (wd_106 hw) (notFace_of_selects (args := #[]) (mvT hZ (wd_106 hw))) (wd_105 hw) (wd_107 hw) (wd_80 hw) (by decide) (hb hby at_173) 0 (by decide) (by decide) (by decide) (by decide) (by rw [hml]; rfl) b11 f18 [] [] rfl (lenOf pd_4 rfl) rfl (Nat.le_of_eq rfl) (Ls := #[sl1, sl2, sl3, sl4, sl5, sl6, sl7, sl8, .val vv9, .val (.ref x10), .val (.ref x11), .val (.long y12), .second, .val (.ref b11), .val (.int (0 : Int32)), .val (.int (0 : Int32))])
    obtain ⟨rfl, M20, e20⟩ := Q20
    have N20 := Fr.app N19 M20
    refine Rch.go st20 ?_
    show Rch p e below _ (T20.setTop (mkF m 176 #[sl1, sl2, sl3, sl4, sl5, sl6, sl7, sl8, .val vv9, .val (.ref x10), .val (.ref x11), .val (.long y12), .second, .val (.ref b11), .val (.int (0 : Int32)), .val (.int (0 : Int32))] [(.long y12)]))
    refine Rch.go (fun t k => XS.lload X20.here hx rfl (hb hby at_176) rfl  k) ?_
    show Rch p e below _ (T20.setTop (mkF m 178 #[sl1, sl2, sl3, sl4, sl5, sl6, sl7, sl8, .val vv9, .val (.ref x10), .val (.ref x11), .val (.long y12), .second, .val (.ref b11), .val (.int (0 : Int32)), .val (.int (0 : Int32))] [(.long y12), (.long y12)]))
    refine Rch.go (fun t k => XS.lcmp X20.here hx rfl (hb hby at_178) rfl k) ?_
    show Rch p e below _ (T20.setTop (mkF m 179 #[sl1, sl2, sl3, sl4, sl5, sl6, sl7, sl8, .val vv9, .val (.ref x10), .val (.ref x11), .val (.long y12), .second, .val (.ref b11), .val (.int (0 : Int32)), .val (.int (0 : Int32))] [(.int (lcmpW y12 y12))]))
    rw [own_lcmp]
    show Rch p e below _ (T20.setTop (mkF m 179 #[sl1, sl2, sl3, sl4, sl5, sl6, sl7, sl8, .val vv9, .val (.ref x10), .val (.ref x11), .val (.long y12), .second, .val (.ref b11), .val (.int (0 : Int32)), .val (.int (0 : Int32))] [(.int (0 : Int32))]))
    refine Rch.go (fun t k => XS.ifNo X20.here hx rfl (hb hby at_179) rfl (by decide) k) ?_
    show Rch p e below _ (T20.setTop (mkF m 182 #[sl1, sl2, sl3, sl4, sl5, sl6, sl7, sl8, .val vv9, .val (.ref x10), .val (.ref x11), .val (.long y12), .second, .val (.ref b11), .val (.int (0 : Int32)), .val (.int (0 : Int32))] []))
    refine Rch.go (fun t k => XS.iconst X20.here hx rfl (hb hby at_182) k) ?_
    show Rch p e below _ (T20.setTop (mkF m 183 #[sl1, sl2, sl3, sl4, sl5, sl6, sl7, sl8, .val vv9, .val (.ref x10), .val (.ref x11), .val (.long y12), .second, .val (.ref b11), .val (.int (0 : Int32)), .val (.int (0 : Int32))] [(.int (1 : Int32))]))
    refine Rch.go (fun t k => XS.goto X20.here hx rfl (pc0 := 183) (pc' := 187) rfl (hb hby at_183) (by decide) (by decide) k) ?_
    show Rch p e below _ (T20.setTop (mkF m 187 #[sl1, sl2, sl3, sl4, sl5, sl6, sl7, sl8, .val vv9, .val (.ref x10), .val (.ref x11), .val (.long y12), .second, .val (.ref b11), .val (.int (0 : Int32)), .val (.int (0 : Int32))] [(.int (1 : Int32))]))
    refine Rch.val X20 hx (t := .boolean) hret hlk rfl (mayI (by simp)) (hb hby at_187) (by decide) (by decide) ?_
    try rw [e20]
    exact ⟨rfl, N20⟩
set_option maxRecDepth 65536 in
set_option maxHeartbeats 40000000 in
theorem cyc_8 (l : Launch) (Z : State) (a0 : Array Value) (hw : ∀ d ∈ tables_1, d.before a0 Z = true) (y1 : Int64) (sl2 : Slot) (sl3 : Slot) (sl4 : Slot) (sl5 : Slot) (y6 : Int32) (sl7 : Slot) (vv8 : Value) (x9 : Addr) (x10 : Addr) (h0 : Heap) (n0 : Nat) (Z0 : n0 ≤ h0.size) (O0 : Old Z n0 h0) (P1 : vv8.isRef = true) (p : Program) (e : Env) (s : State) (m : MethodId) (below : List Frame) (meth : Method) (c : Code) (T0 : State) (args : Array Value) (locs : List Loc) (hx : p.tables.exec = Jvm.exec) (hZ : Z.Warmed39 s.vm) (hby : c.code = code) (hml : c.maxLocals = 16) (hown : s.vm.findClass "com/example/pathlatch/pathlatch/check/LogVerdictSerializablePinLaw" = some m.cls) (hnm : meth.name = "law") (hret : meth.sig.returnType = some .boolean) (hlk : meth.locks = false) (X0 : Stand p l e room_1 s m args below meth c T0 locs 9 36) (e0 : T0.heap = h0) (N0 : Fr n0 locs) :
    Rch p e below (Leaves s room_1.cells room_1.slots (fun v h L => v = some (.int (1 : Int32)) ∧ Fr n0 L)) (T0.setTop (mkF m 101 #[.val (.long y1), .second, sl2, sl3, sl4, sl5, .val (.int y6), sl7, .val vv8, .val (.ref x9), .val (.ref x10), .unset, .unset, .unset, .unset, .unset] [])) := by
  show Rch p e below _ (T0.setTop (mkF m 101 #[.val (.long y1), .second, sl2, sl3, sl4, sl5, .val (.int y6), sl7, .val vv8, .val (.ref x9), .val (.ref x10), .unset, .unset, .unset, .unset, .unset] []))
  refine Rch.go (fun t k => XS.iload X0.here hx rfl (hb hby at_101) rfl  k) ?_
  show Rch p e below _ (T0.setTop (mkF m 103 #[.val (.long y1), .second, sl2, sl3, sl4, sl5, .val (.int y6), sl7, .val vv8, .val (.ref x9), .val (.ref x10), .unset, .unset, .unset, .unset, .unset] [(.int y6)]))
  refine Rch.go (fun t k => XS.bipush X0.here hx rfl (hb hby at_103) k) ?_
  show Rch p e below _ (T0.setTop (mkF m 105 #[.val (.long y1), .second, sl2, sl3, sl4, sl5, .val (.int y6), sl7, .val vv8, .val (.ref x9), .val (.ref x10), .unset, .unset, .unset, .unset, .unset] [(.int (8 : Int32)), (.int y6)]))
  refine Rch.go (fun t k => XS.iand X0.here hx rfl (hb hby at_105) rfl k) ?_
  show Rch p e below _ (T0.setTop (mkF m 106 #[.val (.long y1), .second, sl2, sl3, sl4, sl5, .val (.int y6), sl7, .val vv8, .val (.ref x9), .val (.ref x10), .unset, .unset, .unset, .unset, .unset] [(.int (y6 &&& (8 : Int32)))]))
  by_cases hf106 : (y6 &&& (8 : Int32)) = (0 : Int32)
  · show Rch p e below _ (T0.setTop (mkF m 106 #[.val (.long y1), .second, sl2, sl3, sl4, sl5, .val (.int y6), sl7, .val vv8, .val (.ref x9), .val (.ref x10), .unset, .unset, .unset, .unset, .unset] [(.int (y6 &&& (8 : Int32)))]))
    refine Rch.go (fun t k => XS.ifYes X0.here hx rfl (pc0 := 106) (pc' := 113) rfl (hb hby at_106) rfl (XT.i0_eq_t hf106) (by decide) (by decide) k) ?_
    show Rch p e below _ (T0.setTop (mkF m 113 #[.val (.long y1), .second, sl2, sl3, sl4, sl5, .val (.int y6), sl7, .val vv8, .val (.ref x9), .val (.ref x10), .unset, .unset, .unset, .unset, .unset] []))
    refine Rch.go (fun t k => XS.lloadN X0.here hx rfl (hb hby at_113) rfl  k) ?_
    show Rch p e below _ (T0.setTop (mkF m 114 #[.val (.long y1), .second, sl2, sl3, sl4, sl5, .val (.int y6), sl7, .val vv8, .val (.ref x9), .val (.ref x10), .unset, .unset, .unset, .unset, .unset] [(.long y1)]))
    exact closed_9 l Z a0 hw (.val (.long y1)) (.second) sl2 sl3 sl4 sl5 (.val (.int y6)) sl7 vv8 x9 x10 y1 h0 n0 Z0 O0 P1 p e s m below meth c T0 _ _ hx hZ hby hml hown hnm hret hlk (X0.mono (by decide) (by decide)) e0 N0
  · show Rch p e below _ (T0.setTop (mkF m 106 #[.val (.long y1), .second, sl2, sl3, sl4, sl5, .val (.int y6), sl7, .val vv8, .val (.ref x9), .val (.ref x10), .unset, .unset, .unset, .unset, .unset] [(.int (y6 &&& (8 : Int32)))]))
    refine Rch.go (fun t k => XS.ifNo X0.here hx rfl (hb hby at_106) rfl (XT.i0_eq_f hf106) k) ?_
    show Rch p e below _ (T0.setTop (mkF m 109 #[.val (.long y1), .second, sl2, sl3, sl4, sl5, .val (.int y6), sl7, .val vv8, .val (.ref x9), .val (.ref x10), .unset, .unset, .unset, .unset, .unset] []))
    refine Rch.go (fun t k => XS.lconst X0.here hx rfl (hb hby at_109) k) ?_
    show Rch p e below _ (T0.setTop (mkF m 110 #[.val (.long y1), .second, sl2, sl3, sl4, sl5, .val (.int y6), sl7, .val vv8, .val (.ref x9), .val (.ref x10), .unset, .unset, .unset, .unset, .unset] [(.long (0 : Int64))]))
    refine Rch.go (fun t k => XS.goto X0.here hx rfl (pc0 := 110) (pc' := 114) rfl (hb hby at_110) (by decide) (by decide) k) ?_
    show Rch p e below _ (T0.setTop (mkF m 114 #[.val (.long y1), .second, sl2, sl3, sl4, sl5, .val (.int y6), sl7, .val vv8, .val (.ref x9), .val (.ref x10), .unset, .unset, .unset, .unset, .unset] [(.long (0 : Int64))]))
    obtain ⟨cz, hcz⟩ : ∃ z : Int64, z = (0 : Int64) := ⟨_, rfl⟩
    rw [← hcz]
    exact closed_9 l Z a0 hw (.val (.long y1)) (.second) sl2 sl3 sl4 sl5 (.val (.int y6)) sl7 vv8 x9 x10 cz h0 n0 Z0 O0 P1 p e s m below meth c T0 _ _ hx hZ hby hml hown hnm hret hlk (X0.mono (by decide) (by decide)) e0 N0
theorem wd_27 {Z : State} {a0 : Array Value} (hw : ∀ d ∈ tables_1, d.before a0 Z = true) : (Jvm.Cond.methodLink "com/example/pathlatch/pathlatch/check/LogVerdictSerializablePinLaw" (15 : Nat) ({ cls := "java/lang/Long", name := "valueOf", desc := "(J)Ljava/lang/Long;" } : Jvm.MethodName)).before a0 Z = true := hw _ (List.mem_of_getElem? (i := 27) rfl)
theorem wd_30 {Z : State} {a0 : Array Value} (hw : ∀ d ∈ tables_1, d.before a0 Z = true) : (Jvm.Cond.code ({ cls := "java/lang/Long", name := "valueOf", desc := "(J)Ljava/lang/Long;" } : Jvm.MethodName) jdk_35_method_24_code (3 : Nat) (Option.some (Jvm.ClassFile.FieldType.object "java/lang/Long"))).before a0 Z = true := hw _ (List.mem_of_getElem? (i := 30) rfl)
theorem pd_5 : parseMethodDescriptor "(J)Ljava/lang/Long;" = some ⟨[.long], some (.object "java/lang/Long")⟩ := by decide +kernel
theorem wd_28 {Z : State} {a0 : Array Value} (hw : ∀ d ∈ tables_1, d.before a0 Z = true) : (Jvm.Cond.static ({ cls := "java/lang/Long", name := "valueOf", desc := "(J)Ljava/lang/Long;" } : Jvm.MethodName)).before a0 Z = true := hw _ (List.mem_of_getElem? (i := 28) rfl)
theorem wd_47 {Z : State} {a0 : Array Value} (hw : ∀ d ∈ tables_1, d.before a0 Z = true) : (Jvm.Cond.methodLink "com/example/pathlatch/pathlatch/check/LogVerdictSerializablePinLaw" (21 : Nat) ({ cls := "java/util/ArrayList", name := "add", desc := "(Ljava/lang/Object;)Z" } : Jvm.MethodName)).before a0 Z = true := hw _ (List.mem_of_getElem? (i := 47) rfl)
theorem d10_0 : decode jdk_38_method_25_code 0 = .ok (.aload_n 0, 1) := by decide +kernel
theorem d10_1 : decode jdk_38_method_25_code 1 = .ok (.dup, 1) := by decide +kernel
theorem d10_2 : decode jdk_38_method_25_code 2 = .ok (.getfield 63, 3) := by decide +kernel
theorem wd_52 {Z : State} {a0 : Array Value} (hw : ∀ d ∈ tables_1, d.before a0 Z = true) : (Jvm.Cond.fieldLink "java/util/ArrayList" (63 : Nat) "java/util/ArrayList" "modCount" "I").before a0 Z = true := hw _ (List.mem_of_getElem? (i := 52) rfl)
theorem wd_53 {Z : State} {a0 : Array Value} (hw : ∀ d ∈ tables_1, d.before a0 Z = true) : (Jvm.Cond.sameField "java/util/ArrayList" "java/util/AbstractList" "modCount" "I").before a0 Z = true := hw _ (List.mem_of_getElem? (i := 53) rfl)
theorem d10_5 : decode jdk_38_method_25_code 5 = .ok (.iconst 1, 1) := by decide +kernel
theorem d10_6 : decode jdk_38_method_25_code 6 = .ok (.iadd, 1) := by decide +kernel
theorem d10_7 : decode jdk_38_method_25_code 7 = .ok (.putfield 63, 3) := by decide +kernel
theorem d10_10 : decode jdk_38_method_25_code 10 = .ok (.aload_n 0, 1) := by decide +kernel
theorem d10_11 : decode jdk_38_method_25_code 11 = .ok (.aload_n 1, 1) := by decide +kernel
theorem d10_12 : decode jdk_38_method_25_code 12 = .ok (.aload_n 0, 1) := by decide +kernel
theorem d10_13 : decode jdk_38_method_25_code 13 = .ok (.getfield 9, 3) := by decide +kernel
theorem d10_16 : decode jdk_38_method_25_code 16 = .ok (.aload_n 0, 1) := by decide +kernel
theorem d10_17 : decode jdk_38_method_25_code 17 = .ok (.getfield 48, 3) := by decide +kernel
theorem wd_54 {Z : State} {a0 : Array Value} (hw : ∀ d ∈ tables_1, d.before a0 Z = true) : (Jvm.Cond.fieldLink "java/util/ArrayList" (48 : Nat) "java/util/ArrayList" "size" "I").before a0 Z = true := hw _ (List.mem_of_getElem? (i := 54) rfl)
theorem d10_20 : decode jdk_38_method_25_code 20 = .ok (.invokevirtual 131, 3) := by decide +kernel
theorem wd_56 {Z : State} {a0 : Array Value} (hw : ∀ d ∈ tables_1, d.before a0 Z = true) : (Jvm.Cond.methodLink "java/util/ArrayList" (131 : Nat) ({ cls := "java/util/ArrayList", name := "add", desc := "(Ljava/lang/Object;[Ljava/lang/Object;I)V" } : Jvm.MethodName)).before a0 Z = true := hw _ (List.mem_of_getElem? (i := 56) rfl)
theorem d11_0 : decode jdk_38_method_24_code 0 = .ok (.iload_n 3, 1) := by decide +kernel
theorem d11_1 : decode jdk_38_method_24_code 1 = .ok (.aload_n 2, 1) := by decide +kernel
theorem d11_2 : decode jdk_38_method_24_code 2 = .ok (.arraylength, 1) := by decide +kernel
theorem d11_3 : decode jdk_38_method_24_code 3 = .ok (.if_icmp .ne 8, 3) := by decide +kernel
theorem d11_6 : decode jdk_38_method_24_code 6 = .ok (.aload_n 0, 1) := by decide +kernel
theorem d11_7 : decode jdk_38_method_24_code 7 = .ok (.invokevirtual 129, 3) := by decide +kernel
theorem wd_61 {Z : State} {a0 : Array Value} (hw : ∀ d ∈ tables_1, d.before a0 Z = true) : (Jvm.Cond.methodLink "java/util/ArrayList" (129 : Nat) ({ cls := "java/util/ArrayList", name := "grow", desc := "()[Ljava/lang/Object;" } : Jvm.MethodName)).before a0 Z = true := hw _ (List.mem_of_getElem? (i := 61) rfl)
theorem d12_0 : decode jdk_38_method_7_code 0 = .ok (.aload_n 0, 1) := by decide +kernel
theorem d12_1 : decode jdk_38_method_7_code 1 = .ok (.aload_n 0, 1) := by decide +kernel
theorem d12_2 : decode jdk_38_method_7_code 2 = .ok (.getfield 48, 3) := by decide +kernel
theorem d12_5 : decode jdk_38_method_7_code 5 = .ok (.iconst 1, 1) := by decide +kernel
theorem d12_6 : decode jdk_38_method_7_code 6 = .ok (.iadd, 1) := by decide +kernel
theorem d12_7 : decode jdk_38_method_7_code 7 = .ok (.invokevirtual 69, 3) := by decide +kernel
theorem wd_66 {Z : State} {a0 : Array Value} (hw : ∀ d ∈ tables_1, d.before a0 Z = true) : (Jvm.Cond.methodLink "java/util/ArrayList" (69 : Nat) ({ cls := "java/util/ArrayList", name := "grow", desc := "(I)[Ljava/lang/Object;" } : Jvm.MethodName)).before a0 Z = true := hw _ (List.mem_of_getElem? (i := 66) rfl)
theorem d13_0 : decode jdk_38_method_6_code 0 = .ok (.aload_n 0, 1) := by decide +kernel
theorem d13_1 : decode jdk_38_method_6_code 1 = .ok (.getfield 9, 3) := by decide +kernel
theorem d13_4 : decode jdk_38_method_6_code 4 = .ok (.arraylength, 1) := by decide +kernel
theorem d13_5 : decode jdk_38_method_6_code 5 = .ok (.istore_n 2, 1) := by decide +kernel
theorem d13_6 : decode jdk_38_method_6_code 6 = .ok (.iload_n 2, 1) := by decide +kernel
theorem d13_7 : decode jdk_38_method_6_code 7 = .ok (.ifCond .gt 13, 3) := by decide +kernel
theorem d13_10 : decode jdk_38_method_6_code 10 = .ok (.aload_n 0, 1) := by decide +kernel
theorem d13_11 : decode jdk_38_method_6_code 11 = .ok (.getfield 9, 3) := by decide +kernel
theorem d13_14 : decode jdk_38_method_6_code 14 = .ok (.getstatic 39, 3) := by decide +kernel
theorem d13_17 : decode jdk_38_method_6_code 17 = .ok (.if_acmp .eq 28, 3) := by decide +kernel
theorem d13_45 : decode jdk_38_method_6_code 45 = .ok (.aload_n 0, 1) := by decide +kernel
theorem d13_46 : decode jdk_38_method_6_code 46 = .ok (.bipush 10, 2) := by decide +kernel
theorem d13_48 : decode jdk_38_method_6_code 48 = .ok (.iload_n 1, 1) := by decide +kernel
theorem d13_49 : decode jdk_38_method_6_code 49 = .ok (.invokestatic 79, 3) := by decide +kernel
theorem wd_71 {Z : State} {a0 : Array Value} (hw : ∀ d ∈ tables_1, d.before a0 Z = true) : (Jvm.Cond.methodLink "java/util/ArrayList" (79 : Nat) ({ cls := "java/lang/Math", name := "max", desc := "(II)I" } : Jvm.MethodName)).before a0 Z = true := hw _ (List.mem_of_getElem? (i := 71) rfl)
theorem d14_0 : decode jdk_29_method_65_code 0 = .ok (.iload_n 0, 1) := by decide +kernel
theorem d14_1 : decode jdk_29_method_65_code 1 = .ok (.iload_n 1, 1) := by decide +kernel
theorem d14_2 : decode jdk_29_method_65_code 2 = .ok (.if_icmp .lt 7, 3) := by decide +kernel
theorem d14_5 : decode jdk_29_method_65_code 5 = .ok (.iload_n 0, 1) := by decide +kernel
theorem d14_6 : decode jdk_29_method_65_code 6 = .ok (.goto 4, 3) := by decide +kernel
theorem d14_10 : decode jdk_29_method_65_code 10 = .ok (.ireturn, 1) := by decide +kernel
theorem pn_java_lang_Math_14 : plainFor (⟨"java/lang/Math", "max", "(II)I"⟩ : MethodName) = true := by decide +kernel
set_option maxRecDepth 65536 in
set_option maxHeartbeats 4000000 in
theorem ef_m19_max (m : MethodId) : entryFrame m #[(.int (10 : Int32)), (.int (1 : Int32))] 2 = mkF m 0 #[.val (.int (10 : Int32)), .val (.int (1 : Int32))] [] := by first | rfl | (simp [entryFrame, mkF, argsToLocals, Value.category]; done)
set_option maxRecDepth 65536 in
set_option maxHeartbeats 40000000 in
theorem m19_max (l : Launch) (Z : State) (a0 : Array Value) (hw : ∀ d ∈ tables_1, d.before a0 Z = true)  (h0 : Heap) (n0 : Nat) (Z0 : n0 ≤ h0.size) (O0 : Old Z n0 h0) :
    Ctr l Z [] (⟨"java/lang/Math", "max", "(II)I"⟩ : MethodName) jdk_29_method_65_code 2 (some .int) #[(.int (10 : Int32)), (.int (1 : Int32))] h0 ({ frames := 0, cells := 0, slots := 0, locals := 0 } : Room) (fun v h L => v = some (.int (10 : Int32)) ∧ Fr n0 L ∧ h = h0) := by
  refine Ctr.of pn_java_lang_Math_14 (fun m => ef_m19_max m ) ?_
  intro p e s m below meth c T0 hx hZ hby hml hown hnm hret hlk X0 e0
  have N0 := Fr.nil n0
  show Rch p e below _ (T0.setTop (mkF m 0 #[.val (.int (10 : Int32)), .val (.int (1 : Int32))] []))
  refine Rch.go (fun t k => XS.iloadN X0.here hx rfl (hb hby d14_0) rfl  k) ?_
  show Rch p e below _ (T0.setTop (mkF m 1 #[.val (.int (10 : Int32)), .val (.int (1 : Int32))] [(.int (10 : Int32))]))
  refine Rch.go (fun t k => XS.iloadN X0.here hx rfl (hb hby d14_1) rfl  k) ?_
  show Rch p e below _ (T0.setTop (mkF m 2 #[.val (.int (10 : Int32)), .val (.int (1 : Int32))] [(.int (1 : Int32)), (.int (10 : Int32))]))
  refine Rch.go (fun t k => XS.icmpNo X0.here hx rfl (hb hby d14_2) rfl (by decide) k) ?_
  show Rch p e below _ (T0.setTop (mkF m 5 #[.val (.int (10 : Int32)), .val (.int (1 : Int32))] []))
  refine Rch.go (fun t k => XS.iloadN X0.here hx rfl (hb hby d14_5) rfl  k) ?_
  show Rch p e below _ (T0.setTop (mkF m 6 #[.val (.int (10 : Int32)), .val (.int (1 : Int32))] [(.int (10 : Int32))]))
  refine Rch.go (fun t k => XS.goto X0.here hx rfl (pc0 := 6) (pc' := 10) rfl (hb hby d14_6) (by decide) (by decide) k) ?_
  show Rch p e below _ (T0.setTop (mkF m 10 #[.val (.int (10 : Int32)), .val (.int (1 : Int32))] [(.int (10 : Int32))]))
  refine Rch.val X0 hx (t := .int) hret hlk rfl (mayI (by simp)) (hb hby d14_10) (by decide) (by decide) ?_
  try rw [e0]
  exact ⟨rfl, N0, rfl⟩
theorem wd_74 {Z : State} {a0 : Array Value} (hw : ∀ d ∈ tables_1, d.before a0 Z = true) : (Jvm.Cond.code ({ cls := "java/lang/Math", name := "max", desc := "(II)I" } : Jvm.MethodName) jdk_29_method_65_code (2 : Nat) (Option.some Jvm.ClassFile.FieldType.int)).before a0 Z = true := hw _ (List.mem_of_getElem? (i := 74) rfl)
theorem wd_73 {Z : State} {a0 : Array Value} (hw : ∀ d ∈ tables_1, d.before a0 Z = true) : (Jvm.Cond.initialized "java/lang/Math").before a0 Z = true := hw _ (List.mem_of_getElem? (i := 73) rfl)
theorem pd_6 : parseMethodDescriptor "(II)I" = some ⟨[.int, .int], some .int⟩ := by decide +kernel
theorem wd_72 {Z : State} {a0 : Array Value} (hw : ∀ d ∈ tables_1, d.before a0 Z = true) : (Jvm.Cond.static ({ cls := "java/lang/Math", name := "max", desc := "(II)I" } : Jvm.MethodName)).before a0 Z = true := hw _ (List.mem_of_getElem? (i := 72) rfl)
theorem d13_52 : decode jdk_38_method_6_code 52 = .ok (.anewarray 7, 3) := by decide +kernel
theorem wd_75 {Z : State} {a0 : Array Value} (hw : ∀ d ∈ tables_1, d.before a0 Z = true) : (Jvm.Cond.classLink "java/util/ArrayList" (7 : Nat) "java/lang/Object").before a0 Z = true := hw _ (List.mem_of_getElem? (i := 75) rfl)
theorem wd_76 {Z : State} {a0 : Array Value} (hw : ∀ d ∈ tables_1, d.before a0 Z = true) : (Jvm.Cond.arrayOver (Jvm.ClassFile.FieldType.object "java/lang/Object")).before a0 Z = true := hw _ (List.mem_of_getElem? (i := 76) rfl)
theorem d13_55 : decode jdk_38_method_6_code 55 = .ok (.dup_x1, 1) := by decide +kernel
theorem d13_56 : decode jdk_38_method_6_code 56 = .ok (.putfield 9, 3) := by decide +kernel
theorem d13_59 : decode jdk_38_method_6_code 59 = .ok (.areturn, 1) := by decide +kernel
set_option maxRecDepth 65536 in
set_option maxHeartbeats 4000000 in
theorem ef_m18_grow (m : MethodId) (x1 : Addr) (x2 : Addr) (kk3 : ClassId) : entryFrame m #[(.ref x1), (.int (1 : Int32))] 4 = mkF m 0 #[.val (.ref x1), .val (.int (1 : Int32)), .unset, .unset] [] := by first | rfl | (simp [entryFrame, mkF, argsToLocals, Value.category]; done)
set_option maxRecDepth 65536 in
set_option maxHeartbeats 40000000 in
theorem m18_grow (l : Launch) (Z : State) (a0 : Array Value) (hw : ∀ d ∈ tables_1, d.before a0 Z = true) (x1 : Addr) (x2 : Addr) (kk3 : ClassId) (h0 : Heap) (n0 : Nat) (Z0 : n0 ≤ h0.size) (O0 : Old Z n0 h0) (P1 : Fld Z h0 x1 "java/util/ArrayList" "elementData" "[Ljava/lang/Object;" (.ref x2)) (P2 : Arv Z Z.heap x2 kk3 (.object "java/lang/Object") (0 : Int32) [] .null) (P3 : Sta Z Z.heap "java/util/ArrayList" "DEFAULTCAPACITY_EMPTY_ELEMENTDATA" "[Ljava/lang/Object;" (.ref x2)) (P4 : Exa Z h0 x1 "java/util/ArrayList") (P5 : n0 ≤ x1) (P6 : Fld Z h0 x1 "java/util/ArrayList" "size" "I" (.int (0 : Int32))) (P7 : Fld Z h0 x1 "java/util/AbstractList" "modCount" "I" (.int (1 : Int32))) :
    Ctr l Z [] (⟨"java/util/ArrayList", "grow", "(I)[Ljava/lang/Object;"⟩ : MethodName) jdk_38_method_6_code 4 (some (.array (.object "java/lang/Object"))) #[(.ref x1), (.int (1 : Int32))] h0 ({ frames := 1, cells := 1, slots := 10, locals := 14 } : Room) (fun v h L => ∃ (b6 : Addr) (k6 : ClassId), v = some (.ref b6) ∧ Fr n0 L ∧ Keep h0 h [x1] ∧ h0.size ≤ b6 ∧ Ovr Z k6 "java/lang/Object" ∧ Fld Z h x1 "java/util/ArrayList" "elementData" "[Ljava/lang/Object;" (.ref b6) ∧ Exa Z h b6 "[Ljava/lang/Object;" ∧ Arv Z h b6 k6 (.object "java/lang/Object") (10 : Int32) [.null, .null, .null, .null, .null, .null, .null, .null, .null, .null] .null ∧ Fld Z h x1 "java/util/ArrayList" "size" "I" (.int (0 : Int32)) ∧ Fld Z h x1 "java/util/AbstractList" "modCount" "I" (.int (1 : Int32))) := by
  refine Ctr.of (plainFor_of_name pn_java_util_ArrayList) (fun m => ef_m18_grow m x1 x2 kk3) ?_
  intro p e s m below meth c T0 hx hZ hby hml hown hnm hret hlk X0 e0
  have N0 := Fr.nil n0
  show Rch p e below _ (T0.setTop (mkF m 0 #[.val (.ref x1), .val (.int (1 : Int32)), .unset, .unset] []))
  refine Rch.go (fun t k => XS.aloadN X0.here hx rfl (hb hby d13_0) rfl rfl k) ?_
  show Rch p e below _ (T0.setTop (mkF m 1 #[.val (.ref x1), .val (.int (1 : Int32)), .unset, .unset] [(.ref x1)]))
  obtain ⟨T1, X1, e1, st1⟩ := getF X0 hx hZ hown (host := "") (Or.inl (wd_25 hw)) Via.refl e0 P1 (g := (mkF m 1 #[.val (.ref x1), .val (.int (1 : Int32)), .unset, .unset] [(.ref x1)])) rfl rfl (hb hby d13_1)
  refine Rch.go st1 ?_
  show Rch p e below _ (T1.setTop (mkF m 4 #[.val (.ref x1), .val (.int (1 : Int32)), .unset, .unset] [(.ref x2)]))
  obtain ⟨c2, r2, q2, s2, u2, H2, G2⟩ := id (P2.ext O0.2)
  refine Rch.go (fun t k => X1.arraylength hx (by rw [e1]; exact r2.1) (State.isArrayOf_alike hZ.alike r2.2.1) (g := (mkF m 4 #[.val (.ref x1), .val (.int (1 : Int32)), .unset, .unset] [(.ref x2)])) rfl rfl (hb hby d13_4) t (by rw [len_of s2 u2]; exact k)) ?_
  show Rch p e below _ (T1.setTop (mkF m 5 #[.val (.ref x1), .val (.int (1 : Int32)), .unset, .unset] [(.int (0 : Int32))]))
  refine Rch.go (fun t k => XS.istoreN X1.here hx rfl (hb hby d13_5) rfl  (l' := #[.val (.ref x1), .val (.int (1 : Int32)), .val (.int (0 : Int32)), .unset]) rfl k) ?_
  show Rch p e below _ (T1.setTop (mkF m 6 #[.val (.ref x1), .val (.int (1 : Int32)), .val (.int (0 : Int32)), .unset] []))
  refine Rch.go (fun t k => XS.iloadN X1.here hx rfl (hb hby d13_6) rfl  k) ?_
  show Rch p e below _ (T1.setTop (mkF m 7 #[.val (.ref x1), .val (.int (1 : Int32)), .val (.int (0 : Int32)), .unset] [(.int (0 : Int32))]))
  refine Rch.go (fun t k => XS.ifNo X1.here hx rfl (hb hby d13_7) rfl (by decide) k) ?_
  show Rch p e below _ (T1.setTop (mkF m 10 #[.val (.ref x1), .val (.int (1 : Int32)), .val (.int (0 : Int32)), .unset] []))
  refine Rch.go (fun t k => XS.aloadN X1.here hx rfl (hb hby d13_10) rfl rfl k) ?_
  show Rch p e below _ (T1.setTop (mkF m 11 #[.val (.ref x1), .val (.int (1 : Int32)), .val (.int (0 : Int32)), .unset] [(.ref x1)]))
  obtain ⟨T3, X3, e3, st3⟩ := getF X1 hx hZ hown (host := "") (Or.inl (wd_25 hw)) Via.refl e1 P1 (g := (mkF m 11 #[.val (.ref x1), .val (.int (1 : Int32)), .val (.int (0 : Int32)), .unset] [(.ref x1)])) rfl rfl (hb hby d13_11)
  refine Rch.go st3 ?_
  show Rch p e below _ (T3.setTop (mkF m 14 #[.val (.ref x1), .val (.int (1 : Int32)), .val (.int (0 : Int32)), .unset] [(.ref x2)]))
  obtain ⟨T4, X4, e4, st4⟩ := getS2 X3 hx hZ hown (host := "") (Or.inl (wd_24 hw)) Via.refl e3 (P3.ext O0.2) (g := (mkF m 14 #[.val (.ref x1), .val (.int (1 : Int32)), .val (.int (0 : Int32)), .unset] [(.ref x2)])) rfl (hb hby d13_14)
  refine Rch.go st4 ?_
  show Rch p e below _ (T4.setTop (mkF m 17 #[.val (.ref x1), .val (.int (1 : Int32)), .val (.int (0 : Int32)), .unset] [(.ref x2), (.ref x2)]))
  refine Rch.go (fun t k => acmp X4 hx (g := (mkF m 17 #[.val (.ref x1), .val (.int (1 : Int32)), .val (.int (0 : Int32)), .unset] [(.ref x2), (.ref x2)])) rfl (x := (.ref x2)) (y := (.ref x2)) rfl rfl (pc0 := 17) (pc' := 45) (same := true) rfl (hb hby d13_17) rfl (decide_eq_true rfl) (by decide) (by decide) k) ?_
  show Rch p e below _ (T4.setTop (mkF m 45 #[.val (.ref x1), .val (.int (1 : Int32)), .val (.int (0 : Int32)), .unset] []))
  refine Rch.go (fun t k => XS.aloadN X4.here hx rfl (hb hby d13_45) rfl rfl k) ?_
  show Rch p e below _ (T4.setTop (mkF m 46 #[.val (.ref x1), .val (.int (1 : Int32)), .val (.int (0 : Int32)), .unset] [(.ref x1)]))
  refine Rch.go (fun t k => XS.bipush X4.here hx rfl (hb hby d13_46) k) ?_
  show Rch p e below _ (T4.setTop (mkF m 48 #[.val (.ref x1), .val (.int (1 : Int32)), .val (.int (0 : Int32)), .unset] [(.int (10 : Int32)), (.ref x1)]))
  refine Rch.go (fun t k => XS.iloadN X4.here hx rfl (hb hby d13_48) rfl  k) ?_
  show Rch p e below _ (T4.setTop (mkF m 49 #[.val (.ref x1), .val (.int (1 : Int32)), .val (.int (0 : Int32)), .unset] [(.int (1 : Int32)), (.int (10 : Int32)), (.ref x1)]))
  obtain ⟨v5, T5, L5, X5, Q5, st5⟩ := callSt X4 hx hZ (m19_max l Z a0 hw  h0 n0 Z0 O0 ) e4 hown (wd_71 hw) (wd_72 hw) (wd_74 hw) (wd_73 hw) (by decide) (hb hby d13_49) 1 (by decide) (by decide) (by decide) (by decide) (by rw [hml]; rfl) [(.int (10 : Int32)), (.int (1 : Int32))] [(.ref x1)] rfl (lenOf pd_6 rfl) rfl (Nat.le_of_eq rfl) (Ls := #[.val (.ref x1), .val (.int (1 : Int32)), .val (.int (0 : Int32)), .unset])
  obtain ⟨rfl, M5, e5⟩ := Q5
  have N5 := Fr.app N0 M5
  refine Rch.go st5 ?_
  show Rch p e below _ (T5.setTop (mkF m 52 #[.val (.ref x1), .val (.int (1 : Int32)), .val (.int (0 : Int32)), .unset] [(.int (10 : Int32)), (.ref x1)]))
  obtain ⟨T6, h6, k6, X6, e6, E6, A6, B6, O6, st6⟩ := newRE X5 hx hZ hown (wd_75 hw) (wd_76 hw) e5 (g := (mkF m 52 #[.val (.ref x1), .val (.int (1 : Int32)), .val (.int (0 : Int32)), .unset] [(.int (10 : Int32)), (.ref x1)])) rfl (hb hby d13_52) rfl (by decide) (cap := 10) (by decide) (by decide) (by decide) (by decide) (ad := "[Ljava/lang/Object;") (by decide +kernel)
  obtain ⟨b6, g6⟩ : ∃ z, z = h0.size := ⟨_, rfl⟩
  rw [← g6] at A6 B6 st6
  refine Rch.go st6 ?_
  have z7 : n0 ≤ h6.size := (Nat.le_trans Z0 E6.1)
  have o8 := O0.ext E6
  have g_b6 : n0 ≤ b6 := Nat.le_trans Z0 (Nat.le_of_eq g6.symm)
  have V6 : Arv Z h6 b6 k6 (.object "java/lang/Object") (10 : Int32) [.null, .null, .null, .null, .null, .null, .null, .null, .null, .null] .null := (Arv.new A6 (by decide)).pad (pad_rep [] .null 10)
  show Rch p e below _ (T6.setTop (mkF m 55 #[.val (.ref x1), .val (.int (1 : Int32)), .val (.int (0 : Int32)), .unset] [(.ref b6), (.ref x1)]))
  refine Rch.go (fun t k => XS.dupX1 X6.here hx rfl (hb hby d13_55) rfl rfl rfl k) ?_
  show Rch p e below _ (T6.setTop (mkF m 56 #[.val (.ref x1), .val (.int (1 : Int32)), .val (.int (0 : Int32)), .unset] [(.ref b6), (.ref x1), (.ref b6)]))
  have f10 := (P1.ext E6)
  have f11 := (P4.ext E6)
  obtain ⟨T9, h9, X9, e9, W9, st9⟩ := putF X6 hx hZ hown (host := "") (Or.inl (wd_25 hw)) Via.refl e6 f10 f11 (Or.inl (wd_26 hw)) (wd_2 hw) (ty := (.array (.object "java/lang/Object"))) (by decide) rfl rfl (g := (mkF m 56 #[.val (.ref x1), .val (.int (1 : Int32)), .val (.int (0 : Int32)), .unset] [(.ref b6), (.ref x1), (.ref b6)])) rfl rfl (hb hby d13_56)
  refine Rch.go st9 ?_
  have z12 : n0 ≤ h9.size := (Nat.le_trans z7 (Nat.le_of_eq W9.size.symm))
  have o13 := o8.wr W9 P5
  have F9 := f10.same W9
  have N9 := Fr.snoc X9 N5 P5
  show Rch p e below _ (T9.setTop (mkF m 59 #[.val (.ref x1), .val (.int (1 : Int32)), .val (.int (0 : Int32)), .unset] [(.ref b6)]))
  have f14 := (B6.wr W9)
  have lt15 := P1.lt
  have ne16 : x1 ≠ b6 := Nat.ne_of_lt (Nat.lt_of_lt_of_le lt15 (Nat.le_of_eq g6.symm))
  have f17 := (V6.other W9 (Ne.symm ne16))
  have f18 := ((P6.ext E6).other W9 (Or.inr (slot_ne (Or.inl (wd_55 hw)) (Or.inl (wd_26 hw)) (by decide) (t := .int) (t' := (.array (.object "java/lang/Object"))) (by decide) (by decide))))
  have f19 := ((P7.ext E6).other W9 (Or.inr (slot_ne (Or.inl (wd_23 hw)) (Or.inl (wd_26 hw)) (by decide) (t := .int) (t' := (.array (.object "java/lang/Object"))) (by decide) (by decide))))
  refine Rch.val X9 hx (t := (.array (.object "java/lang/Object"))) hret hlk rfl (Or.inr (Or.inr (Or.inr (Or.inr ⟨rfl, rfl, rfl⟩)))) (hb hby d13_59) (by decide) (by decide) ?_
  try rw [e9]
  exact ⟨b6, k6, rfl, N9, (((Keep.refl _ _).ext E6).wr W9 (Or.inl (List.mem_of_getElem? (i := 0) rfl))), (Nat.le_trans (Nat.le_refl _) (Nat.le_of_eq g6.symm)), O6, F9, f14, f17, f18, f19⟩
theorem wd_70 {Z : State} {a0 : Array Value} (hw : ∀ d ∈ tables_1, d.before a0 Z = true) : (Jvm.Cond.code ({ cls := "java/util/ArrayList", name := "grow", desc := "(I)[Ljava/lang/Object;" } : Jvm.MethodName) jdk_38_method_6_code (4 : Nat) (Option.some (Jvm.ClassFile.FieldType.array (Jvm.ClassFile.FieldType.object "java/lang/Object")))).before a0 Z = true := hw _ (List.mem_of_getElem? (i := 70) rfl)
theorem pd_7 : parseMethodDescriptor "(I)[Ljava/lang/Object;" = some ⟨[.int], some (.array (.object "java/lang/Object"))⟩ := by decide +kernel
theorem wd_67 {Z : State} {a0 : Array Value} (hw : ∀ d ∈ tables_1, d.before a0 Z = true) : (Jvm.Cond.instanceMethod ({ cls := "java/util/ArrayList", name := "grow", desc := "(I)[Ljava/lang/Object;" } : Jvm.MethodName)).before a0 Z = true := hw _ (List.mem_of_getElem? (i := 67) rfl)
theorem wd_69 {Z : State} {a0 : Array Value} (hw : ∀ d ∈ tables_1, d.before a0 Z = true) : (Jvm.Cond.selects "java/util/ArrayList" ({ cls := "java/util/ArrayList", name := "grow", desc := "(I)[Ljava/lang/Object;" } : Jvm.MethodName) ({ cls := "java/util/ArrayList", name := "grow", desc := "(I)[Ljava/lang/Object;" } : Jvm.MethodName)).before a0 Z = true := hw _ (List.mem_of_getElem? (i := 69) rfl)
theorem wd_68 {Z : State} {a0 : Array Value} (hw : ∀ d ∈ tables_1, d.before a0 Z = true) : (Jvm.Cond.privateMethod ({ cls := "java/util/ArrayList", name := "grow", desc := "(I)[Ljava/lang/Object;" } : Jvm.MethodName)).before a0 Z = true := hw _ (List.mem_of_getElem? (i := 68) rfl)
theorem d12_10 : decode jdk_38_method_7_code 10 = .ok (.areturn, 1) := by decide +kernel
set_option maxRecDepth 65536 in
set_option maxHeartbeats 4000000 in
theorem ef_m17_grow (m : MethodId) (x1 : Addr) (x2 : Addr) (kk3 : ClassId) : entryFrame m #[(.ref x1)] 1 = mkF m 0 #[.val (.ref x1)] [] := by first | rfl | (simp [entryFrame, mkF, argsToLocals, Value.category]; done)
set_option maxRecDepth 65536 in
set_option maxHeartbeats 40000000 in
theorem m17_grow (l : Launch) (Z : State) (a0 : Array Value) (hw : ∀ d ∈ tables_1, d.before a0 Z = true) (x1 : Addr) (x2 : Addr) (kk3 : ClassId) (h0 : Heap) (n0 : Nat) (Z0 : n0 ≤ h0.size) (O0 : Old Z n0 h0) (P1 : Fld Z h0 x1 "java/util/ArrayList" "size" "I" (.int (0 : Int32))) (P2 : Exa Z h0 x1 "java/util/ArrayList") (P3 : Fld Z h0 x1 "java/util/ArrayList" "elementData" "[Ljava/lang/Object;" (.ref x2)) (P4 : Arv Z Z.heap x2 kk3 (.object "java/lang/Object") (0 : Int32) [] .null) (P5 : Sta Z Z.heap "java/util/ArrayList" "DEFAULTCAPACITY_EMPTY_ELEMENTDATA" "[Ljava/lang/Object;" (.ref x2)) (P6 : n0 ≤ x1) (P7 : Fld Z h0 x1 "java/util/AbstractList" "modCount" "I" (.int (1 : Int32))) :
    Ctr l Z [] (⟨"java/util/ArrayList", "grow", "()[Ljava/lang/Object;"⟩ : MethodName) jdk_38_method_7_code 1 (some (.array (.object "java/lang/Object"))) #[(.ref x1)] h0 ({ frames := 2, cells := 1, slots := 10, locals := 29 } : Room) (fun v h L => ∃ (b2_0 : Addr) (k2_0 : ClassId), v = some (.ref b2_0) ∧ Fr n0 L ∧ Keep h0 h [x1] ∧ h0.size ≤ b2_0 ∧ Ovr Z k2_0 "java/lang/Object" ∧ Fld Z h x1 "java/util/ArrayList" "elementData" "[Ljava/lang/Object;" (.ref b2_0) ∧ Exa Z h b2_0 "[Ljava/lang/Object;" ∧ Arv Z h b2_0 k2_0 (.object "java/lang/Object") (10 : Int32) [.null, .null, .null, .null, .null, .null, .null, .null, .null, .null] .null ∧ Fld Z h x1 "java/util/ArrayList" "size" "I" (.int (0 : Int32)) ∧ Fld Z h x1 "java/util/AbstractList" "modCount" "I" (.int (1 : Int32))) := by
  refine Ctr.of (plainFor_of_name pn_java_util_ArrayList) (fun m => ef_m17_grow m x1 x2 kk3) ?_
  intro p e s m below meth c T0 hx hZ hby hml hown hnm hret hlk X0 e0
  have N0 := Fr.nil n0
  show Rch p e below _ (T0.setTop (mkF m 0 #[.val (.ref x1)] []))
  refine Rch.go (fun t k => XS.aloadN X0.here hx rfl (hb hby d12_0) rfl rfl k) ?_
  show Rch p e below _ (T0.setTop (mkF m 1 #[.val (.ref x1)] [(.ref x1)]))
  refine Rch.go (fun t k => XS.aloadN X0.here hx rfl (hb hby d12_1) rfl rfl k) ?_
  show Rch p e below _ (T0.setTop (mkF m 2 #[.val (.ref x1)] [(.ref x1), (.ref x1)]))
  obtain ⟨T1, X1, e1, st1⟩ := getF X0 hx hZ hown (host := "") (Or.inl (wd_54 hw)) Via.refl e0 P1 (g := (mkF m 2 #[.val (.ref x1)] [(.ref x1), (.ref x1)])) rfl rfl (hb hby d12_2)
  refine Rch.go st1 ?_
  show Rch p e below _ (T1.setTop (mkF m 5 #[.val (.ref x1)] [(.int (0 : Int32)), (.ref x1)]))
  refine Rch.go (fun t k => XS.iconst X1.here hx rfl (hb hby d12_5) k) ?_
  show Rch p e below _ (T1.setTop (mkF m 6 #[.val (.ref x1)] [(.int (1 : Int32)), (.int (0 : Int32)), (.ref x1)]))
  refine Rch.go (fun t k => XS.iadd X1.here hx rfl (hb hby d12_6) rfl k) ?_
  show Rch p e below _ (T1.setTop (mkF m 7 #[.val (.ref x1)] [(.int (1 : Int32)), (.ref x1)]))
  obtain ⟨v2, T2, L2, X2, Q2, st2⟩ := callPr X1 hx hZ (m18_grow l Z a0 hw x1 x2 kk3 h0 n0 Z0 O0 P3 P4 P5 P2 P6 P1 P7) e1 hown (wd_66 hw) (wd_67 hw) (wd_69 hw) (wd_68 hw) (wd_70 hw) (wd_3 hw) (by decide) (hb hby d12_7) 0 (by decide) (by decide) (by decide) (by decide) (by rw [hml]; rfl) x1 P2 [(.int (1 : Int32))] [] rfl (lenOf pd_7 rfl) rfl (Nat.le_of_eq rfl) (Ls := #[.val (.ref x1)])
  obtain ⟨b2_0, k2_0, rfl, M2, K2, zz2_0, O2_0, F2_0, F2_1, F2_2, F2_3, F2_4⟩ := Q2
  have N2 := Fr.app N0 M2
  refine Rch.go st2 ?_
  have z3 : n0 ≤ T2.heap.size := (Nat.le_trans Z0 K2.1)
  have o4 := O0.keep K2 (allS P6 all0)
  have g_b2_0 : n0 ≤ b2_0 := Nat.le_trans Z0 zz2_0
  show Rch p e below _ (T2.setTop (mkF m 10 #[.val (.ref x1)] [(.ref b2_0)]))
  refine Rch.val X2 hx (t := (.array (.object "java/lang/Object"))) hret hlk rfl (Or.inr (Or.inr (Or.inr (Or.inr ⟨rfl, rfl, rfl⟩)))) (hb hby d12_10) (by decide) (by decide) ?_
  exact ⟨b2_0, k2_0, rfl, N2, ((Keep.refl _ _).trans K2 (allS (Or.inl (List.mem_of_getElem? (i := 0) rfl)) all0)), (Nat.le_trans (Nat.le_refl _) zz2_0), O2_0, F2_0, F2_1, F2_2, F2_3, F2_4⟩
theorem wd_65 {Z : State} {a0 : Array Value} (hw : ∀ d ∈ tables_1, d.before a0 Z = true) : (Jvm.Cond.code ({ cls := "java/util/ArrayList", name := "grow", desc := "()[Ljava/lang/Object;" } : Jvm.MethodName) jdk_38_method_7_code (1 : Nat) (Option.some (Jvm.ClassFile.FieldType.array (Jvm.ClassFile.FieldType.object "java/lang/Object")))).before a0 Z = true := hw _ (List.mem_of_getElem? (i := 65) rfl)
theorem pd_8 : parseMethodDescriptor "()[Ljava/lang/Object;" = some ⟨[], some (.array (.object "java/lang/Object"))⟩ := by decide +kernel
theorem wd_62 {Z : State} {a0 : Array Value} (hw : ∀ d ∈ tables_1, d.before a0 Z = true) : (Jvm.Cond.instanceMethod ({ cls := "java/util/ArrayList", name := "grow", desc := "()[Ljava/lang/Object;" } : Jvm.MethodName)).before a0 Z = true := hw _ (List.mem_of_getElem? (i := 62) rfl)
theorem wd_64 {Z : State} {a0 : Array Value} (hw : ∀ d ∈ tables_1, d.before a0 Z = true) : (Jvm.Cond.selects "java/util/ArrayList" ({ cls := "java/util/ArrayList", name := "grow", desc := "()[Ljava/lang/Object;" } : Jvm.MethodName) ({ cls := "java/util/ArrayList", name := "grow", desc := "()[Ljava/lang/Object;" } : Jvm.MethodName)).before a0 Z = true := hw _ (List.mem_of_getElem? (i := 64) rfl)
theorem wd_63 {Z : State} {a0 : Array Value} (hw : ∀ d ∈ tables_1, d.before a0 Z = true) : (Jvm.Cond.privateMethod ({ cls := "java/util/ArrayList", name := "grow", desc := "()[Ljava/lang/Object;" } : Jvm.MethodName)).before a0 Z = true := hw _ (List.mem_of_getElem? (i := 63) rfl)
theorem d11_10 : decode jdk_38_method_24_code 10 = .ok (.astore_n 2, 1) := by decide +kernel
theorem d11_11 : decode jdk_38_method_24_code 11 = .ok (.aload_n 2, 1) := by decide +kernel
theorem d11_12 : decode jdk_38_method_24_code 12 = .ok (.iload_n 3, 1) := by decide +kernel
theorem d11_13 : decode jdk_38_method_24_code 13 = .ok (.aload_n 1, 1) := by decide +kernel
theorem d11_14 : decode jdk_38_method_24_code 14 = .ok (.aastore, 1) := by decide +kernel
theorem wd_77 {Z : State} {a0 : Array Value} (hw : ∀ d ∈ tables_1, d.before a0 Z = true) : (Jvm.Cond.castable "java/lang/Long" "java/lang/Object").before a0 Z = true := hw _ (List.mem_of_getElem? (i := 77) rfl)
theorem d11_15 : decode jdk_38_method_24_code 15 = .ok (.aload_n 0, 1) := by decide +kernel
theorem d11_16 : decode jdk_38_method_24_code 16 = .ok (.iload_n 3, 1) := by decide +kernel
theorem d11_17 : decode jdk_38_method_24_code 17 = .ok (.iconst 1, 1) := by decide +kernel
theorem d11_18 : decode jdk_38_method_24_code 18 = .ok (.iadd, 1) := by decide +kernel
theorem d11_19 : decode jdk_38_method_24_code 19 = .ok (.putfield 48, 3) := by decide +kernel
theorem d11_22 : decode jdk_38_method_24_code 22 = .ok (.return_, 1) := by decide +kernel
set_option maxRecDepth 65536 in
set_option maxHeartbeats 4000000 in
theorem ef_m16_add (m : MethodId) (x1 : Addr) (x2 : Addr) (x3 : Addr) (kk4 : ClassId) : entryFrame m #[(.ref x1), (.ref x2), (.ref x3), (.int (0 : Int32))] 4 = mkF m 0 #[.val (.ref x1), .val (.ref x2), .val (.ref x3), .val (.int (0 : Int32))] [] := by first | rfl | (simp [entryFrame, mkF, argsToLocals, Value.category]; done)
set_option maxRecDepth 65536 in
set_option maxHeartbeats 40000000 in
theorem m16_add (l : Launch) (Z : State) (a0 : Array Value) (hw : ∀ d ∈ tables_1, d.before a0 Z = true) (x1 : Addr) (x2 : Addr) (x3 : Addr) (kk4 : ClassId) (h0 : Heap) (n0 : Nat) (Z0 : n0 ≤ h0.size) (O0 : Old Z n0 h0) (P1 : Arv Z Z.heap x3 kk4 (.object "java/lang/Object") (0 : Int32) [] .null) (P2 : Exa Z h0 x1 "java/util/ArrayList") (P3 : Fld Z h0 x1 "java/util/ArrayList" "size" "I" (.int (0 : Int32))) (P4 : Fld Z h0 x1 "java/util/ArrayList" "elementData" "[Ljava/lang/Object;" (.ref x3)) (P5 : Sta Z Z.heap "java/util/ArrayList" "DEFAULTCAPACITY_EMPTY_ELEMENTDATA" "[Ljava/lang/Object;" (.ref x3)) (P6 : n0 ≤ x1) (P7 : Fld Z h0 x1 "java/util/AbstractList" "modCount" "I" (.int (1 : Int32))) (P8 : Exa Z h0 x2 "java/lang/Long") :
    Ctr l Z [] (⟨"java/util/ArrayList", "add", "(Ljava/lang/Object;[Ljava/lang/Object;I)V"⟩ : MethodName) jdk_38_method_24_code 4 none #[(.ref x1), (.ref x2), (.ref x3), (.int (0 : Int32))] h0 ({ frames := 3, cells := 1, slots := 10, locals := 41 } : Room) (fun v h L => ∃ (b2_0 : Addr) (k2_0 : ClassId), v = none ∧ Fr n0 L ∧ Keep h0 h [x1] ∧ h0.size ≤ b2_0 ∧ Ovr Z k2_0 "java/lang/Object" ∧ Fld Z h x1 "java/util/ArrayList" "elementData" "[Ljava/lang/Object;" (.ref b2_0) ∧ Exa Z h b2_0 "[Ljava/lang/Object;" ∧ Arv Z h b2_0 k2_0 (.object "java/lang/Object") (10 : Int32) [(.ref x2), .null, .null, .null, .null, .null, .null, .null, .null, .null] .null ∧ Fld Z h x1 "java/util/ArrayList" "size" "I" (.int (1 : Int32)) ∧ Fld Z h x1 "java/util/AbstractList" "modCount" "I" (.int (1 : Int32))) := by
  refine Ctr.of (plainFor_of_name pn_java_util_ArrayList) (fun m => ef_m16_add m x1 x2 x3 kk4) ?_
  intro p e s m below meth c T0 hx hZ hby hml hown hnm hret hlk X0 e0
  have N0 := Fr.nil n0
  show Rch p e below _ (T0.setTop (mkF m 0 #[.val (.ref x1), .val (.ref x2), .val (.ref x3), .val (.int (0 : Int32))] []))
  refine Rch.go (fun t k => XS.iloadN X0.here hx rfl (hb hby d11_0) rfl  k) ?_
  show Rch p e below _ (T0.setTop (mkF m 1 #[.val (.ref x1), .val (.ref x2), .val (.ref x3), .val (.int (0 : Int32))] [(.int (0 : Int32))]))
  refine Rch.go (fun t k => XS.aloadN X0.here hx rfl (hb hby d11_1) rfl rfl k) ?_
  show Rch p e below _ (T0.setTop (mkF m 2 #[.val (.ref x1), .val (.ref x2), .val (.ref x3), .val (.int (0 : Int32))] [(.ref x3), (.int (0 : Int32))]))
  obtain ⟨c1, r1, q1, s1, u1, H1, G1⟩ := id (P1.ext O0.2)
  refine Rch.go (fun t k => X0.arraylength hx (by rw [e0]; exact r1.1) (State.isArrayOf_alike hZ.alike r1.2.1) (g := (mkF m 2 #[.val (.ref x1), .val (.ref x2), .val (.ref x3), .val (.int (0 : Int32))] [(.ref x3), (.int (0 : Int32))])) rfl rfl (hb hby d11_2) t (by rw [len_of s1 u1]; exact k)) ?_
  show Rch p e below _ (T0.setTop (mkF m 3 #[.val (.ref x1), .val (.ref x2), .val (.ref x3), .val (.int (0 : Int32))] [(.int (0 : Int32)), (.int (0 : Int32))]))
  refine Rch.go (fun t k => XS.icmpNo X0.here hx rfl (hb hby d11_3) rfl (by decide) k) ?_
  show Rch p e below _ (T0.setTop (mkF m 6 #[.val (.ref x1), .val (.ref x2), .val (.ref x3), .val (.int (0 : Int32))] []))
  refine Rch.go (fun t k => XS.aloadN X0.here hx rfl (hb hby d11_6) rfl rfl k) ?_
  show Rch p e below _ (T0.setTop (mkF m 7 #[.val (.ref x1), .val (.ref x2), .val (.ref x3), .val (.int (0 : Int32))] [(.ref x1)]))
  obtain ⟨v2, T2, L2, X2, Q2, st2⟩ := callPr X0 hx hZ (m17_grow l Z a0 hw x1 x3 kk4 h0 n0 Z0 O0 P3 P2 P4 P1 P5 P6 P7) e0 hown (wd_61 hw) (wd_62 hw) (wd_64 hw) (wd_63 hw) (wd_65 hw) (wd_3 hw) (by decide) (hb hby d11_7) 0 (by decide) (by decide) (by decide) (by decide) (by rw [hml]; rfl) x1 P2 [] [] rfl (lenOf pd_8 rfl) rfl (Nat.le_of_eq rfl) (Ls := #[.val (.ref x1), .val (.ref x2), .val (.ref x3), .val (.int (0 : Int32))])
  obtain ⟨b2_0, k2_0, rfl, M2, K2, zz2_0, O2_0, F2_0, F2_1, F2_2, F2_3, F2_4⟩ := Q2
  have N2 := Fr.app N0 M2
  refine Rch.go st2 ?_
  have z3 : n0 ≤ T2.heap.size := (Nat.le_trans Z0 K2.1)
  have o4 := O0.keep K2 (allS P6 all0)
  have g_b2_0 : n0 ≤ b2_0 := Nat.le_trans Z0 zz2_0
  show Rch p e below _ (T2.setTop (mkF m 10 #[.val (.ref x1), .val (.ref x2), .val (.ref x3), .val (.int (0 : Int32))] [(.ref b2_0)]))
  refine Rch.go (fun t k => XS.astoreN X2.here hx rfl (hb hby d11_10) rfl rfl (l' := #[.val (.ref x1), .val (.ref x2), .val (.ref b2_0), .val (.int (0 : Int32))]) rfl k) ?_
  show Rch p e below _ (T2.setTop (mkF m 11 #[.val (.ref x1), .val (.ref x2), .val (.ref b2_0), .val (.int (0 : Int32))] []))
  refine Rch.go (fun t k => XS.aloadN X2.here hx rfl (hb hby d11_11) rfl rfl k) ?_
  show Rch p e below _ (T2.setTop (mkF m 12 #[.val (.ref x1), .val (.ref x2), .val (.ref b2_0), .val (.int (0 : Int32))] [(.ref b2_0)]))
  refine Rch.go (fun t k => XS.iloadN X2.here hx rfl (hb hby d11_12) rfl  k) ?_
  show Rch p e below _ (T2.setTop (mkF m 13 #[.val (.ref x1), .val (.ref x2), .val (.ref b2_0), .val (.int (0 : Int32))] [(.int (0 : Int32)), (.ref b2_0)]))
  refine Rch.go (fun t k => XS.aloadN X2.here hx rfl (hb hby d11_13) rfl rfl k) ?_
  show Rch p e below _ (T2.setTop (mkF m 14 #[.val (.ref x1), .val (.ref x2), .val (.ref b2_0), .val (.int (0 : Int32))] [(.ref x2), (.int (0 : Int32)), (.ref b2_0)]))
  have f5 := (P8.keep K2)
  obtain ⟨c6, r6, q6, s6, u6, H6, G6⟩ := id F2_2
  obtain ⟨T7, h7, X7, e7, W7, st7⟩ := stR X2 hx hZ rfl r6 (j := (0 : Int32)) (inb_of s6 (by decide)) rfl (Sto.ofV r6 q6 O2_0 (Ins.of_exa f5 (wd_77 hw))) (g := (mkF m 14 #[.val (.ref x1), .val (.ref x2), .val (.ref b2_0), .val (.int (0 : Int32))] [(.ref x2), (.int (0 : Int32)), (.ref b2_0)])) rfl rfl (hb hby d11_14)
  refine Rch.go st7 ?_
  have V7 : Arv Z h7 b2_0 k2_0 (.object "java/lang/Object") (10 : Int32) [(.ref x2), .null, .null, .null, .null, .null, .null, .null, .null, .null] .null := Arv.set r6 q6 s6 u6 H6 G6 rfl W7 0 rfl (Nat.le_of_ble_eq_true rfl)
  have z8 : n0 ≤ h7.size := (Nat.le_trans z3 (Nat.le_of_eq W7.size.symm))
  have o9 := o4.wr W7 g_b2_0
  have N7 := Fr.snoc X7 N2 g_b2_0
  show Rch p e below _ (T7.setTop (mkF m 15 #[.val (.ref x1), .val (.ref x2), .val (.ref b2_0), .val (.int (0 : Int32))] []))
  refine Rch.go (fun t k => XS.aloadN X7.here hx rfl (hb hby d11_15) rfl rfl k) ?_
  show Rch p e below _ (T7.setTop (mkF m 16 #[.val (.ref x1), .val (.ref x2), .val (.ref b2_0), .val (.int (0 : Int32))] [(.ref x1)]))
  refine Rch.go (fun t k => XS.iloadN X7.here hx rfl (hb hby d11_16) rfl  k) ?_
  show Rch p e below _ (T7.setTop (mkF m 17 #[.val (.ref x1), .val (.ref x2), .val (.ref b2_0), .val (.int (0 : Int32))] [(.int (0 : Int32)), (.ref x1)]))
  refine Rch.go (fun t k => XS.iconst X7.here hx rfl (hb hby d11_17) k) ?_
  show Rch p e below _ (T7.setTop (mkF m 18 #[.val (.ref x1), .val (.ref x2), .val (.ref b2_0), .val (.int (0 : Int32))] [(.int (1 : Int32)), (.int (0 : Int32)), (.ref x1)]))
  refine Rch.go (fun t k => XS.iadd X7.here hx rfl (hb hby d11_18) rfl k) ?_
  show Rch p e below _ (T7.setTop (mkF m 19 #[.val (.ref x1), .val (.ref x2), .val (.ref b2_0), .val (.int (0 : Int32))] [(.int (1 : Int32)), (.ref x1)]))
  have lt11 := P2.lt
  have ne12 : x1 ≠ b2_0 := Nat.ne_of_lt (Nat.lt_of_lt_of_le lt11 zz2_0)
  have f13 := (F2_3.other W7 (Or.inl ne12))
  have f14 := ((P2.keep K2).wr W7)
  obtain ⟨T10, h10, X10, e10, W10, st10⟩ := putF X7 hx hZ hown (host := "") (Or.inl (wd_54 hw)) Via.refl e7 f13 f14 (Or.inl (wd_55 hw)) (wd_2 hw) (ty := .int) (by decide) rfl rfl (g := (mkF m 19 #[.val (.ref x1), .val (.ref x2), .val (.ref b2_0), .val (.int (0 : Int32))] [(.int (1 : Int32)), (.ref x1)])) rfl rfl (hb hby d11_19)
  refine Rch.go st10 ?_
  have z15 : n0 ≤ h10.size := (Nat.le_trans z8 (Nat.le_of_eq W10.size.symm))
  have o16 := o9.wr W10 P6
  have F10 := f13.same W10
  have N10 := Fr.snoc X10 N7 P6
  show Rch p e below _ (T10.setTop (mkF m 22 #[.val (.ref x1), .val (.ref x2), .val (.ref b2_0), .val (.int (0 : Int32))] []))
  have f17 := ((F2_0.other W7 (Or.inl ne12)).other W10 (Or.inr (slot_ne (Or.inl (wd_26 hw)) (Or.inl (wd_55 hw)) (by decide) (t := (.array (.object "java/lang/Object"))) (t' := .int) (by decide) (by decide))))
  have f18 := ((F2_1.wr W7).wr W10)
  have f19 := (V7.other W10 (Ne.symm ne12))
  have f20 := ((F2_4.other W7 (Or.inl ne12)).other W10 (Or.inr (slot_ne (Or.inl (wd_23 hw)) (Or.inl (wd_55 hw)) (by decide) (t := .int) (t' := .int) (by decide) (by decide))))
  refine Rch.void X10 hx hret hlk (hb hby d11_22) (by decide) (by decide) ?_
  try rw [e10]
  exact ⟨b2_0, k2_0, rfl, N10, ((((Keep.refl _ _).trans K2 (allS (Or.inl (List.mem_of_getElem? (i := 0) rfl)) all0)).wr W7 (Or.inr (Nat.le_trans (Nat.le_refl _) zz2_0))).wr W10 (Or.inl (List.mem_of_getElem? (i := 0) rfl))), (Nat.le_trans (Nat.le_refl _) zz2_0), O2_0, f17, f18, f19, F10, f20⟩
theorem wd_60 {Z : State} {a0 : Array Value} (hw : ∀ d ∈ tables_1, d.before a0 Z = true) : (Jvm.Cond.code ({ cls := "java/util/ArrayList", name := "add", desc := "(Ljava/lang/Object;[Ljava/lang/Object;I)V" } : Jvm.MethodName) jdk_38_method_24_code (4 : Nat) (Option.none : Option Jvm.ClassFile.FieldType)).before a0 Z = true := hw _ (List.mem_of_getElem? (i := 60) rfl)
theorem pd_9 : parseMethodDescriptor "(Ljava/lang/Object;[Ljava/lang/Object;I)V" = some ⟨[(.object "java/lang/Object"), (.array (.object "java/lang/Object")), .int], none⟩ := by decide +kernel
theorem wd_57 {Z : State} {a0 : Array Value} (hw : ∀ d ∈ tables_1, d.before a0 Z = true) : (Jvm.Cond.instanceMethod ({ cls := "java/util/ArrayList", name := "add", desc := "(Ljava/lang/Object;[Ljava/lang/Object;I)V" } : Jvm.MethodName)).before a0 Z = true := hw _ (List.mem_of_getElem? (i := 57) rfl)
theorem wd_59 {Z : State} {a0 : Array Value} (hw : ∀ d ∈ tables_1, d.before a0 Z = true) : (Jvm.Cond.selects "java/util/ArrayList" ({ cls := "java/util/ArrayList", name := "add", desc := "(Ljava/lang/Object;[Ljava/lang/Object;I)V" } : Jvm.MethodName) ({ cls := "java/util/ArrayList", name := "add", desc := "(Ljava/lang/Object;[Ljava/lang/Object;I)V" } : Jvm.MethodName)).before a0 Z = true := hw _ (List.mem_of_getElem? (i := 59) rfl)
theorem wd_58 {Z : State} {a0 : Array Value} (hw : ∀ d ∈ tables_1, d.before a0 Z = true) : (Jvm.Cond.privateMethod ({ cls := "java/util/ArrayList", name := "add", desc := "(Ljava/lang/Object;[Ljava/lang/Object;I)V" } : Jvm.MethodName)).before a0 Z = true := hw _ (List.mem_of_getElem? (i := 58) rfl)
theorem d10_23 : decode jdk_38_method_25_code 23 = .ok (.iconst 1, 1) := by decide +kernel
theorem d10_24 : decode jdk_38_method_25_code 24 = .ok (.ireturn, 1) := by decide +kernel
set_option maxRecDepth 65536 in
set_option maxHeartbeats 4000000 in
theorem ef_m15_add (m : MethodId) (x1 : Addr) (x2 : Addr) (x3 : Addr) (kk4 : ClassId) : entryFrame m #[(.ref x1), (.ref x2)] 2 = mkF m 0 #[.val (.ref x1), .val (.ref x2)] [] := by first | rfl | (simp [entryFrame, mkF, argsToLocals, Value.category]; done)
set_option maxRecDepth 65536 in
set_option maxHeartbeats 40000000 in
theorem m15_add (l : Launch) (Z : State) (a0 : Array Value) (hw : ∀ d ∈ tables_1, d.before a0 Z = true) (x1 : Addr) (x2 : Addr) (x3 : Addr) (kk4 : ClassId) (h0 : Heap) (n0 : Nat) (Z0 : n0 ≤ h0.size) (O0 : Old Z n0 h0) (P1 : Fld Z h0 x1 "java/util/AbstractList" "modCount" "I" (.int (0 : Int32))) (P2 : Exa Z h0 x1 "java/util/ArrayList") (P3 : n0 ≤ x1) (P4 : Fld Z h0 x1 "java/util/ArrayList" "elementData" "[Ljava/lang/Object;" (.ref x3)) (P5 : Fld Z h0 x1 "java/util/ArrayList" "size" "I" (.int (0 : Int32))) (P6 : Arv Z Z.heap x3 kk4 (.object "java/lang/Object") (0 : Int32) [] .null) (P7 : Sta Z Z.heap "java/util/ArrayList" "DEFAULTCAPACITY_EMPTY_ELEMENTDATA" "[Ljava/lang/Object;" (.ref x3)) (P8 : Exa Z h0 x2 "java/lang/Long") :
    Ctr l Z [] (⟨"java/util/ArrayList", "add", "(Ljava/lang/Object;)Z"⟩ : MethodName) jdk_38_method_25_code 2 (some .boolean) #[(.ref x1), (.ref x2)] h0 ({ frames := 4, cells := 1, slots := 10, locals := 56 } : Room) (fun v h L => ∃ (b11_0 : Addr) (k11_0 : ClassId), v = some (.int (1 : Int32)) ∧ Fr n0 L ∧ Keep h0 h [x1] ∧ h0.size ≤ b11_0 ∧ Ovr Z k11_0 "java/lang/Object" ∧ Fld Z h x1 "java/util/ArrayList" "elementData" "[Ljava/lang/Object;" (.ref b11_0) ∧ Exa Z h b11_0 "[Ljava/lang/Object;" ∧ Arv Z h b11_0 k11_0 (.object "java/lang/Object") (10 : Int32) [(.ref x2), .null, .null, .null, .null, .null, .null, .null, .null, .null] .null ∧ Fld Z h x1 "java/util/ArrayList" "size" "I" (.int (1 : Int32)) ∧ Fld Z h x1 "java/util/AbstractList" "modCount" "I" (.int (1 : Int32))) := by
  refine Ctr.of (plainFor_of_name pn_java_util_ArrayList) (fun m => ef_m15_add m x1 x2 x3 kk4) ?_
  intro p e s m below meth c T0 hx hZ hby hml hown hnm hret hlk X0 e0
  have N0 := Fr.nil n0
  show Rch p e below _ (T0.setTop (mkF m 0 #[.val (.ref x1), .val (.ref x2)] []))
  refine Rch.go (fun t k => XS.aloadN X0.here hx rfl (hb hby d10_0) rfl rfl k) ?_
  show Rch p e below _ (T0.setTop (mkF m 1 #[.val (.ref x1), .val (.ref x2)] [(.ref x1)]))
  refine Rch.go (fun t k => XS.dup X0.here hx rfl (hb hby d10_1) rfl rfl k) ?_
  show Rch p e below _ (T0.setTop (mkF m 2 #[.val (.ref x1), .val (.ref x2)] [(.ref x1), (.ref x1)]))
  obtain ⟨T1, X1, e1, st1⟩ := getF X0 hx hZ hown (host := "") (Or.inl (wd_52 hw)) (Via.of (wd_53 hw)) e0 P1 (g := (mkF m 2 #[.val (.ref x1), .val (.ref x2)] [(.ref x1), (.ref x1)])) rfl rfl (hb hby d10_2)
  refine Rch.go st1 ?_
  show Rch p e below _ (T1.setTop (mkF m 5 #[.val (.ref x1), .val (.ref x2)] [(.int (0 : Int32)), (.ref x1)]))
  refine Rch.go (fun t k => XS.iconst X1.here hx rfl (hb hby d10_5) k) ?_
  show Rch p e below _ (T1.setTop (mkF m 6 #[.val (.ref x1), .val (.ref x2)] [(.int (1 : Int32)), (.int (0 : Int32)), (.ref x1)]))
  refine Rch.go (fun t k => XS.iadd X1.here hx rfl (hb hby d10_6) rfl k) ?_
  show Rch p e below _ (T1.setTop (mkF m 7 #[.val (.ref x1), .val (.ref x2)] [(.int (1 : Int32)), (.ref x1)]))
  obtain ⟨T2, h2, X2, e2, W2, st2⟩ := putF X1 hx hZ hown (host := "") (Or.inl (wd_52 hw)) (Via.of (wd_53 hw)) e1 P1 P2 (Or.inl (wd_23 hw)) (wd_2 hw) (ty := .int) (by decide) rfl rfl (g := (mkF m 7 #[.val (.ref x1), .val (.ref x2)] [(.int (1 : Int32)), (.ref x1)])) rfl rfl (hb hby d10_7)
  refine Rch.go st2 ?_
  have z3 : n0 ≤ h2.size := (Nat.le_trans Z0 (Nat.le_of_eq W2.size.symm))
  have o4 := O0.wr W2 P3
  have F2 := P1.same W2
  have N2 := Fr.snoc X2 N0 P3
  show Rch p e below _ (T2.setTop (mkF m 10 #[.val (.ref x1), .val (.ref x2)] []))
  refine Rch.go (fun t k => XS.aloadN X2.here hx rfl (hb hby d10_10) rfl rfl k) ?_
  show Rch p e below _ (T2.setTop (mkF m 11 #[.val (.ref x1), .val (.ref x2)] [(.ref x1)]))
  refine Rch.go (fun t k => XS.aloadN X2.here hx rfl (hb hby d10_11) rfl rfl k) ?_
  show Rch p e below _ (T2.setTop (mkF m 12 #[.val (.ref x1), .val (.ref x2)] [(.ref x2), (.ref x1)]))
  refine Rch.go (fun t k => XS.aloadN X2.here hx rfl (hb hby d10_12) rfl rfl k) ?_
  show Rch p e below _ (T2.setTop (mkF m 13 #[.val (.ref x1), .val (.ref x2)] [(.ref x1), (.ref x2), (.ref x1)]))
  have f6 := (P4.other W2 (Or.inr (slot_ne (Or.inl (wd_26 hw)) (Or.inl (wd_23 hw)) (by decide) (t := (.array (.object "java/lang/Object"))) (t' := .int) (by decide) (by decide))))
  obtain ⟨T5, X5, e5, st5⟩ := getF X2 hx hZ hown (host := "") (Or.inl (wd_25 hw)) Via.refl e2 f6 (g := (mkF m 13 #[.val (.ref x1), .val (.ref x2)] [(.ref x1), (.ref x2), (.ref x1)])) rfl rfl (hb hby d10_13)
  refine Rch.go st5 ?_
  show Rch p e below _ (T5.setTop (mkF m 16 #[.val (.ref x1), .val (.ref x2)] [(.ref x3), (.ref x2), (.ref x1)]))
  refine Rch.go (fun t k => XS.aloadN X5.here hx rfl (hb hby d10_16) rfl rfl k) ?_
  show Rch p e below _ (T5.setTop (mkF m 17 #[.val (.ref x1), .val (.ref x2)] [(.ref x1), (.ref x3), (.ref x2), (.ref x1)]))
  have f8 := (P5.other W2 (Or.inr (slot_ne (Or.inl (wd_55 hw)) (Or.inl (wd_23 hw)) (by decide) (t := .int) (t' := .int) (by decide) (by decide))))
  obtain ⟨T7, X7, e7, st7⟩ := getF X5 hx hZ hown (host := "") (Or.inl (wd_54 hw)) Via.refl e5 f8 (g := (mkF m 17 #[.val (.ref x1), .val (.ref x2)] [(.ref x1), (.ref x3), (.ref x2), (.ref x1)])) rfl rfl (hb hby d10_17)
  refine Rch.go st7 ?_
  show Rch p e below _ (T7.setTop (mkF m 20 #[.val (.ref x1), .val (.ref x2)] [(.int (0 : Int32)), (.ref x3), (.ref x2), (.ref x1)]))
  have f9 := (P2.wr W2)
  have f10 := (P8.wr W2)
  obtain ⟨v11, T11, L11, X11, Q11, st11⟩ := callPr X7 hx hZ (m16_add l Z a0 hw x1 x2 x3 kk4 h2 n0 z3 o4 P6 f9 f8 f6 P7 P3 F2 f10) e7 hown (wd_56 hw) (wd_57 hw) (wd_59 hw) (wd_58 hw) (wd_60 hw) (wd_3 hw) (by decide) (hb hby d10_20) 0 (by decide) (by decide) (by decide) (by decide) (by rw [hml]; rfl) x1 f9 [(.ref x2), (.ref x3), (.int (0 : Int32))] [] rfl (lenOf pd_9 rfl) rfl (Nat.le_of_eq rfl) (Ls := #[.val (.ref x1), .val (.ref x2)])
  obtain ⟨b11_0, k11_0, rfl, M11, K11, zz11_0, O11_0, F11_0, F11_1, F11_2, F11_3, F11_4⟩ := Q11
  have N11 := Fr.app N2 M11
  refine Rch.go st11 ?_
  have z12 : n0 ≤ T11.heap.size := (Nat.le_trans z3 K11.1)
  have o13 := o4.keep K11 (allS P3 all0)
  have g_b11_0 : n0 ≤ b11_0 := Nat.le_trans z3 zz11_0
  show Rch p e below _ (T11.setTop (mkF m 23 #[.val (.ref x1), .val (.ref x2)] []))
  refine Rch.go (fun t k => XS.iconst X11.here hx rfl (hb hby d10_23) k) ?_
  show Rch p e below _ (T11.setTop (mkF m 24 #[.val (.ref x1), .val (.ref x2)] [(.int (1 : Int32))]))
  refine Rch.val X11 hx (t := .boolean) hret hlk rfl (mayI (by simp)) (hb hby d10_24) (by decide) (by decide) ?_
  exact ⟨b11_0, k11_0, rfl, N11, (((Keep.refl _ _).wr W2 (Or.inl (List.mem_of_getElem? (i := 0) rfl))).trans K11 (allS (Or.inl (List.mem_of_getElem? (i := 0) rfl)) all0)), (Nat.le_trans (Nat.le_trans (Nat.le_refl _) (Nat.le_of_eq W2.size.symm)) zz11_0), O11_0, F11_0, F11_1, F11_2, F11_3, F11_4⟩
theorem wd_51 {Z : State} {a0 : Array Value} (hw : ∀ d ∈ tables_1, d.before a0 Z = true) : (Jvm.Cond.code ({ cls := "java/util/ArrayList", name := "add", desc := "(Ljava/lang/Object;)Z" } : Jvm.MethodName) jdk_38_method_25_code (2 : Nat) (Option.some Jvm.ClassFile.FieldType.boolean)).before a0 Z = true := hw _ (List.mem_of_getElem? (i := 51) rfl)
theorem pd_10 : parseMethodDescriptor "(Ljava/lang/Object;)Z" = some ⟨[(.object "java/lang/Object")], some .boolean⟩ := by decide +kernel
theorem wd_50 {Z : State} {a0 : Array Value} (hw : ∀ d ∈ tables_1, d.before a0 Z = true) : (Jvm.Cond.selects "java/util/ArrayList" ({ cls := "java/util/ArrayList", name := "add", desc := "(Ljava/lang/Object;)Z" } : Jvm.MethodName) ({ cls := "java/util/ArrayList", name := "add", desc := "(Ljava/lang/Object;)Z" } : Jvm.MethodName)).before a0 Z = true := hw _ (List.mem_of_getElem? (i := 50) rfl)
theorem wd_48 {Z : State} {a0 : Array Value} (hw : ∀ d ∈ tables_1, d.before a0 Z = true) : (Jvm.Cond.declares ({ cls := "java/util/ArrayList", name := "add", desc := "(Ljava/lang/Object;)Z" } : Jvm.MethodName)).before a0 Z = true := hw _ (List.mem_of_getElem? (i := 48) rfl)
theorem wd_49 {Z : State} {a0 : Array Value} (hw : ∀ d ∈ tables_1, d.before a0 Z = true) : (Jvm.Cond.instanceMethod ({ cls := "java/util/ArrayList", name := "add", desc := "(Ljava/lang/Object;)Z" } : Jvm.MethodName)).before a0 Z = true := hw _ (List.mem_of_getElem? (i := 49) rfl)
set_option maxRecDepth 65536 in
set_option maxHeartbeats 40000000 in
theorem ord_7 (l : Launch) (Z : State) (a0 : Array Value) (hw : ∀ d ∈ tables_1, d.before a0 Z = true) (y1 : Int64) (sl2 : Slot) (sl3 : Slot) (y4 : Int64) (y5 : Int32) (sl6 : Slot) (vv7 : Value) (x8 : Addr) (x9 : Addr) (x10 : Addr) (x11 : Addr) (kk12 : ClassId) (h0 : Heap) (n0 : Nat) (Z0 : n0 ≤ h0.size) (O0 : Old Z n0 h0) (P1 : vv7.isRef = true) (P2 : Cached Z x10) (P3 : Sta Z Z.heap "java/lang/Long$LongCache" "cache" "[Ljava/lang/Long;" (.ref x10)) (P4 : Exa Z h0 x9 "java/util/ArrayList") (P5 : Fld Z h0 x9 "java/util/AbstractList" "modCount" "I" (.int (0 : Int32))) (P6 : n0 ≤ x9) (P7 : Fld Z h0 x9 "java/util/ArrayList" "elementData" "[Ljava/lang/Object;" (.ref x11)) (P8 : Fld Z h0 x9 "java/util/ArrayList" "size" "I" (.int (0 : Int32))) (P9 : Arv Z Z.heap x11 kk12 (.object "java/lang/Object") (0 : Int32) [] .null) (P10 : Sta Z Z.heap "java/util/ArrayList" "DEFAULTCAPACITY_EMPTY_ELEMENTDATA" "[Ljava/lang/Object;" (.ref x11)) (p : Program) (e : Env) (s : State) (m : MethodId) (below : List Frame) (meth : Method) (c : Code) (T0 : State) (args : Array Value) (locs : List Loc) (hx : p.tables.exec = Jvm.exec) (hZ : Z.Warmed39 s.vm) (hby : c.code = code) (hml : c.maxLocals = 16) (hown : s.vm.findClass "com/example/pathlatch/pathlatch/check/LogVerdictSerializablePinLaw" = some m.cls) (hnm : meth.name = "law") (hret : meth.sig.returnType = some .boolean) (hlk : meth.locks = false) (X0 : Stand p l e room_1 s m args below meth c T0 locs 7 25) (e0 : T0.heap = h0) (N0 : Fr n0 locs) :
    Rch p e below (Leaves s room_1.cells room_1.slots (fun v h L => v = some (.int (1 : Int32)) ∧ Fr n0 L)) (T0.setTop (mkF m 83 #[.val (.long y1), .second, sl2, sl3, .val (.long y4), .second, .val (.int y5), sl6, .val vv7, .val (.ref x8), .val (.ref x9), .unset, .unset, .unset, .unset, .unset] [])) := by
  show Rch p e below _ (T0.setTop (mkF m 83 #[.val (.long y1), .second, sl2, sl3, .val (.long y4), .second, .val (.int y5), sl6, .val vv7, .val (.ref x8), .val (.ref x9), .unset, .unset, .unset, .unset, .unset] []))
  refine Rch.go (fun t k => XS.iload X0.here hx rfl (hb hby at_83) rfl  k) ?_
  show Rch p e below _ (T0.setTop (mkF m 85 #[.val (.long y1), .second, sl2, sl3, .val (.long y4), .second, .val (.int y5), sl6, .val vv7, .val (.ref x8), .val (.ref x9), .unset, .unset, .unset, .unset, .unset] [(.int y5)]))
  refine Rch.go (fun t k => XS.iconst X0.here hx rfl (hb hby at_85) k) ?_
  show Rch p e below _ (T0.setTop (mkF m 86 #[.val (.long y1), .second, sl2, sl3, .val (.long y4), .second, .val (.int y5), sl6, .val vv7, .val (.ref x8), .val (.ref x9), .unset, .unset, .unset, .unset, .unset] [(.int (4 : Int32)), (.int y5)]))
  refine Rch.go (fun t k => XS.iand X0.here hx rfl (hb hby at_86) rfl k) ?_
  show Rch p e below _ (T0.setTop (mkF m 87 #[.val (.long y1), .second, sl2, sl3, .val (.long y4), .second, .val (.int y5), sl6, .val vv7, .val (.ref x8), .val (.ref x9), .unset, .unset, .unset, .unset, .unset] [(.int (y5 &&& (4 : Int32)))]))
  by_cases hf87 : (y5 &&& (4 : Int32)) = (0 : Int32)
  · show Rch p e below _ (T0.setTop (mkF m 87 #[.val (.long y1), .second, sl2, sl3, .val (.long y4), .second, .val (.int y5), sl6, .val vv7, .val (.ref x8), .val (.ref x9), .unset, .unset, .unset, .unset, .unset] [(.int (y5 &&& (4 : Int32)))]))
    refine Rch.go (fun t k => XS.ifYes X0.here hx rfl (pc0 := 87) (pc' := 101) rfl (hb hby at_87) rfl (XT.i0_eq_t hf87) (by decide) (by decide) k) ?_
    show Rch p e below _ (T0.setTop (mkF m 101 #[.val (.long y1), .second, sl2, sl3, .val (.long y4), .second, .val (.int y5), sl6, .val vv7, .val (.ref x8), .val (.ref x9), .unset, .unset, .unset, .unset, .unset] []))
    exact cyc_8 l Z a0 hw y1 sl2 sl3 (.val (.long y4)) (.second) y5 sl6 vv7 x8 x9 h0 n0 Z0 O0 P1 p e s m below meth c T0 _ _ hx hZ hby hml hown hnm hret hlk (X0.mono (by decide) (by decide)) e0 N0
  · show Rch p e below _ (T0.setTop (mkF m 87 #[.val (.long y1), .second, sl2, sl3, .val (.long y4), .second, .val (.int y5), sl6, .val vv7, .val (.ref x8), .val (.ref x9), .unset, .unset, .unset, .unset, .unset] [(.int (y5 &&& (4 : Int32)))]))
    refine Rch.go (fun t k => XS.ifNo X0.here hx rfl (hb hby at_87) rfl (XT.i0_eq_f hf87) k) ?_
    show Rch p e below _ (T0.setTop (mkF m 90 #[.val (.long y1), .second, sl2, sl3, .val (.long y4), .second, .val (.int y5), sl6, .val vv7, .val (.ref x8), .val (.ref x9), .unset, .unset, .unset, .unset, .unset] []))
    refine Rch.go (fun t k => XS.aload X0.here hx rfl (hb hby at_90) rfl rfl k) ?_
    show Rch p e below _ (T0.setTop (mkF m 92 #[.val (.long y1), .second, sl2, sl3, .val (.long y4), .second, .val (.int y5), sl6, .val vv7, .val (.ref x8), .val (.ref x9), .unset, .unset, .unset, .unset, .unset] [(.ref x9)]))
    refine Rch.go (fun t k => XS.lload X0.here hx rfl (hb hby at_92) rfl  k) ?_
    show Rch p e below _ (T0.setTop (mkF m 94 #[.val (.long y1), .second, sl2, sl3, .val (.long y4), .second, .val (.int y5), sl6, .val vv7, .val (.ref x8), .val (.ref x9), .unset, .unset, .unset, .unset, .unset] [(.long y4), (.ref x9)]))
    obtain ⟨v1, T1, L1, X1, Q1, st1⟩ := callSt X0 hx hZ (lv l Z a0 hw y4 x10 h0 n0 Z0 O0 P3 P2) e0 hown (wd_27 hw) (wd_28 hw) (wd_30 hw) (wd_29 hw) (by decide) (hb hby at_94) 1 (by decide) (by decide) (by decide) (by decide) (by rw [hml]; rfl) [(.long y4)] [(.ref x9)] rfl (lenOf pd_5 rfl) rfl (Nat.le_of_eq rfl) (Ls := #[.val (.long y1), .second, sl2, sl3, .val (.long y4), .second, .val (.int y5), sl6, .val vv7, .val (.ref x8), .val (.ref x9), .unset, .unset, .unset, .unset, .unset])
    obtain ⟨b1, rfl, M1, K1, E1⟩ := Q1
    have N1 := Fr.app N0 M1
    refine Rch.go st1 ?_
    have z2 : n0 ≤ T1.heap.size := (Nat.le_trans Z0 K1.1)
    have o3 := O0.keep K1 all0
    show Rch p e below _ (T1.setTop (mkF m 97 #[.val (.long y1), .second, sl2, sl3, .val (.long y4), .second, .val (.int y5), sl6, .val vv7, .val (.ref x8), .val (.ref x9), .unset, .unset, .unset, .unset, .unset] [(.ref b1), (.ref x9)]))
    have f4 := (P5.keep K1 nin0)
    have f5 := (P4.keep K1)
    have f6 := (P7.keep K1 nin0)
    have f7 := (P8.keep K1 nin0)
    obtain ⟨v8, T8, L8, X8, Q8, st8⟩ := callVi X1 hx hZ (m15_add l Z a0 hw x9 b1 x11 kk12 T1.heap n0 z2 o3 f4 f5 P6 f6 f7 P9 P10 E1) rfl hown (wd_47 hw) (wd_48 hw) (wd_50 hw) (notFace_of_selects (args := #[]) (mvT hZ (wd_50 hw))) (wd_49 hw) (wd_51 hw) (wd_3 hw) (by decide) (hb hby at_97) 0 (by decide) (by decide) (by decide) (by decide) (by rw [hml]; rfl) x9 f5 [(.ref b1)] [] rfl (lenOf pd_10 rfl) rfl (Nat.le_of_eq rfl) (Ls := #[.val (.long y1), .second, sl2, sl3, .val (.long y4), .second, .val (.int y5), sl6, .val vv7, .val (.ref x8), .val (.ref x9), .unset, .unset, .unset, .unset, .unset])
    obtain ⟨b8_0, k8_0, rfl, M8, K8, zz8_0, O8_0, F8_0, F8_1, F8_2, F8_3, F8_4⟩ := Q8
    have N8 := Fr.app N1 M8
    refine Rch.go st8 ?_
    have z9 : n0 ≤ T8.heap.size := (Nat.le_trans z2 K8.1)
    have o10 := o3.keep K8 (allS P6 all0)
    have g_b8_0 : n0 ≤ b8_0 := Nat.le_trans z2 zz8_0
    show Rch p e below _ (T8.setTop (mkF m 100 #[.val (.long y1), .second, sl2, sl3, .val (.long y4), .second, .val (.int y5), sl6, .val vv7, .val (.ref x8), .val (.ref x9), .unset, .unset, .unset, .unset, .unset] [(.int (1 : Int32))]))
    refine Rch.go (fun t k => XS.pop X8.here hx rfl (hb hby at_100) rfl rfl k) ?_
    show Rch p e below _ (T8.setTop (mkF m 101 #[.val (.long y1), .second, sl2, sl3, .val (.long y4), .second, .val (.int y5), sl6, .val vv7, .val (.ref x8), .val (.ref x9), .unset, .unset, .unset, .unset, .unset] []))
    exact cyc_8 l Z a0 hw y1 sl2 sl3 (.val (.long y4)) (.second) y5 sl6 vv7 x8 x9 T8.heap n0 z9 o10 P1 p e s m below meth c T8 _ _ hx hZ hby hml hown hnm hret hlk (X8.mono (by decide) (by decide)) rfl N8
set_option maxRecDepth 65536 in
set_option maxHeartbeats 40000000 in
theorem tok_3 (l : Launch) (Z : State) (a0 : Array Value) (hw : ∀ d ∈ tables_1, d.before a0 Z = true) (y1 : Int64) (sl2 : Slot) (sl3 : Slot) (y4 : Int64) (y5 : Int32) (sl6 : Slot) (vv7 : Value) (x8 : Addr) (x9 : Addr) (kk10 : ClassId) (h0 : Heap) (n0 : Nat) (Z0 : n0 ≤ h0.size) (O0 : Old Z n0 h0) (P1 : vv7.isRef = true) (P2 : Sta Z Z.heap "java/util/ArrayList" "DEFAULTCAPACITY_EMPTY_ELEMENTDATA" "[Ljava/lang/Object;" (.ref x8)) (P3 : Cached Z x9) (P4 : Sta Z Z.heap "java/lang/Long$LongCache" "cache" "[Ljava/lang/Long;" (.ref x9)) (P5 : Arv Z Z.heap x8 kk10 (.object "java/lang/Object") (0 : Int32) [] .null) (p : Program) (e : Env) (s : State) (m : MethodId) (below : List Frame) (meth : Method) (c : Code) (T0 : State) (args : Array Value) (locs : List Loc) (hx : p.tables.exec = Jvm.exec) (hZ : Z.Warmed39 s.vm) (hby : c.code = code) (hml : c.maxLocals = 16) (hown : s.vm.findClass "com/example/pathlatch/pathlatch/check/LogVerdictSerializablePinLaw" = some m.cls) (hnm : meth.name = "law") (hret : meth.sig.returnType = some .boolean) (hlk : meth.locks = false) (X0 : Stand p l e room_1 s m args below meth c T0 locs 3 8) (e0 : T0.heap = h0) (N0 : Fr n0 locs) :
    Rch p e below (Leaves s room_1.cells room_1.slots (fun v h L => v = some (.int (1 : Int32)) ∧ Fr n0 L)) (T0.setTop (mkF m 45 #[.val (.long y1), .second, sl2, sl3, .val (.long y4), .second, .val (.int y5), sl6, .unset, .unset, .unset, .unset, .unset, .unset, .unset, .unset] [vv7])) := by
  show Rch p e below _ (T0.setTop (mkF m 45 #[.val (.long y1), .second, sl2, sl3, .val (.long y4), .second, .val (.int y5), sl6, .unset, .unset, .unset, .unset, .unset, .unset, .unset, .unset] [vv7]))
  refine Rch.go (fun t k => XS.astoreS X0.here hx rfl (hb hby at_45) rfl P1 (XT.cat1 P1) rfl (Or.inl rfl) k) ?_
  show Rch p e below _ (T0.setTop (mkF m 47 #[.val (.long y1), .second, sl2, sl3, .val (.long y4), .second, .val (.int y5), sl6, .val vv7, .unset, .unset, .unset, .unset, .unset, .unset, .unset] []))
  obtain ⟨T1, h1, X1, e1, E1, A1, D1, -, st1⟩ := newO X0 hx hZ hown (wd_1 hw) (wd_2 hw) (wd_3 hw) e0 (g := (mkF m 47 #[.val (.long y1), .second, sl2, sl3, .val (.long y4), .second, .val (.int y5), sl6, .val vv7, .unset, .unset, .unset, .unset, .unset, .unset, .unset] [])) rfl (hb hby at_47) (by decide) (by decide)
  obtain ⟨b1, g1⟩ : ∃ z, z = h0.size := ⟨_, rfl⟩
  rw [← g1] at A1 D1 st1
  refine Rch.go st1 ?_
  have z2 : n0 ≤ h1.size := (Nat.le_trans Z0 E1.1)
  have o3 := O0.ext E1
  have g_b1 : n0 ≤ b1 := Nat.le_trans Z0 (Nat.le_of_eq g1.symm)
  have F1_modCount : Fld Z h1 b1 "java/util/AbstractList" "modCount" "I" (.int (0 : Int32)) := (D1 (Or.inl (wd_23 hw)) (ty := .int) (by decide))
  have F1_elementData : Fld Z h1 b1 "java/util/ArrayList" "elementData" "[Ljava/lang/Object;" .null := (D1 (Or.inl (wd_26 hw)) (ty := (.array (.object "java/lang/Object"))) (by decide))
  have F1_size : Fld Z h1 b1 "java/util/ArrayList" "size" "I" (.int (0 : Int32)) := (D1 (Or.inl (wd_55 hw)) (ty := .int) (by decide))
  show Rch p e below _ (T1.setTop (mkF m 50 #[.val (.long y1), .second, sl2, sl3, .val (.long y4), .second, .val (.int y5), sl6, .val vv7, .unset, .unset, .unset, .unset, .unset, .unset, .unset] [(.ref b1)]))
  refine Rch.go (fun t k => XS.dup X1.here hx rfl (hb hby at_50) rfl rfl k) ?_
  show Rch p e below _ (T1.setTop (mkF m 51 #[.val (.long y1), .second, sl2, sl3, .val (.long y4), .second, .val (.int y5), sl6, .val vv7, .unset, .unset, .unset, .unset, .unset, .unset, .unset] [(.ref b1), (.ref b1)]))
  obtain ⟨v4, T4, L4, X4, Q4, st4⟩ := callSp X1 hx hZ (m4_init l Z a0 hw b1 x8 h1 n0 z2 o3 A1 F1_modCount g_b1 F1_elementData F1_size P2) e1 hown rfl (wd_4 hw) (wd_5 hw) (wd_6 hw) (wd_3 hw) (by decide) (hb hby at_51) 1 (by decide) (by decide) (by decide) (by decide) (by rw [hml]; rfl) b1 [] [(.ref b1)] rfl (lenOf pd_0 rfl) rfl (Nat.le_of_eq rfl) (Ls := #[.val (.long y1), .second, sl2, sl3, .val (.long y4), .second, .val (.int y5), sl6, .val vv7, .unset, .unset, .unset, .unset, .unset, .unset, .unset])
  obtain ⟨rfl, M4, K4, F4_0, F4_1, F4_2⟩ := Q4
  have N4 := Fr.app N0 M4
  refine Rch.go st4 ?_
  have z5 : n0 ≤ T4.heap.size := (Nat.le_trans z2 K4.1)
  have o6 := o3.keep K4 (allS g_b1 all0)
  show Rch p e below _ (T4.setTop (mkF m 54 #[.val (.long y1), .second, sl2, sl3, .val (.long y4), .second, .val (.int y5), sl6, .val vv7, .unset, .unset, .unset, .unset, .unset, .unset, .unset] [(.ref b1)]))
  refine Rch.go (fun t k => XS.astore X4.here hx rfl (hb hby at_54) rfl rfl (l' := #[.val (.long y1), .second, sl2, sl3, .val (.long y4), .second, .val (.int y5), sl6, .val vv7, .val (.ref b1), .unset, .unset, .unset, .unset, .unset, .unset]) rfl k) ?_
  show Rch p e below _ (T4.setTop (mkF m 56 #[.val (.long y1), .second, sl2, sl3, .val (.long y4), .second, .val (.int y5), sl6, .val vv7, .val (.ref b1), .unset, .unset, .unset, .unset, .unset, .unset] []))
  obtain ⟨T7, h7, X7, e7, E7, A7, D7, -, st7⟩ := newO X4 hx hZ hown (wd_1 hw) (wd_2 hw) (wd_3 hw) rfl (g := (mkF m 56 #[.val (.long y1), .second, sl2, sl3, .val (.long y4), .second, .val (.int y5), sl6, .val vv7, .val (.ref b1), .unset, .unset, .unset, .unset, .unset, .unset] [])) rfl (hb hby at_56) (by decide) (by decide)
  obtain ⟨b7, g7⟩ : ∃ z, z = T4.heap.size := ⟨_, rfl⟩
  rw [← g7] at A7 D7 st7
  refine Rch.go st7 ?_
  have z8 : n0 ≤ h7.size := (Nat.le_trans z5 E7.1)
  have o9 := o6.ext E7
  have g_b7 : n0 ≤ b7 := Nat.le_trans z5 (Nat.le_of_eq g7.symm)
  have F7_modCount : Fld Z h7 b7 "java/util/AbstractList" "modCount" "I" (.int (0 : Int32)) := (D7 (Or.inl (wd_23 hw)) (ty := .int) (by decide))
  have F7_elementData : Fld Z h7 b7 "java/util/ArrayList" "elementData" "[Ljava/lang/Object;" .null := (D7 (Or.inl (wd_26 hw)) (ty := (.array (.object "java/lang/Object"))) (by decide))
  have F7_size : Fld Z h7 b7 "java/util/ArrayList" "size" "I" (.int (0 : Int32)) := (D7 (Or.inl (wd_55 hw)) (ty := .int) (by decide))
  show Rch p e below _ (T7.setTop (mkF m 59 #[.val (.long y1), .second, sl2, sl3, .val (.long y4), .second, .val (.int y5), sl6, .val vv7, .val (.ref b1), .unset, .unset, .unset, .unset, .unset, .unset] [(.ref b7)]))
  refine Rch.go (fun t k => XS.dup X7.here hx rfl (hb hby at_59) rfl rfl k) ?_
  show Rch p e below _ (T7.setTop (mkF m 60 #[.val (.long y1), .second, sl2, sl3, .val (.long y4), .second, .val (.int y5), sl6, .val vv7, .val (.ref b1), .unset, .unset, .unset, .unset, .unset, .unset] [(.ref b7), (.ref b7)]))
  obtain ⟨v10, T10, L10, X10, Q10, st10⟩ := callSp X7 hx hZ (m4_init l Z a0 hw b7 x8 h7 n0 z8 o9 A7 F7_modCount g_b7 F7_elementData F7_size P2) e7 hown rfl (wd_4 hw) (wd_5 hw) (wd_6 hw) (wd_3 hw) (by decide) (hb hby at_60) 1 (by decide) (by decide) (by decide) (by decide) (by rw [hml]; rfl) b7 [] [(.ref b7)] rfl (lenOf pd_0 rfl) rfl (Nat.le_of_eq rfl) (Ls := #[.val (.long y1), .second, sl2, sl3, .val (.long y4), .second, .val (.int y5), sl6, .val vv7, .val (.ref b1), .unset, .unset, .unset, .unset, .unset, .unset])
  obtain ⟨rfl, M10, K10, F10_0, F10_1, F10_2⟩ := Q10
  have N10 := Fr.app N4 M10
  refine Rch.go st10 ?_
  have z11 : n0 ≤ T10.heap.size := (Nat.le_trans z8 K10.1)
  have o12 := o9.keep K10 (allS g_b7 all0)
  show Rch p e below _ (T10.setTop (mkF m 63 #[.val (.long y1), .second, sl2, sl3, .val (.long y4), .second, .val (.int y5), sl6, .val vv7, .val (.ref b1), .unset, .unset, .unset, .unset, .unset, .unset] [(.ref b7)]))
  refine Rch.go (fun t k => XS.astore X10.here hx rfl (hb hby at_63) rfl rfl (l' := #[.val (.long y1), .second, sl2, sl3, .val (.long y4), .second, .val (.int y5), sl6, .val vv7, .val (.ref b1), .val (.ref b7), .unset, .unset, .unset, .unset, .unset]) rfl k) ?_
  show Rch p e below _ (T10.setTop (mkF m 65 #[.val (.long y1), .second, sl2, sl3, .val (.long y4), .second, .val (.int y5), sl6, .val vv7, .val (.ref b1), .val (.ref b7), .unset, .unset, .unset, .unset, .unset] []))
  refine Rch.go (fun t k => XS.iload X10.here hx rfl (hb hby at_65) rfl  k) ?_
  show Rch p e below _ (T10.setTop (mkF m 67 #[.val (.long y1), .second, sl2, sl3, .val (.long y4), .second, .val (.int y5), sl6, .val vv7, .val (.ref b1), .val (.ref b7), .unset, .unset, .unset, .unset, .unset] [(.int y5)]))
  refine Rch.go (fun t k => XS.iconst X10.here hx rfl (hb hby at_67) k) ?_
  show Rch p e below _ (T10.setTop (mkF m 68 #[.val (.long y1), .second, sl2, sl3, .val (.long y4), .second, .val (.int y5), sl6, .val vv7, .val (.ref b1), .val (.ref b7), .unset, .unset, .unset, .unset, .unset] [(.int (2 : Int32)), (.int y5)]))
  refine Rch.go (fun t k => XS.iand X10.here hx rfl (hb hby at_68) rfl k) ?_
  show Rch p e below _ (T10.setTop (mkF m 69 #[.val (.long y1), .second, sl2, sl3, .val (.long y4), .second, .val (.int y5), sl6, .val vv7, .val (.ref b1), .val (.ref b7), .unset, .unset, .unset, .unset, .unset] [(.int (y5 &&& (2 : Int32)))]))
  by_cases hf69 : (y5 &&& (2 : Int32)) = (0 : Int32)
  · show Rch p e below _ (T10.setTop (mkF m 69 #[.val (.long y1), .second, sl2, sl3, .val (.long y4), .second, .val (.int y5), sl6, .val vv7, .val (.ref b1), .val (.ref b7), .unset, .unset, .unset, .unset, .unset] [(.int (y5 &&& (2 : Int32)))]))
    refine Rch.go (fun t k => XS.ifYes X10.here hx rfl (pc0 := 69) (pc' := 83) rfl (hb hby at_69) rfl (XT.i0_eq_t hf69) (by decide) (by decide) k) ?_
    show Rch p e below _ (T10.setTop (mkF m 83 #[.val (.long y1), .second, sl2, sl3, .val (.long y4), .second, .val (.int y5), sl6, .val vv7, .val (.ref b1), .val (.ref b7), .unset, .unset, .unset, .unset, .unset] []))
    have f13 := (A7.keep K10)
    exact ord_7 l Z a0 hw y1 sl2 sl3 y4 y5 sl6 vv7 b1 b7 x9 x8 kk10 T10.heap n0 z11 o12 P1 P3 P4 f13 F10_0 g_b7 F10_1 F10_2 P5 P2 p e s m below meth c T10 _ _ hx hZ hby hml hown hnm hret hlk (X10.mono (by decide) (by decide)) rfl N10
  · show Rch p e below _ (T10.setTop (mkF m 69 #[.val (.long y1), .second, sl2, sl3, .val (.long y4), .second, .val (.int y5), sl6, .val vv7, .val (.ref b1), .val (.ref b7), .unset, .unset, .unset, .unset, .unset] [(.int (y5 &&& (2 : Int32)))]))
    refine Rch.go (fun t k => XS.ifNo X10.here hx rfl (hb hby at_69) rfl (XT.i0_eq_f hf69) k) ?_
    show Rch p e below _ (T10.setTop (mkF m 72 #[.val (.long y1), .second, sl2, sl3, .val (.long y4), .second, .val (.int y5), sl6, .val vv7, .val (.ref b1), .val (.ref b7), .unset, .unset, .unset, .unset, .unset] []))
    refine Rch.go (fun t k => XS.aload X10.here hx rfl (hb hby at_72) rfl rfl k) ?_
    show Rch p e below _ (T10.setTop (mkF m 74 #[.val (.long y1), .second, sl2, sl3, .val (.long y4), .second, .val (.int y5), sl6, .val vv7, .val (.ref b1), .val (.ref b7), .unset, .unset, .unset, .unset, .unset] [(.ref b1)]))
    refine Rch.go (fun t k => XS.lload X10.here hx rfl (hb hby at_74) rfl  k) ?_
    show Rch p e below _ (T10.setTop (mkF m 76 #[.val (.long y1), .second, sl2, sl3, .val (.long y4), .second, .val (.int y5), sl6, .val vv7, .val (.ref b1), .val (.ref b7), .unset, .unset, .unset, .unset, .unset] [(.long y4), (.ref b1)]))
    obtain ⟨v14, T14, L14, X14, Q14, st14⟩ := callSt X10 hx hZ (lv l Z a0 hw y4 x9 T10.heap n0 z11 o12 P4 P3) rfl hown (wd_27 hw) (wd_28 hw) (wd_30 hw) (wd_29 hw) (by decide) (hb hby at_76) 1 (by decide) (by decide) (by decide) (by decide) (by rw [hml]; rfl) [(.long y4)] [(.ref b1)] rfl (lenOf pd_5 rfl) rfl (Nat.le_of_eq rfl) (Ls := #[.val (.long y1), .second, sl2, sl3, .val (.long y4), .second, .val (.int y5), sl6, .val vv7, .val (.ref b1), .val (.ref b7), .unset, .unset, .unset, .unset, .unset])
    obtain ⟨b14, rfl, M14, K14, E14⟩ := Q14
    have N14 := Fr.app N10 M14
    refine Rch.go st14 ?_
    have z15 : n0 ≤ T14.heap.size := (Nat.le_trans z11 K14.1)
    have o16 := o12.keep K14 all0
    show Rch p e below _ (T14.setTop (mkF m 79 #[.val (.long y1), .second, sl2, sl3, .val (.long y4), .second, .val (.int y5), sl6, .val vv7, .val (.ref b1), .val (.ref b7), .unset, .unset, .unset, .unset, .unset] [(.ref b14), (.ref b1)]))
    have lt17 := (Nat.lt_of_lt_of_le A1.lt K4.1)
    have ne18 : b1 ≠ b7 := Nat.ne_of_lt (Nat.lt_of_lt_of_le lt17 (Nat.le_of_eq g7.symm))
    have f19 := (((F4_0.ext E7).keep K10 (ninS ne18 nin0)).keep K14 nin0)
    have f20 := ((((A1.keep K4).ext E7).keep K10).keep K14)
    have f21 := (((F4_1.ext E7).keep K10 (ninS ne18 nin0)).keep K14 nin0)
    have f22 := (((F4_2.ext E7).keep K10 (ninS ne18 nin0)).keep K14 nin0)
    obtain ⟨v23, T23, L23, X23, Q23, st23⟩ := callVi X14 hx hZ (m15_add l Z a0 hw b1 b14 x8 kk10 T14.heap n0 z15 o16 f19 f20 g_b1 f21 f22 P5 P2 E14) rfl hown (wd_47 hw) (wd_48 hw) (wd_50 hw) (notFace_of_selects (args := #[]) (mvT hZ (wd_50 hw))) (wd_49 hw) (wd_51 hw) (wd_3 hw) (by decide) (hb hby at_79) 0 (by decide) (by decide) (by decide) (by decide) (by rw [hml]; rfl) b1 f20 [(.ref b14)] [] rfl (lenOf pd_10 rfl) rfl (Nat.le_of_eq rfl) (Ls := #[.val (.long y1), .second, sl2, sl3, .val (.long y4), .second, .val (.int y5), sl6, .val vv7, .val (.ref b1), .val (.ref b7), .unset, .unset, .unset, .unset, .unset])
    obtain ⟨b23_0, k23_0, rfl, M23, K23, zz23_0, O23_0, F23_0, F23_1, F23_2, F23_3, F23_4⟩ := Q23
    have N23 := Fr.app N14 M23
    refine Rch.go st23 ?_
    have z24 : n0 ≤ T23.heap.size := (Nat.le_trans z15 K23.1)
    have o25 := o16.keep K23 (allS g_b1 all0)
    have g_b23_0 : n0 ≤ b23_0 := Nat.le_trans z15 zz23_0
    show Rch p e below _ (T23.setTop (mkF m 82 #[.val (.long y1), .second, sl2, sl3, .val (.long y4), .second, .val (.int y5), sl6, .val vv7, .val (.ref b1), .val (.ref b7), .unset, .unset, .unset, .unset, .unset] [(.int (1 : Int32))]))
    refine Rch.go (fun t k => XS.pop X23.here hx rfl (hb hby at_82) rfl rfl k) ?_
    show Rch p e below _ (T23.setTop (mkF m 83 #[.val (.long y1), .second, sl2, sl3, .val (.long y4), .second, .val (.int y5), sl6, .val vv7, .val (.ref b1), .val (.ref b7), .unset, .unset, .unset, .unset, .unset] []))
    have f26 := (((A7.keep K10).keep K14).keep K23)
    have f27 := ((F10_0.keep K14 nin0).keep K23 (ninS (Ne.symm ne18) nin0))
    have f28 := ((F10_1.keep K14 nin0).keep K23 (ninS (Ne.symm ne18) nin0))
    have f29 := ((F10_2.keep K14 nin0).keep K23 (ninS (Ne.symm ne18) nin0))
    exact ord_7 l Z a0 hw y1 sl2 sl3 y4 y5 sl6 vv7 b1 b7 x9 x8 kk10 T23.heap n0 z24 o25 P1 P3 P4 f26 f27 g_b7 f28 f29 P5 P2 p e s m below meth c T23 _ _ hx hZ hby hml hown hnm hret hlk (X23.mono (by decide) (by decide)) rfl N23
theorem wd_108 {Z : State} {a0 : Array Value} (hw : ∀ d ∈ tables_1, d.before a0 Z = true) : (Jvm.Cond.classLink "com/example/pathlatch/pathlatch/check/LogVerdictSerializablePinLaw" (7 : Nat) "java/lang/String").before a0 Z = true := hw _ (List.mem_of_getElem? (i := 108) rfl)
theorem wd_109 {Z : State} {a0 : Array Value} (hw : ∀ d ∈ tables_1, d.before a0 Z = true) : (Jvm.Cond.instantiable "java/lang/String" (4 : Nat)).before a0 Z = true := hw _ (List.mem_of_getElem? (i := 109) rfl)
theorem wd_110 {Z : State} {a0 : Array Value} (hw : ∀ d ∈ tables_1, d.before a0 Z = true) : (Jvm.Cond.initialized "java/lang/String").before a0 Z = true := hw _ (List.mem_of_getElem? (i := 110) rfl)
theorem wd_132 {Z : State} {a0 : Array Value} (hw : ∀ d ∈ tables_1, d.before a0 Z = true) : (Jvm.Cond.laysFinal "java/lang/String" "java/lang/String" "coder" "B").before a0 Z = true := hw _ (List.mem_of_getElem? (i := 132) rfl)
theorem wd_134 {Z : State} {a0 : Array Value} (hw : ∀ d ∈ tables_1, d.before a0 Z = true) : (Jvm.Cond.laysFinal "java/lang/String" "java/lang/String" "value" "[B").before a0 Z = true := hw _ (List.mem_of_getElem? (i := 134) rfl)
theorem wd_111 {Z : State} {a0 : Array Value} (hw : ∀ d ∈ tables_1, d.before a0 Z = true) : (Jvm.Cond.methodLink "com/example/pathlatch/pathlatch/check/LogVerdictSerializablePinLaw" (9 : Nat) ({ cls := "java/lang/String", name := "<init>", desc := "([C)V" } : Jvm.MethodName)).before a0 Z = true := hw _ (List.mem_of_getElem? (i := 111) rfl)
theorem d15_0 : decode jdk_42_method_3_code 0 = .ok (.aload_n 0, 1) := by decide +kernel
theorem d15_1 : decode jdk_42_method_3_code 1 = .ok (.aload_n 1, 1) := by decide +kernel
theorem d15_2 : decode jdk_42_method_3_code 2 = .ok (.iconst 0, 1) := by decide +kernel
theorem d15_3 : decode jdk_42_method_3_code 3 = .ok (.aload_n 1, 1) := by decide +kernel
theorem d15_4 : decode jdk_42_method_3_code 4 = .ok (.arraylength, 1) := by decide +kernel
theorem d15_5 : decode jdk_42_method_3_code 5 = .ok (.aconst_null, 1) := by decide +kernel
theorem d15_6 : decode jdk_42_method_3_code 6 = .ok (.invokespecial 27, 3) := by decide +kernel
theorem wd_114 {Z : State} {a0 : Array Value} (hw : ∀ d ∈ tables_1, d.before a0 Z = true) : (Jvm.Cond.methodLink "java/lang/String" (27 : Nat) ({ cls := "java/lang/String", name := "<init>", desc := "([CIILjava/lang/Void;)V" } : Jvm.MethodName)).before a0 Z = true := hw _ (List.mem_of_getElem? (i := 114) rfl)
theorem d16_0 : decode jdk_42_method_149_code 0 = .ok (.aload_n 0, 1) := by decide +kernel
theorem d16_1 : decode jdk_42_method_149_code 1 = .ok (.invokespecial 1, 3) := by decide +kernel
theorem wd_118 {Z : State} {a0 : Array Value} (hw : ∀ d ∈ tables_1, d.before a0 Z = true) : (Jvm.Cond.methodLink "java/lang/String" (1 : Nat) ({ cls := "java/lang/Object", name := "<init>", desc := "()V" } : Jvm.MethodName)).before a0 Z = true := hw _ (List.mem_of_getElem? (i := 118) rfl)
theorem d16_4 : decode jdk_42_method_149_code 4 = .ok (.iload_n 3, 1) := by decide +kernel
theorem d16_5 : decode jdk_42_method_149_code 5 = .ok (.ifCond .ne 22, 3) := by decide +kernel
theorem d16_27 : decode jdk_42_method_149_code 27 = .ok (.getstatic 38, 3) := by decide +kernel
theorem wd_119 {Z : State} {a0 : Array Value} (hw : ∀ d ∈ tables_1, d.before a0 Z = true) : (Jvm.Cond.fieldLink "java/lang/String" (38 : Nat) "java/lang/String" "COMPACT_STRINGS" "Z").before a0 Z = true := hw _ (List.mem_of_getElem? (i := 119) rfl)
theorem d16_30 : decode jdk_42_method_149_code 30 = .ok (.ifCond .eq 28, 3) := by decide +kernel
theorem d16_33 : decode jdk_42_method_149_code 33 = .ok (.aload_n 1, 1) := by decide +kernel
theorem d16_34 : decode jdk_42_method_149_code 34 = .ok (.iload_n 2, 1) := by decide +kernel
theorem d16_35 : decode jdk_42_method_149_code 35 = .ok (.iload_n 3, 1) := by decide +kernel
theorem d16_36 : decode jdk_42_method_149_code 36 = .ok (.invokestatic 177, 3) := by decide +kernel
theorem wd_120 {Z : State} {a0 : Array Value} (hw : ∀ d ∈ tables_1, d.before a0 Z = true) : (Jvm.Cond.methodLink "java/lang/String" (177 : Nat) ({ cls := "java/lang/StringUTF16", name := "compress", desc := "([CII)[B" } : Jvm.MethodName)).before a0 Z = true := hw _ (List.mem_of_getElem? (i := 120) rfl)
theorem d17_0 : decode jdk_52_method_16_code 0 = .ok (.iload_n 2, 1) := by decide +kernel
theorem d17_1 : decode jdk_52_method_16_code 1 = .ok (.newarray .byte, 2) := by decide +kernel
theorem wd_124 {Z : State} {a0 : Array Value} (hw : ∀ d ∈ tables_1, d.before a0 Z = true) : (Jvm.Cond.arrayClass Jvm.ClassFile.FieldType.byte).before a0 Z = true := hw _ (List.mem_of_getElem? (i := 124) rfl)
theorem d17_3 : decode jdk_52_method_16_code 3 = .ok (.astore_n 3, 1) := by decide +kernel
theorem d17_4 : decode jdk_52_method_16_code 4 = .ok (.aload_n 0, 1) := by decide +kernel
theorem d17_5 : decode jdk_52_method_16_code 5 = .ok (.iload_n 1, 1) := by decide +kernel
theorem d17_6 : decode jdk_52_method_16_code 6 = .ok (.aload_n 3, 1) := by decide +kernel
theorem d17_7 : decode jdk_52_method_16_code 7 = .ok (.iconst 0, 1) := by decide +kernel
theorem d17_8 : decode jdk_52_method_16_code 8 = .ok (.iload_n 2, 1) := by decide +kernel
theorem d17_9 : decode jdk_52_method_16_code 9 = .ok (.invokestatic 115, 3) := by decide +kernel
theorem wd_125 {Z : State} {a0 : Array Value} (hw : ∀ d ∈ tables_1, d.before a0 Z = true) : (Jvm.Cond.methodLink "java/lang/StringUTF16" (115 : Nat) ({ cls := "java/lang/StringUTF16", name := "compress", desc := "([CI[BII)I" } : Jvm.MethodName)).before a0 Z = true := hw _ (List.mem_of_getElem? (i := 125) rfl)
theorem d18_0 : decode jdk_52_method_21_code 0 = .ok (.iconst 0, 1) := by decide +kernel
theorem d18_1 : decode jdk_52_method_21_code 1 = .ok (.istore 5, 2) := by decide +kernel
theorem d18_3 : decode jdk_52_method_21_code 3 = .ok (.iload 5, 2) := by decide +kernel
theorem d18_5 : decode jdk_52_method_21_code 5 = .ok (.iload 4, 2) := by decide +kernel
theorem d18_7 : decode jdk_52_method_21_code 7 = .ok (.if_icmp .ge 37, 3) := by decide +kernel
theorem d18_10 : decode jdk_52_method_21_code 10 = .ok (.aload_n 0, 1) := by decide +kernel
theorem d18_11 : decode jdk_52_method_21_code 11 = .ok (.iload_n 1, 1) := by decide +kernel
theorem d18_12 : decode jdk_52_method_21_code 12 = .ok (.caload, 1) := by decide +kernel
theorem d18_13 : decode jdk_52_method_21_code 13 = .ok (.istore 6, 2) := by decide +kernel
theorem d18_15 : decode jdk_52_method_21_code 15 = .ok (.iload 6, 2) := by decide +kernel
theorem d18_17 : decode jdk_52_method_21_code 17 = .ok (.sipush 255, 3) := by decide +kernel
theorem d18_20 : decode jdk_52_method_21_code 20 = .ok (.if_icmp .le 6, 3) := by decide +kernel
theorem d18_26 : decode jdk_52_method_21_code 26 = .ok (.aload_n 2, 1) := by decide +kernel
theorem d18_27 : decode jdk_52_method_21_code 27 = .ok (.iload_n 3, 1) := by decide +kernel
theorem d18_28 : decode jdk_52_method_21_code 28 = .ok (.iload 6, 2) := by decide +kernel
theorem d18_30 : decode jdk_52_method_21_code 30 = .ok (.i2b, 1) := by decide +kernel
theorem d18_31 : decode jdk_52_method_21_code 31 = .ok (.bastore, 1) := by decide +kernel
theorem d18_32 : decode jdk_52_method_21_code 32 = .ok (.iinc 1 1, 3) := by decide +kernel
theorem d18_35 : decode jdk_52_method_21_code 35 = .ok (.iinc 3 1, 3) := by decide +kernel
theorem d18_38 : decode jdk_52_method_21_code 38 = .ok (.iinc 5 1, 3) := by decide +kernel
theorem d18_41 : decode jdk_52_method_21_code 41 = .ok (.goto (-38), 3) := by decide +kernel
theorem d18_44 : decode jdk_52_method_21_code 44 = .ok (.iload 4, 2) := by decide +kernel
theorem d18_46 : decode jdk_52_method_21_code 46 = .ok (.ireturn, 1) := by decide +kernel
theorem pn_java_lang_StringUTF16 : plainName "java/lang/StringUTF16" = true := by first | (simp [plainName, overriddenIn]; done) | decide +kernel
set_option maxRecDepth 65536 in
set_option maxHeartbeats 4000000 in
theorem ef_m23_compress (m : MethodId) (x1 : Addr) (x2 : Addr) (kk3 : ClassId) (y4 : Int32) (y5 : Int32) (kk6 : ClassId) : entryFrame m #[(.ref x1), (.int (0 : Int32)), (.ref x2), (.int (0 : Int32)), (.int (2 : Int32))] 7 = mkF m 0 #[.val (.ref x1), .val (.int (0 : Int32)), .val (.ref x2), .val (.int (0 : Int32)), .val (.int (2 : Int32)), .unset, .unset] [] := by first | rfl | (simp [entryFrame, mkF, argsToLocals, Value.category]; done)
set_option maxRecDepth 65536 in
set_option maxHeartbeats 40000000 in
theorem m23_compress (l : Launch) (Z : State) (a0 : Array Value) (hw : ∀ d ∈ tables_1, d.before a0 Z = true) (x1 : Addr) (x2 : Addr) (kk3 : ClassId) (y4 : Int32) (y5 : Int32) (kk6 : ClassId) (h0 : Heap) (n0 : Nat) (Z0 : n0 ≤ h0.size) (O0 : Old Z n0 h0) (P1 : Arv Z h0 x1 kk3 .char (2 : Int32) [(.int y4), (.int y5)] (.int (0 : Int32))) (P2 : ¬ ((255 : Int32) < y4)) (P3 : Arv Z h0 x2 kk6 .byte (2 : Int32) [(.int (0 : Int32)), (.int (0 : Int32))] (.int (0 : Int32))) (P4 : n0 ≤ x2) (P5 : x1 ≠ x2) (P6 : ¬ ((255 : Int32) < y5)) :
    Ctr l Z [] (⟨"java/lang/StringUTF16", "compress", "([CI[BII)I"⟩ : MethodName) jdk_52_method_21_code 7 (some .int) #[(.ref x1), (.int (0 : Int32)), (.ref x2), (.int (0 : Int32)), (.int (2 : Int32))] h0 ({ frames := 0, cells := 0, slots := 0, locals := 0 } : Room) (fun v h L => v = some (.int (2 : Int32)) ∧ Fr n0 L ∧ Keep h0 h [x2] ∧ Arv Z h x2 kk6 .byte (2 : Int32) [(.int (nar .byte (y4.toInt8.toInt32))), (.int (nar .byte (y5.toInt8.toInt32)))] (.int (0 : Int32))) := by
  refine Ctr.of (plainFor_of_name pn_java_lang_StringUTF16) (fun m => ef_m23_compress m x1 x2 kk3 y4 y5 kk6) ?_
  intro p e s m below meth c T0 hx hZ hby hml hown hnm hret hlk X0 e0
  have N0 := Fr.nil n0
  show Rch p e below _ (T0.setTop (mkF m 0 #[.val (.ref x1), .val (.int (0 : Int32)), .val (.ref x2), .val (.int (0 : Int32)), .val (.int (2 : Int32)), .unset, .unset] []))
  refine Rch.go (fun t k => XS.iconst X0.here hx rfl (hb hby d18_0) k) ?_
  show Rch p e below _ (T0.setTop (mkF m 1 #[.val (.ref x1), .val (.int (0 : Int32)), .val (.ref x2), .val (.int (0 : Int32)), .val (.int (2 : Int32)), .unset, .unset] [(.int (0 : Int32))]))
  refine Rch.go (fun t k => XS.istore X0.here hx rfl (hb hby d18_1) rfl  (l' := #[.val (.ref x1), .val (.int (0 : Int32)), .val (.ref x2), .val (.int (0 : Int32)), .val (.int (2 : Int32)), .val (.int (0 : Int32)), .unset]) rfl k) ?_
  show Rch p e below _ (T0.setTop (mkF m 3 #[.val (.ref x1), .val (.int (0 : Int32)), .val (.ref x2), .val (.int (0 : Int32)), .val (.int (2 : Int32)), .val (.int (0 : Int32)), .unset] []))
  refine Rch.go (fun t k => XS.iload X0.here hx rfl (hb hby d18_3) rfl  k) ?_
  show Rch p e below _ (T0.setTop (mkF m 5 #[.val (.ref x1), .val (.int (0 : Int32)), .val (.ref x2), .val (.int (0 : Int32)), .val (.int (2 : Int32)), .val (.int (0 : Int32)), .unset] [(.int (0 : Int32))]))
  refine Rch.go (fun t k => XS.iload X0.here hx rfl (hb hby d18_5) rfl  k) ?_
  show Rch p e below _ (T0.setTop (mkF m 7 #[.val (.ref x1), .val (.int (0 : Int32)), .val (.ref x2), .val (.int (0 : Int32)), .val (.int (2 : Int32)), .val (.int (0 : Int32)), .unset] [(.int (2 : Int32)), (.int (0 : Int32))]))
  refine Rch.go (fun t k => XS.icmpNo X0.here hx rfl (hb hby d18_7) rfl (by decide) k) ?_
  show Rch p e below _ (T0.setTop (mkF m 10 #[.val (.ref x1), .val (.int (0 : Int32)), .val (.ref x2), .val (.int (0 : Int32)), .val (.int (2 : Int32)), .val (.int (0 : Int32)), .unset] []))
  refine Rch.go (fun t k => XS.aloadN X0.here hx rfl (hb hby d18_10) rfl rfl k) ?_
  show Rch p e below _ (T0.setTop (mkF m 11 #[.val (.ref x1), .val (.int (0 : Int32)), .val (.ref x2), .val (.int (0 : Int32)), .val (.int (2 : Int32)), .val (.int (0 : Int32)), .unset] [(.ref x1)]))
  refine Rch.go (fun t k => XS.iloadN X0.here hx rfl (hb hby d18_11) rfl  k) ?_
  show Rch p e below _ (T0.setTop (mkF m 12 #[.val (.ref x1), .val (.int (0 : Int32)), .val (.ref x2), .val (.int (0 : Int32)), .val (.int (2 : Int32)), .val (.int (0 : Int32)), .unset] [(.int (0 : Int32)), (.ref x1)]))
  obtain ⟨c1, r1, q1, s1, u1, H1, G1⟩ := id P1
  refine Rch.go (fun t k => X0.caload hx (j := (0 : Int32)) (v := (.int y4)) (by rw [e0]; exact r1.1) (State.isArrayOf_alike hZ.alike r1.2.1) r1.2.2 (inb_of s1 (by decide)) (H1.at (inb_of s1 (by decide)) rfl) (g := (mkF m 12 #[.val (.ref x1), .val (.int (0 : Int32)), .val (.ref x2), .val (.int (0 : Int32)), .val (.int (2 : Int32)), .val (.int (0 : Int32)), .unset] [(.int (0 : Int32)), (.ref x1)])) rfl rfl (hb hby d18_12) t k) ?_
  show Rch p e below _ (T0.setTop (mkF m 13 #[.val (.ref x1), .val (.int (0 : Int32)), .val (.ref x2), .val (.int (0 : Int32)), .val (.int (2 : Int32)), .val (.int (0 : Int32)), .unset] [(.int y4)]))
  refine Rch.go (fun t k => XS.istore X0.here hx rfl (hb hby d18_13) rfl  (l' := #[.val (.ref x1), .val (.int (0 : Int32)), .val (.ref x2), .val (.int (0 : Int32)), .val (.int (2 : Int32)), .val (.int (0 : Int32)), .val (.int y4)]) rfl k) ?_
  show Rch p e below _ (T0.setTop (mkF m 15 #[.val (.ref x1), .val (.int (0 : Int32)), .val (.ref x2), .val (.int (0 : Int32)), .val (.int (2 : Int32)), .val (.int (0 : Int32)), .val (.int y4)] []))
  refine Rch.go (fun t k => XS.iload X0.here hx rfl (hb hby d18_15) rfl  k) ?_
  show Rch p e below _ (T0.setTop (mkF m 17 #[.val (.ref x1), .val (.int (0 : Int32)), .val (.ref x2), .val (.int (0 : Int32)), .val (.int (2 : Int32)), .val (.int (0 : Int32)), .val (.int y4)] [(.int y4)]))
  refine Rch.go (fun t k => XS.sipush X0.here hx rfl (hb hby d18_17) k) ?_
  show Rch p e below _ (T0.setTop (mkF m 20 #[.val (.ref x1), .val (.int (0 : Int32)), .val (.ref x2), .val (.int (0 : Int32)), .val (.int (2 : Int32)), .val (.int (0 : Int32)), .val (.int y4)] [(.int (255 : Int32)), (.int y4)]))
  refine Rch.go (fun t k => XS.icmpYes X0.here hx rfl (pc0 := 20) (pc' := 26) rfl (hb hby d18_20) rfl (XT.ii_le_t P2) (by decide) (by decide) k) ?_
  show Rch p e below _ (T0.setTop (mkF m 26 #[.val (.ref x1), .val (.int (0 : Int32)), .val (.ref x2), .val (.int (0 : Int32)), .val (.int (2 : Int32)), .val (.int (0 : Int32)), .val (.int y4)] []))
  refine Rch.go (fun t k => XS.aloadN X0.here hx rfl (hb hby d18_26) rfl rfl k) ?_
  show Rch p e below _ (T0.setTop (mkF m 27 #[.val (.ref x1), .val (.int (0 : Int32)), .val (.ref x2), .val (.int (0 : Int32)), .val (.int (2 : Int32)), .val (.int (0 : Int32)), .val (.int y4)] [(.ref x2)]))
  refine Rch.go (fun t k => XS.iloadN X0.here hx rfl (hb hby d18_27) rfl  k) ?_
  show Rch p e below _ (T0.setTop (mkF m 28 #[.val (.ref x1), .val (.int (0 : Int32)), .val (.ref x2), .val (.int (0 : Int32)), .val (.int (2 : Int32)), .val (.int (0 : Int32)), .val (.int y4)] [(.int (0 : Int32)), (.ref x2)]))
  refine Rch.go (fun t k => XS.iload X0.here hx rfl (hb hby d18_28) rfl  k) ?_
  show Rch p e below _ (T0.setTop (mkF m 30 #[.val (.ref x1), .val (.int (0 : Int32)), .val (.ref x2), .val (.int (0 : Int32)), .val (.int (2 : Int32)), .val (.int (0 : Int32)), .val (.int y4)] [(.int y4), (.int (0 : Int32)), (.ref x2)]))
  refine Rch.go (fun t k => XS.i2b X0.here hx rfl (hb hby d18_30) rfl k) ?_
  show Rch p e below _ (T0.setTop (mkF m 31 #[.val (.ref x1), .val (.int (0 : Int32)), .val (.ref x2), .val (.int (0 : Int32)), .val (.int (2 : Int32)), .val (.int (0 : Int32)), .val (.int y4)] [(.int (y4.toInt8.toInt32)), (.int (0 : Int32)), (.ref x2)]))
  obtain ⟨c2, r2, q2, s2, u2, H2, G2⟩ := id P3
  obtain ⟨T3, h3, X3, e3, W3, st3⟩ := stB X0 hx hZ e0 r2 (j := (0 : Int32)) (inb_of s2 (by decide)) (g := (mkF m 31 #[.val (.ref x1), .val (.int (0 : Int32)), .val (.ref x2), .val (.int (0 : Int32)), .val (.int (2 : Int32)), .val (.int (0 : Int32)), .val (.int y4)] [(.int (y4.toInt8.toInt32)), (.int (0 : Int32)), (.ref x2)])) rfl rfl (hb hby d18_31)
  refine Rch.go st3 ?_
  have V3 : Arv Z h3 x2 kk6 .byte (2 : Int32) [(.int (nar .byte (y4.toInt8.toInt32))), (.int (0 : Int32))] (.int (0 : Int32)) := Arv.set r2 q2 s2 u2 H2 G2 (fits_nar_byte _) W3 0 rfl (Nat.le_of_ble_eq_true rfl)
  have z4 : n0 ≤ h3.size := (Nat.le_trans Z0 (Nat.le_of_eq W3.size.symm))
  have o5 := O0.wr W3 P4
  have N3 := Fr.snoc X3 N0 P4
  show Rch p e below _ (T3.setTop (mkF m 32 #[.val (.ref x1), .val (.int (0 : Int32)), .val (.ref x2), .val (.int (0 : Int32)), .val (.int (2 : Int32)), .val (.int (0 : Int32)), .val (.int y4)] []))
  refine Rch.go (fun t k => XS.iinc X3.here hx rfl (hb hby d18_32) rfl (l' := #[.val (.ref x1), .val (.int (1 : Int32)), .val (.ref x2), .val (.int (0 : Int32)), .val (.int (2 : Int32)), .val (.int (0 : Int32)), .val (.int y4)]) rfl k) ?_
  show Rch p e below _ (T3.setTop (mkF m 35 #[.val (.ref x1), .val (.int (1 : Int32)), .val (.ref x2), .val (.int (0 : Int32)), .val (.int (2 : Int32)), .val (.int (0 : Int32)), .val (.int y4)] []))
  refine Rch.go (fun t k => XS.iinc X3.here hx rfl (hb hby d18_35) rfl (l' := #[.val (.ref x1), .val (.int (1 : Int32)), .val (.ref x2), .val (.int (1 : Int32)), .val (.int (2 : Int32)), .val (.int (0 : Int32)), .val (.int y4)]) rfl k) ?_
  show Rch p e below _ (T3.setTop (mkF m 38 #[.val (.ref x1), .val (.int (1 : Int32)), .val (.ref x2), .val (.int (1 : Int32)), .val (.int (2 : Int32)), .val (.int (0 : Int32)), .val (.int y4)] []))
  refine Rch.go (fun t k => XS.iinc X3.here hx rfl (hb hby d18_38) rfl (l' := #[.val (.ref x1), .val (.int (1 : Int32)), .val (.ref x2), .val (.int (1 : Int32)), .val (.int (2 : Int32)), .val (.int (1 : Int32)), .val (.int y4)]) rfl k) ?_
  show Rch p e below _ (T3.setTop (mkF m 41 #[.val (.ref x1), .val (.int (1 : Int32)), .val (.ref x2), .val (.int (1 : Int32)), .val (.int (2 : Int32)), .val (.int (1 : Int32)), .val (.int y4)] []))
  refine Rch.go (fun t k => XS.goto X3.here hx rfl (pc0 := 41) (pc' := 3) rfl (hb hby d18_41) (by decide) (by decide) k) ?_
  show Rch p e below _ (T3.setTop (mkF m 3 #[.val (.ref x1), .val (.int (1 : Int32)), .val (.ref x2), .val (.int (1 : Int32)), .val (.int (2 : Int32)), .val (.int (1 : Int32)), .val (.int y4)] []))
  refine Rch.go (fun t k => XS.iload X3.here hx rfl (hb hby d18_3) rfl  k) ?_
  show Rch p e below _ (T3.setTop (mkF m 5 #[.val (.ref x1), .val (.int (1 : Int32)), .val (.ref x2), .val (.int (1 : Int32)), .val (.int (2 : Int32)), .val (.int (1 : Int32)), .val (.int y4)] [(.int (1 : Int32))]))
  refine Rch.go (fun t k => XS.iload X3.here hx rfl (hb hby d18_5) rfl  k) ?_
  show Rch p e below _ (T3.setTop (mkF m 7 #[.val (.ref x1), .val (.int (1 : Int32)), .val (.ref x2), .val (.int (1 : Int32)), .val (.int (2 : Int32)), .val (.int (1 : Int32)), .val (.int y4)] [(.int (2 : Int32)), (.int (1 : Int32))]))
  refine Rch.go (fun t k => XS.icmpNo X3.here hx rfl (hb hby d18_7) rfl (by decide) k) ?_
  show Rch p e below _ (T3.setTop (mkF m 10 #[.val (.ref x1), .val (.int (1 : Int32)), .val (.ref x2), .val (.int (1 : Int32)), .val (.int (2 : Int32)), .val (.int (1 : Int32)), .val (.int y4)] []))
  refine Rch.go (fun t k => XS.aloadN X3.here hx rfl (hb hby d18_10) rfl rfl k) ?_
  show Rch p e below _ (T3.setTop (mkF m 11 #[.val (.ref x1), .val (.int (1 : Int32)), .val (.ref x2), .val (.int (1 : Int32)), .val (.int (2 : Int32)), .val (.int (1 : Int32)), .val (.int y4)] [(.ref x1)]))
  refine Rch.go (fun t k => XS.iloadN X3.here hx rfl (hb hby d18_11) rfl  k) ?_
  show Rch p e below _ (T3.setTop (mkF m 12 #[.val (.ref x1), .val (.int (1 : Int32)), .val (.ref x2), .val (.int (1 : Int32)), .val (.int (2 : Int32)), .val (.int (1 : Int32)), .val (.int y4)] [(.int (1 : Int32)), (.ref x1)]))
  have f6 := (P1.other W3 P5)
  obtain ⟨c7, r7, q7, s7, u7, H7, G7⟩ := id f6
  refine Rch.go (fun t k => X3.caload hx (j := (1 : Int32)) (v := (.int y5)) (by rw [e3]; exact r7.1) (State.isArrayOf_alike hZ.alike r7.2.1) r7.2.2 (inb_of s7 (by decide)) (H7.at (inb_of s7 (by decide)) rfl) (g := (mkF m 12 #[.val (.ref x1), .val (.int (1 : Int32)), .val (.ref x2), .val (.int (1 : Int32)), .val (.int (2 : Int32)), .val (.int (1 : Int32)), .val (.int y4)] [(.int (1 : Int32)), (.ref x1)])) rfl rfl (hb hby d18_12) t k) ?_
  show Rch p e below _ (T3.setTop (mkF m 13 #[.val (.ref x1), .val (.int (1 : Int32)), .val (.ref x2), .val (.int (1 : Int32)), .val (.int (2 : Int32)), .val (.int (1 : Int32)), .val (.int y4)] [(.int y5)]))
  refine Rch.go (fun t k => XS.istore X3.here hx rfl (hb hby d18_13) rfl  (l' := #[.val (.ref x1), .val (.int (1 : Int32)), .val (.ref x2), .val (.int (1 : Int32)), .val (.int (2 : Int32)), .val (.int (1 : Int32)), .val (.int y5)]) rfl k) ?_
  show Rch p e below _ (T3.setTop (mkF m 15 #[.val (.ref x1), .val (.int (1 : Int32)), .val (.ref x2), .val (.int (1 : Int32)), .val (.int (2 : Int32)), .val (.int (1 : Int32)), .val (.int y5)] []))
  refine Rch.go (fun t k => XS.iload X3.here hx rfl (hb hby d18_15) rfl  k) ?_
  show Rch p e below _ (T3.setTop (mkF m 17 #[.val (.ref x1), .val (.int (1 : Int32)), .val (.ref x2), .val (.int (1 : Int32)), .val (.int (2 : Int32)), .val (.int (1 : Int32)), .val (.int y5)] [(.int y5)]))
  refine Rch.go (fun t k => XS.sipush X3.here hx rfl (hb hby d18_17) k) ?_
  show Rch p e below _ (T3.setTop (mkF m 20 #[.val (.ref x1), .val (.int (1 : Int32)), .val (.ref x2), .val (.int (1 : Int32)), .val (.int (2 : Int32)), .val (.int (1 : Int32)), .val (.int y5)] [(.int (255 : Int32)), (.int y5)]))
  refine Rch.go (fun t k => XS.icmpYes X3.here hx rfl (pc0 := 20) (pc' := 26) rfl (hb hby d18_20) rfl (XT.ii_le_t P6) (by decide) (by decide) k) ?_
  show Rch p e below _ (T3.setTop (mkF m 26 #[.val (.ref x1), .val (.int (1 : Int32)), .val (.ref x2), .val (.int (1 : Int32)), .val (.int (2 : Int32)), .val (.int (1 : Int32)), .val (.int y5)] []))
  refine Rch.go (fun t k => XS.aloadN X3.here hx rfl (hb hby d18_26) rfl rfl k) ?_
  show Rch p e below _ (T3.setTop (mkF m 27 #[.val (.ref x1), .val (.int (1 : Int32)), .val (.ref x2), .val (.int (1 : Int32)), .val (.int (2 : Int32)), .val (.int (1 : Int32)), .val (.int y5)] [(.ref x2)]))
  refine Rch.go (fun t k => XS.iloadN X3.here hx rfl (hb hby d18_27) rfl  k) ?_
  show Rch p e below _ (T3.setTop (mkF m 28 #[.val (.ref x1), .val (.int (1 : Int32)), .val (.ref x2), .val (.int (1 : Int32)), .val (.int (2 : Int32)), .val (.int (1 : Int32)), .val (.int y5)] [(.int (1 : Int32)), (.ref x2)]))
  refine Rch.go (fun t k => XS.iload X3.here hx rfl (hb hby d18_28) rfl  k) ?_
  show Rch p e below _ (T3.setTop (mkF m 30 #[.val (.ref x1), .val (.int (1 : Int32)), .val (.ref x2), .val (.int (1 : Int32)), .val (.int (2 : Int32)), .val (.int (1 : Int32)), .val (.int y5)] [(.int y5), (.int (1 : Int32)), (.ref x2)]))
  refine Rch.go (fun t k => XS.i2b X3.here hx rfl (hb hby d18_30) rfl k) ?_
  show Rch p e below _ (T3.setTop (mkF m 31 #[.val (.ref x1), .val (.int (1 : Int32)), .val (.ref x2), .val (.int (1 : Int32)), .val (.int (2 : Int32)), .val (.int (1 : Int32)), .val (.int y5)] [(.int (y5.toInt8.toInt32)), (.int (1 : Int32)), (.ref x2)]))
  obtain ⟨c8, r8, q8, s8, u8, H8, G8⟩ := id V3
  obtain ⟨T9, h9, X9, e9, W9, st9⟩ := stB X3 hx hZ e3 r8 (j := (1 : Int32)) (inb_of s8 (by decide)) (g := (mkF m 31 #[.val (.ref x1), .val (.int (1 : Int32)), .val (.ref x2), .val (.int (1 : Int32)), .val (.int (2 : Int32)), .val (.int (1 : Int32)), .val (.int y5)] [(.int (y5.toInt8.toInt32)), (.int (1 : Int32)), (.ref x2)])) rfl rfl (hb hby d18_31)
  refine Rch.go st9 ?_
  have V9 : Arv Z h9 x2 kk6 .byte (2 : Int32) [(.int (nar .byte (y4.toInt8.toInt32))), (.int (nar .byte (y5.toInt8.toInt32)))] (.int (0 : Int32)) := Arv.set r8 q8 s8 u8 H8 G8 (fits_nar_byte _) W9 1 rfl (Nat.le_of_ble_eq_true rfl)
  have z10 : n0 ≤ h9.size := (Nat.le_trans z4 (Nat.le_of_eq W9.size.symm))
  have o11 := o5.wr W9 P4
  have N9 := Fr.snoc X9 N3 P4
  show Rch p e below _ (T9.setTop (mkF m 32 #[.val (.ref x1), .val (.int (1 : Int32)), .val (.ref x2), .val (.int (1 : Int32)), .val (.int (2 : Int32)), .val (.int (1 : Int32)), .val (.int y5)] []))
  refine Rch.go (fun t k => XS.iinc X9.here hx rfl (hb hby d18_32) rfl (l' := #[.val (.ref x1), .val (.int (2 : Int32)), .val (.ref x2), .val (.int (1 : Int32)), .val (.int (2 : Int32)), .val (.int (1 : Int32)), .val (.int y5)]) rfl k) ?_
  show Rch p e below _ (T9.setTop (mkF m 35 #[.val (.ref x1), .val (.int (2 : Int32)), .val (.ref x2), .val (.int (1 : Int32)), .val (.int (2 : Int32)), .val (.int (1 : Int32)), .val (.int y5)] []))
  refine Rch.go (fun t k => XS.iinc X9.here hx rfl (hb hby d18_35) rfl (l' := #[.val (.ref x1), .val (.int (2 : Int32)), .val (.ref x2), .val (.int (2 : Int32)), .val (.int (2 : Int32)), .val (.int (1 : Int32)), .val (.int y5)]) rfl k) ?_
  show Rch p e below _ (T9.setTop (mkF m 38 #[.val (.ref x1), .val (.int (2 : Int32)), .val (.ref x2), .val (.int (2 : Int32)), .val (.int (2 : Int32)), .val (.int (1 : Int32)), .val (.int y5)] []))
  refine Rch.go (fun t k => XS.iinc X9.here hx rfl (hb hby d18_38) rfl (l' := #[.val (.ref x1), .val (.int (2 : Int32)), .val (.ref x2), .val (.int (2 : Int32)), .val (.int (2 : Int32)), .val (.int (2 : Int32)), .val (.int y5)]) rfl k) ?_
  show Rch p e below _ (T9.setTop (mkF m 41 #[.val (.ref x1), .val (.int (2 : Int32)), .val (.ref x2), .val (.int (2 : Int32)), .val (.int (2 : Int32)), .val (.int (2 : Int32)), .val (.int y5)] []))
  refine Rch.go (fun t k => XS.goto X9.here hx rfl (pc0 := 41) (pc' := 3) rfl (hb hby d18_41) (by decide) (by decide) k) ?_
  show Rch p e below _ (T9.setTop (mkF m 3 #[.val (.ref x1), .val (.int (2 : Int32)), .val (.ref x2), .val (.int (2 : Int32)), .val (.int (2 : Int32)), .val (.int (2 : Int32)), .val (.int y5)] []))
  refine Rch.go (fun t k => XS.iload X9.here hx rfl (hb hby d18_3) rfl  k) ?_
  show Rch p e below _ (T9.setTop (mkF m 5 #[.val (.ref x1), .val (.int (2 : Int32)), .val (.ref x2), .val (.int (2 : Int32)), .val (.int (2 : Int32)), .val (.int (2 : Int32)), .val (.int y5)] [(.int (2 : Int32))]))
  refine Rch.go (fun t k => XS.iload X9.here hx rfl (hb hby d18_5) rfl  k) ?_
  show Rch p e below _ (T9.setTop (mkF m 7 #[.val (.ref x1), .val (.int (2 : Int32)), .val (.ref x2), .val (.int (2 : Int32)), .val (.int (2 : Int32)), .val (.int (2 : Int32)), .val (.int y5)] [(.int (2 : Int32)), (.int (2 : Int32))]))
  refine Rch.go (fun t k => XS.icmpYes X9.here hx rfl (pc0 := 7) (pc' := 44) rfl (hb hby d18_7) rfl (by decide) (by decide) (by decide) k) ?_
  show Rch p e below _ (T9.setTop (mkF m 44 #[.val (.ref x1), .val (.int (2 : Int32)), .val (.ref x2), .val (.int (2 : Int32)), .val (.int (2 : Int32)), .val (.int (2 : Int32)), .val (.int y5)] []))
  refine Rch.go (fun t k => XS.iload X9.here hx rfl (hb hby d18_44) rfl  k) ?_
  show Rch p e below _ (T9.setTop (mkF m 46 #[.val (.ref x1), .val (.int (2 : Int32)), .val (.ref x2), .val (.int (2 : Int32)), .val (.int (2 : Int32)), .val (.int (2 : Int32)), .val (.int y5)] [(.int (2 : Int32))]))
  refine Rch.val X9 hx (t := .int) hret hlk rfl (mayI (by simp)) (hb hby d18_46) (by decide) (by decide) ?_
  try rw [e9]
  exact ⟨rfl, N9, (((Keep.refl _ _).wr W3 (Or.inl (List.mem_of_getElem? (i := 0) rfl))).wr W9 (Or.inl (List.mem_of_getElem? (i := 0) rfl))), V9⟩
theorem wd_127 {Z : State} {a0 : Array Value} (hw : ∀ d ∈ tables_1, d.before a0 Z = true) : (Jvm.Cond.code ({ cls := "java/lang/StringUTF16", name := "compress", desc := "([CI[BII)I" } : Jvm.MethodName) jdk_52_method_21_code (7 : Nat) (Option.some Jvm.ClassFile.FieldType.int)).before a0 Z = true := hw _ (List.mem_of_getElem? (i := 127) rfl)
theorem wd_122 {Z : State} {a0 : Array Value} (hw : ∀ d ∈ tables_1, d.before a0 Z = true) : (Jvm.Cond.initialized "java/lang/StringUTF16").before a0 Z = true := hw _ (List.mem_of_getElem? (i := 122) rfl)
theorem pd_11 : parseMethodDescriptor "([CI[BII)I" = some ⟨[(.array .char), .int, (.array .byte), .int, .int], some .int⟩ := by decide +kernel
theorem wd_126 {Z : State} {a0 : Array Value} (hw : ∀ d ∈ tables_1, d.before a0 Z = true) : (Jvm.Cond.static ({ cls := "java/lang/StringUTF16", name := "compress", desc := "([CI[BII)I" } : Jvm.MethodName)).before a0 Z = true := hw _ (List.mem_of_getElem? (i := 126) rfl)
theorem d17_12 : decode jdk_52_method_16_code 12 = .ok (.istore 4, 2) := by decide +kernel
theorem d17_14 : decode jdk_52_method_16_code 14 = .ok (.iload 4, 2) := by decide +kernel
theorem d17_16 : decode jdk_52_method_16_code 16 = .ok (.iload_n 2, 1) := by decide +kernel
theorem d17_17 : decode jdk_52_method_16_code 17 = .ok (.if_icmp .eq 40, 3) := by decide +kernel
theorem d17_57 : decode jdk_52_method_16_code 57 = .ok (.aload_n 3, 1) := by decide +kernel
theorem d17_58 : decode jdk_52_method_16_code 58 = .ok (.areturn, 1) := by decide +kernel
set_option maxRecDepth 65536 in
set_option maxHeartbeats 4000000 in
theorem ef_m22_compress (m : MethodId) (x1 : Addr) (kk2 : ClassId) (y3 : Int32) (y4 : Int32) : entryFrame m #[(.ref x1), (.int (0 : Int32)), (.int (2 : Int32))] 6 = mkF m 0 #[.val (.ref x1), .val (.int (0 : Int32)), .val (.int (2 : Int32)), .unset, .unset, .unset] [] := by first | rfl | (simp [entryFrame, mkF, argsToLocals, Value.category]; done)
set_option maxRecDepth 65536 in
set_option maxHeartbeats 40000000 in
theorem m22_compress (l : Launch) (Z : State) (a0 : Array Value) (hw : ∀ d ∈ tables_1, d.before a0 Z = true) (x1 : Addr) (kk2 : ClassId) (y3 : Int32) (y4 : Int32) (h0 : Heap) (n0 : Nat) (Z0 : n0 ≤ h0.size) (O0 : Old Z n0 h0) (P1 : Arv Z h0 x1 kk2 .char (2 : Int32) [(.int y3), (.int y4)] (.int (0 : Int32))) (P2 : ¬ ((255 : Int32) < y3)) (P3 : ¬ ((255 : Int32) < y4)) :
    Ctr l Z [] (⟨"java/lang/StringUTF16", "compress", "([CII)[B"⟩ : MethodName) jdk_52_method_16_code 6 (some (.array .byte)) #[(.ref x1), (.int (0 : Int32)), (.int (2 : Int32))] h0 ({ frames := 1, cells := 1, slots := 2, locals := 18 } : Room) (fun v h L => ∃ (b1 : Addr) (k1 : ClassId), v = some (.ref b1) ∧ Fr n0 L ∧ Keep h0 h [] ∧ h0.size ≤ b1 ∧ Exa Z h b1 "[B" ∧ Arv Z h b1 k1 .byte (2 : Int32) [(.int (nar .byte (y3.toInt8.toInt32))), (.int (nar .byte (y4.toInt8.toInt32)))] (.int (0 : Int32))) := by
  refine Ctr.of (plainFor_of_name pn_java_lang_StringUTF16) (fun m => ef_m22_compress m x1 kk2 y3 y4) ?_
  intro p e s m below meth c T0 hx hZ hby hml hown hnm hret hlk X0 e0
  have N0 := Fr.nil n0
  show Rch p e below _ (T0.setTop (mkF m 0 #[.val (.ref x1), .val (.int (0 : Int32)), .val (.int (2 : Int32)), .unset, .unset, .unset] []))
  refine Rch.go (fun t k => XS.iloadN X0.here hx rfl (hb hby d17_0) rfl  k) ?_
  show Rch p e below _ (T0.setTop (mkF m 1 #[.val (.ref x1), .val (.int (0 : Int32)), .val (.int (2 : Int32)), .unset, .unset, .unset] [(.int (2 : Int32))]))
  obtain ⟨T1, h1, k1, X1, e1, E1, A1, B1, st1⟩ := newPE (aty := .byte) X0 hx hZ (wd_124 hw) e0 (g := (mkF m 1 #[.val (.ref x1), .val (.int (0 : Int32)), .val (.int (2 : Int32)), .unset, .unset, .unset] [(.int (2 : Int32))])) rfl (hb hby d17_1) rfl (by decide) (cap := 2) (by decide) (by decide) (by decide) (by decide) (ad := "[B") (by decide +kernel)
  obtain ⟨b1, g1⟩ : ∃ z, z = h0.size := ⟨_, rfl⟩
  rw [← g1] at A1 B1 st1
  refine Rch.go st1 ?_
  have z2 : n0 ≤ h1.size := (Nat.le_trans Z0 E1.1)
  have o3 := O0.ext E1
  have g_b1 : n0 ≤ b1 := Nat.le_trans Z0 (Nat.le_of_eq g1.symm)
  have V1 : Arv Z h1 b1 k1 .byte (2 : Int32) [(.int (0 : Int32)), (.int (0 : Int32))] (.int (0 : Int32)) := (Arv.new A1 (by decide)).pad (pad_rep [] (.int (0 : Int32)) 2)
  show Rch p e below _ (T1.setTop (mkF m 3 #[.val (.ref x1), .val (.int (0 : Int32)), .val (.int (2 : Int32)), .unset, .unset, .unset] [(.ref b1)]))
  refine Rch.go (fun t k => XS.astoreN X1.here hx rfl (hb hby d17_3) rfl rfl (l' := #[.val (.ref x1), .val (.int (0 : Int32)), .val (.int (2 : Int32)), .val (.ref b1), .unset, .unset]) rfl k) ?_
  show Rch p e below _ (T1.setTop (mkF m 4 #[.val (.ref x1), .val (.int (0 : Int32)), .val (.int (2 : Int32)), .val (.ref b1), .unset, .unset] []))
  refine Rch.go (fun t k => XS.aloadN X1.here hx rfl (hb hby d17_4) rfl rfl k) ?_
  show Rch p e below _ (T1.setTop (mkF m 5 #[.val (.ref x1), .val (.int (0 : Int32)), .val (.int (2 : Int32)), .val (.ref b1), .unset, .unset] [(.ref x1)]))
  refine Rch.go (fun t k => XS.iloadN X1.here hx rfl (hb hby d17_5) rfl  k) ?_
  show Rch p e below _ (T1.setTop (mkF m 6 #[.val (.ref x1), .val (.int (0 : Int32)), .val (.int (2 : Int32)), .val (.ref b1), .unset, .unset] [(.int (0 : Int32)), (.ref x1)]))
  refine Rch.go (fun t k => XS.aloadN X1.here hx rfl (hb hby d17_6) rfl rfl k) ?_
  show Rch p e below _ (T1.setTop (mkF m 7 #[.val (.ref x1), .val (.int (0 : Int32)), .val (.int (2 : Int32)), .val (.ref b1), .unset, .unset] [(.ref b1), (.int (0 : Int32)), (.ref x1)]))
  refine Rch.go (fun t k => XS.iconst X1.here hx rfl (hb hby d17_7) k) ?_
  show Rch p e below _ (T1.setTop (mkF m 8 #[.val (.ref x1), .val (.int (0 : Int32)), .val (.int (2 : Int32)), .val (.ref b1), .unset, .unset] [(.int (0 : Int32)), (.ref b1), (.int (0 : Int32)), (.ref x1)]))
  refine Rch.go (fun t k => XS.iloadN X1.here hx rfl (hb hby d17_8) rfl  k) ?_
  show Rch p e below _ (T1.setTop (mkF m 9 #[.val (.ref x1), .val (.int (0 : Int32)), .val (.int (2 : Int32)), .val (.ref b1), .unset, .unset] [(.int (2 : Int32)), (.int (0 : Int32)), (.ref b1), (.int (0 : Int32)), (.ref x1)]))
  have f4 := (P1.ext E1)
  have lt5 := P1.lt
  have ne6 : x1 ≠ b1 := Nat.ne_of_lt (Nat.lt_of_lt_of_le lt5 (Nat.le_of_eq g1.symm))
  obtain ⟨v7, T7, L7, X7, Q7, st7⟩ := callSt X1 hx hZ (m23_compress l Z a0 hw x1 b1 kk2 y3 y4 k1 h1 n0 z2 o3 f4 P2 V1 g_b1 ne6 P3) e1 hown (wd_125 hw) (wd_126 hw) (wd_127 hw) (wd_122 hw) (by decide) (hb hby d17_9) 0 (by decide) (by decide) (by decide) (by decide) (by rw [hml]; rfl) [(.ref x1), (.int (0 : Int32)), (.ref b1), (.int (0 : Int32)), (.int (2 : Int32))] [] rfl (lenOf pd_11 rfl) rfl (Nat.le_of_eq rfl) (Ls := #[.val (.ref x1), .val (.int (0 : Int32)), .val (.int (2 : Int32)), .val (.ref b1), .unset, .unset])
  obtain ⟨rfl, M7, K7, F7_0⟩ := Q7
  have N7 := Fr.app N0 M7
  refine Rch.go st7 ?_
  have z8 : n0 ≤ T7.heap.size := (Nat.le_trans z2 K7.1)
  have o9 := o3.keep K7 (allS g_b1 all0)
  show Rch p e below _ (T7.setTop (mkF m 12 #[.val (.ref x1), .val (.int (0 : Int32)), .val (.int (2 : Int32)), .val (.ref b1), .unset, .unset] [(.int (2 : Int32))]))
  refine Rch.go (fun t k => XS.istore X7.here hx rfl (hb hby d17_12) rfl  (l' := #[.val (.ref x1), .val (.int (0 : Int32)), .val (.int (2 : Int32)), .val (.ref b1), .val (.int (2 : Int32)), .unset]) rfl k) ?_
  show Rch p e below _ (T7.setTop (mkF m 14 #[.val (.ref x1), .val (.int (0 : Int32)), .val (.int (2 : Int32)), .val (.ref b1), .val (.int (2 : Int32)), .unset] []))
  refine Rch.go (fun t k => XS.iload X7.here hx rfl (hb hby d17_14) rfl  k) ?_
  show Rch p e below _ (T7.setTop (mkF m 16 #[.val (.ref x1), .val (.int (0 : Int32)), .val (.int (2 : Int32)), .val (.ref b1), .val (.int (2 : Int32)), .unset] [(.int (2 : Int32))]))
  refine Rch.go (fun t k => XS.iloadN X7.here hx rfl (hb hby d17_16) rfl  k) ?_
  show Rch p e below _ (T7.setTop (mkF m 17 #[.val (.ref x1), .val (.int (0 : Int32)), .val (.int (2 : Int32)), .val (.ref b1), .val (.int (2 : Int32)), .unset] [(.int (2 : Int32)), (.int (2 : Int32))]))
  refine Rch.go (fun t k => XS.icmpYes X7.here hx rfl (pc0 := 17) (pc' := 57) rfl (hb hby d17_17) rfl (by decide) (by decide) (by decide) k) ?_
  show Rch p e below _ (T7.setTop (mkF m 57 #[.val (.ref x1), .val (.int (0 : Int32)), .val (.int (2 : Int32)), .val (.ref b1), .val (.int (2 : Int32)), .unset] []))
  refine Rch.go (fun t k => XS.aloadN X7.here hx rfl (hb hby d17_57) rfl rfl k) ?_
  show Rch p e below _ (T7.setTop (mkF m 58 #[.val (.ref x1), .val (.int (0 : Int32)), .val (.int (2 : Int32)), .val (.ref b1), .val (.int (2 : Int32)), .unset] [(.ref b1)]))
  have f10 := (B1.keep K7)
  refine Rch.val X7 hx (t := (.array .byte)) hret hlk rfl (Or.inr (Or.inr (Or.inr (Or.inr ⟨rfl, rfl, rfl⟩)))) (hb hby d17_58) (by decide) (by decide) ?_
  exact ⟨b1, k1, rfl, N7, (((Keep.refl _ _).ext E1).trans K7 (allS (Or.inr (Nat.le_trans (Nat.le_refl _) (Nat.le_of_eq g1.symm))) all0)), (Nat.le_trans (Nat.le_refl _) (Nat.le_of_eq g1.symm)), f10, F7_0⟩
theorem wd_123 {Z : State} {a0 : Array Value} (hw : ∀ d ∈ tables_1, d.before a0 Z = true) : (Jvm.Cond.code ({ cls := "java/lang/StringUTF16", name := "compress", desc := "([CII)[B" } : Jvm.MethodName) jdk_52_method_16_code (6 : Nat) (Option.some (Jvm.ClassFile.FieldType.array Jvm.ClassFile.FieldType.byte))).before a0 Z = true := hw _ (List.mem_of_getElem? (i := 123) rfl)
theorem pd_12 : parseMethodDescriptor "([CII)[B" = some ⟨[(.array .char), .int, .int], some (.array .byte)⟩ := by decide +kernel
theorem wd_121 {Z : State} {a0 : Array Value} (hw : ∀ d ∈ tables_1, d.before a0 Z = true) : (Jvm.Cond.static ({ cls := "java/lang/StringUTF16", name := "compress", desc := "([CII)[B" } : Jvm.MethodName)).before a0 Z = true := hw _ (List.mem_of_getElem? (i := 121) rfl)
theorem d16_39 : decode jdk_42_method_149_code 39 = .ok (.astore 5, 2) := by decide +kernel
theorem d16_41 : decode jdk_42_method_149_code 41 = .ok (.aload_n 0, 1) := by decide +kernel
theorem d16_42 : decode jdk_42_method_149_code 42 = .ok (.aload 5, 2) := by decide +kernel
theorem d16_44 : decode jdk_42_method_149_code 44 = .ok (.iload_n 3, 1) := by decide +kernel
theorem d16_45 : decode jdk_42_method_149_code 45 = .ok (.invokestatic 47, 3) := by decide +kernel
theorem wd_128 {Z : State} {a0 : Array Value} (hw : ∀ d ∈ tables_1, d.before a0 Z = true) : (Jvm.Cond.methodLink "java/lang/String" (47 : Nat) ({ cls := "java/lang/StringUTF16", name := "coderFromArrayLen", desc := "([BI)B" } : Jvm.MethodName)).before a0 Z = true := hw _ (List.mem_of_getElem? (i := 128) rfl)
theorem d19_0 : decode jdk_52_method_15_code 0 = .ok (.iload_n 1, 1) := by decide +kernel
theorem d19_1 : decode jdk_52_method_15_code 1 = .ok (.aload_n 0, 1) := by decide +kernel
theorem d19_2 : decode jdk_52_method_15_code 2 = .ok (.arraylength, 1) := by decide +kernel
theorem d19_3 : decode jdk_52_method_15_code 3 = .ok (.isub, 1) := by decide +kernel
theorem d19_4 : decode jdk_52_method_15_code 4 = .ok (.bipush 31, 2) := by decide +kernel
theorem d19_6 : decode jdk_52_method_15_code 6 = .ok (.iushr, 1) := by decide +kernel
theorem d19_7 : decode jdk_52_method_15_code 7 = .ok (.i2b, 1) := by decide +kernel
theorem d19_8 : decode jdk_52_method_15_code 8 = .ok (.ireturn, 1) := by decide +kernel
set_option maxRecDepth 65536 in
set_option maxHeartbeats 4000000 in
theorem ef_m24_coderFromArrayLen (m : MethodId) (x1 : Addr) (kk2 : ClassId) (y3 : Int32) (y4 : Int32) : entryFrame m #[(.ref x1), (.int (2 : Int32))] 2 = mkF m 0 #[.val (.ref x1), .val (.int (2 : Int32))] [] := by first | rfl | (simp [entryFrame, mkF, argsToLocals, Value.category]; done)
set_option maxRecDepth 65536 in
set_option maxHeartbeats 40000000 in
theorem m24_coderFromArrayLen (l : Launch) (Z : State) (a0 : Array Value) (hw : ∀ d ∈ tables_1, d.before a0 Z = true) (x1 : Addr) (kk2 : ClassId) (y3 : Int32) (y4 : Int32) (h0 : Heap) (n0 : Nat) (Z0 : n0 ≤ h0.size) (O0 : Old Z n0 h0) (P1 : Arv Z h0 x1 kk2 .byte (2 : Int32) [(.int y3), (.int y4)] (.int (0 : Int32))) :
    Ctr l Z [] (⟨"java/lang/StringUTF16", "coderFromArrayLen", "([BI)B"⟩ : MethodName) jdk_52_method_15_code 2 (some .byte) #[(.ref x1), (.int (2 : Int32))] h0 ({ frames := 0, cells := 0, slots := 0, locals := 0 } : Room) (fun v h L => v = some (.int (0 : Int32)) ∧ Fr n0 L ∧ h = h0) := by
  refine Ctr.of (plainFor_of_name pn_java_lang_StringUTF16) (fun m => ef_m24_coderFromArrayLen m x1 kk2 y3 y4) ?_
  intro p e s m below meth c T0 hx hZ hby hml hown hnm hret hlk X0 e0
  have N0 := Fr.nil n0
  show Rch p e below _ (T0.setTop (mkF m 0 #[.val (.ref x1), .val (.int (2 : Int32))] []))
  refine Rch.go (fun t k => XS.iloadN X0.here hx rfl (hb hby d19_0) rfl  k) ?_
  show Rch p e below _ (T0.setTop (mkF m 1 #[.val (.ref x1), .val (.int (2 : Int32))] [(.int (2 : Int32))]))
  refine Rch.go (fun t k => XS.aloadN X0.here hx rfl (hb hby d19_1) rfl rfl k) ?_
  show Rch p e below _ (T0.setTop (mkF m 2 #[.val (.ref x1), .val (.int (2 : Int32))] [(.ref x1), (.int (2 : Int32))]))
  obtain ⟨c1, r1, q1, s1, u1, H1, G1⟩ := id P1
  refine Rch.go (fun t k => X0.arraylength hx (by rw [e0]; exact r1.1) (State.isArrayOf_alike hZ.alike r1.2.1) (g := (mkF m 2 #[.val (.ref x1), .val (.int (2 : Int32))] [(.ref x1), (.int (2 : Int32))])) rfl rfl (hb hby d19_2) t (by rw [len_of s1 u1]; exact k)) ?_
  show Rch p e below _ (T0.setTop (mkF m 3 #[.val (.ref x1), .val (.int (2 : Int32))] [(.int (2 : Int32)), (.int (2 : Int32))]))
  refine Rch.go (fun t k => XS.isub X0.here hx rfl (hb hby d19_3) rfl k) ?_
  show Rch p e below _ (T0.setTop (mkF m 4 #[.val (.ref x1), .val (.int (2 : Int32))] [(.int (0 : Int32))]))
  refine Rch.go (fun t k => XS.bipush X0.here hx rfl (hb hby d19_4) k) ?_
  show Rch p e below _ (T0.setTop (mkF m 6 #[.val (.ref x1), .val (.int (2 : Int32))] [(.int (31 : Int32)), (.int (0 : Int32))]))
  refine Rch.go (fun t k => XS.iushr X0.here hx rfl (hb hby d19_6) rfl k) ?_
  show Rch p e below _ (T0.setTop (mkF m 7 #[.val (.ref x1), .val (.int (2 : Int32))] [(.int (0 : Int32))]))
  refine Rch.go (fun t k => XS.i2b X0.here hx rfl (hb hby d19_7) rfl k) ?_
  show Rch p e below _ (T0.setTop (mkF m 8 #[.val (.ref x1), .val (.int (2 : Int32))] [(.int (0 : Int32))]))
  refine Rch.val X0 hx (t := .byte) hret hlk rfl (mayI (by simp)) (hb hby d19_8) (by decide) (by decide) ?_
  try rw [e0]
  exact ⟨rfl, N0, rfl⟩
theorem wd_130 {Z : State} {a0 : Array Value} (hw : ∀ d ∈ tables_1, d.before a0 Z = true) : (Jvm.Cond.code ({ cls := "java/lang/StringUTF16", name := "coderFromArrayLen", desc := "([BI)B" } : Jvm.MethodName) jdk_52_method_15_code (2 : Nat) (Option.some Jvm.ClassFile.FieldType.byte)).before a0 Z = true := hw _ (List.mem_of_getElem? (i := 130) rfl)
theorem pd_13 : parseMethodDescriptor "([BI)B" = some ⟨[(.array .byte), .int], some .byte⟩ := by decide +kernel
theorem wd_129 {Z : State} {a0 : Array Value} (hw : ∀ d ∈ tables_1, d.before a0 Z = true) : (Jvm.Cond.static ({ cls := "java/lang/StringUTF16", name := "coderFromArrayLen", desc := "([BI)B" } : Jvm.MethodName)).before a0 Z = true := hw _ (List.mem_of_getElem? (i := 129) rfl)
theorem d16_48 : decode jdk_42_method_149_code 48 = .ok (.putfield 15, 3) := by decide +kernel
theorem wd_131 {Z : State} {a0 : Array Value} (hw : ∀ d ∈ tables_1, d.before a0 Z = true) : (Jvm.Cond.fieldLink "java/lang/String" (15 : Nat) "java/lang/String" "coder" "B").before a0 Z = true := hw _ (List.mem_of_getElem? (i := 131) rfl)
theorem d16_51 : decode jdk_42_method_149_code 51 = .ok (.aload_n 0, 1) := by decide +kernel
theorem d16_52 : decode jdk_42_method_149_code 52 = .ok (.aload 5, 2) := by decide +kernel
theorem d16_54 : decode jdk_42_method_149_code 54 = .ok (.putfield 9, 3) := by decide +kernel
theorem wd_133 {Z : State} {a0 : Array Value} (hw : ∀ d ∈ tables_1, d.before a0 Z = true) : (Jvm.Cond.fieldLink "java/lang/String" (9 : Nat) "java/lang/String" "value" "[B").before a0 Z = true := hw _ (List.mem_of_getElem? (i := 133) rfl)
theorem d16_57 : decode jdk_42_method_149_code 57 = .ok (.return_, 1) := by decide +kernel
theorem pn_java_lang_String : plainName "java/lang/String" = true := by first | (simp [plainName, overriddenIn]; done) | decide +kernel
set_option maxRecDepth 65536 in
set_option maxHeartbeats 4000000 in
theorem ef_m21_init (m : MethodId) (x1 : Addr) (x2 : Addr) (y3 : Int32) (kk4 : ClassId) (y5 : Int32) (y6 : Int32) : entryFrame m #[(.ref x1), (.ref x2), (.int (0 : Int32)), (.int (2 : Int32)), .null] 6 = mkF m 0 #[.val (.ref x1), .val (.ref x2), .val (.int (0 : Int32)), .val (.int (2 : Int32)), .val .null, .unset] [] := by first | rfl | (simp [entryFrame, mkF, argsToLocals, Value.category]; done)
set_option maxRecDepth 65536 in
set_option maxHeartbeats 40000000 in
theorem m21_init (l : Launch) (Z : State) (a0 : Array Value) (hw : ∀ d ∈ tables_1, d.before a0 Z = true) (x1 : Addr) (x2 : Addr) (y3 : Int32) (kk4 : ClassId) (y5 : Int32) (y6 : Int32) (h0 : Heap) (n0 : Nat) (Z0 : n0 ≤ h0.size) (O0 : Old Z n0 h0) (P1 : Sta Z Z.heap "java/lang/String" "COMPACT_STRINGS" "Z" (.int y3)) (P2 : ¬ (y3 = (0 : Int32))) (P3 : Arv Z h0 x2 kk4 .char (2 : Int32) [(.int y5), (.int y6)] (.int (0 : Int32))) (P4 : ¬ ((255 : Int32) < y5)) (P5 : ¬ ((255 : Int32) < y6)) (P6 : Exa Z h0 x1 "java/lang/String") (P7 : Fld Z h0 x1 "java/lang/String" "coder" "B" (.int (0 : Int32))) (P8 : n0 ≤ x1) (P9 : Fld Z h0 x1 "java/lang/String" "value" "[B" .null) :
    Ctr l Z [] (⟨"java/lang/String", "<init>", "([CIILjava/lang/Void;)V"⟩ : MethodName) jdk_42_method_149_code 6 none #[(.ref x1), (.ref x2), (.int (0 : Int32)), (.int (2 : Int32)), .null] h0 ({ frames := 2, cells := 1, slots := 2, locals := 35 } : Room) (fun v h L => ∃ (b3_0 : Addr) (k3_0 : ClassId), v = none ∧ Fr n0 L ∧ Keep h0 h [x1] ∧ h0.size ≤ b3_0 ∧ Exa Z h b3_0 "[B" ∧ Arv Z h b3_0 k3_0 .byte (2 : Int32) [(.int (nar .byte (y5.toInt8.toInt32))), (.int (nar .byte (y6.toInt8.toInt32)))] (.int (0 : Int32)) ∧ Fld Z h x1 "java/lang/String" "coder" "B" (.int (0 : Int32)) ∧ Fld Z h x1 "java/lang/String" "value" "[B" (.ref b3_0)) := by
  refine Ctr.of (plainFor_of_name pn_java_lang_String) (fun m => ef_m21_init m x1 x2 y3 kk4 y5 y6) ?_
  intro p e s m below meth c T0 hx hZ hby hml hown hnm hret hlk X0 e0
  have N0 := Fr.nil n0
  show Rch p e below _ (T0.setTop (mkF m 0 #[.val (.ref x1), .val (.ref x2), .val (.int (0 : Int32)), .val (.int (2 : Int32)), .val .null, .unset] []))
  refine Rch.go (fun t k => XS.aloadN X0.here hx rfl (hb hby d16_0) rfl rfl k) ?_
  show Rch p e below _ (T0.setTop (mkF m 1 #[.val (.ref x1), .val (.ref x2), .val (.int (0 : Int32)), .val (.int (2 : Int32)), .val .null, .unset] [(.ref x1)]))
  obtain ⟨T1, X1, e1, st1⟩ := initO X0 hx hZ hown (wd_118 hw) (wd_20 hw) (wd_21 hw) e0 (g := (mkF m 1 #[.val (.ref x1), .val (.ref x2), .val (.int (0 : Int32)), .val (.int (2 : Int32)), .val .null, .unset] [(.ref x1)])) rfl (by rw [hml]; rfl) rfl (hb hby d16_1) (by decide) (W := 0) (by show 2 * 0 + _ ≤ _; exact Nat.le_of_eq rfl) (by decide)
  refine Rch.go st1 ?_
  show Rch p e below _ (T1.setTop (mkF m 4 #[.val (.ref x1), .val (.ref x2), .val (.int (0 : Int32)), .val (.int (2 : Int32)), .val .null, .unset] []))
  refine Rch.go (fun t k => XS.iloadN X1.here hx rfl (hb hby d16_4) rfl  k) ?_
  show Rch p e below _ (T1.setTop (mkF m 5 #[.val (.ref x1), .val (.ref x2), .val (.int (0 : Int32)), .val (.int (2 : Int32)), .val .null, .unset] [(.int (2 : Int32))]))
  refine Rch.go (fun t k => XS.ifYes X1.here hx rfl (pc0 := 5) (pc' := 27) rfl (hb hby d16_5) rfl (by decide) (by decide) (by decide) k) ?_
  show Rch p e below _ (T1.setTop (mkF m 27 #[.val (.ref x1), .val (.ref x2), .val (.int (0 : Int32)), .val (.int (2 : Int32)), .val .null, .unset] []))
  obtain ⟨T2, X2, e2, st2⟩ := getS2 X1 hx hZ hown (host := "") (Or.inl (wd_119 hw)) Via.refl e1 (P1.ext O0.2) (g := (mkF m 27 #[.val (.ref x1), .val (.ref x2), .val (.int (0 : Int32)), .val (.int (2 : Int32)), .val .null, .unset] [])) rfl (hb hby d16_27)
  refine Rch.go st2 ?_
  show Rch p e below _ (T2.setTop (mkF m 30 #[.val (.ref x1), .val (.ref x2), .val (.int (0 : Int32)), .val (.int (2 : Int32)), .val .null, .unset] [(.int y3)]))
  refine Rch.go (fun t k => XS.ifNo X2.here hx rfl (hb hby d16_30) rfl (XT.i0_eq_f P2) k) ?_
  show Rch p e below _ (T2.setTop (mkF m 33 #[.val (.ref x1), .val (.ref x2), .val (.int (0 : Int32)), .val (.int (2 : Int32)), .val .null, .unset] []))
  refine Rch.go (fun t k => XS.aloadN X2.here hx rfl (hb hby d16_33) rfl rfl k) ?_
  show Rch p e below _ (T2.setTop (mkF m 34 #[.val (.ref x1), .val (.ref x2), .val (.int (0 : Int32)), .val (.int (2 : Int32)), .val .null, .unset] [(.ref x2)]))
  refine Rch.go (fun t k => XS.iloadN X2.here hx rfl (hb hby d16_34) rfl  k) ?_
  show Rch p e below _ (T2.setTop (mkF m 35 #[.val (.ref x1), .val (.ref x2), .val (.int (0 : Int32)), .val (.int (2 : Int32)), .val .null, .unset] [(.int (0 : Int32)), (.ref x2)]))
  refine Rch.go (fun t k => XS.iloadN X2.here hx rfl (hb hby d16_35) rfl  k) ?_
  show Rch p e below _ (T2.setTop (mkF m 36 #[.val (.ref x1), .val (.ref x2), .val (.int (0 : Int32)), .val (.int (2 : Int32)), .val .null, .unset] [(.int (2 : Int32)), (.int (0 : Int32)), (.ref x2)]))
  obtain ⟨v3, T3, L3, X3, Q3, st3⟩ := callSt X2 hx hZ (m22_compress l Z a0 hw x2 kk4 y5 y6 h0 n0 Z0 O0 P3 P4 P5) e2 hown (wd_120 hw) (wd_121 hw) (wd_123 hw) (wd_122 hw) (by decide) (hb hby d16_36) 0 (by decide) (by decide) (by decide) (by decide) (by rw [hml]; rfl) [(.ref x2), (.int (0 : Int32)), (.int (2 : Int32))] [] rfl (lenOf pd_12 rfl) rfl (Nat.le_of_eq rfl) (Ls := #[.val (.ref x1), .val (.ref x2), .val (.int (0 : Int32)), .val (.int (2 : Int32)), .val .null, .unset])
  obtain ⟨b3_0, k3_0, rfl, M3, K3, zz3_0, F3_0, F3_1⟩ := Q3
  have N3 := Fr.app N0 M3
  refine Rch.go st3 ?_
  have z4 : n0 ≤ T3.heap.size := (Nat.le_trans Z0 K3.1)
  have o5 := O0.keep K3 all0
  have g_b3_0 : n0 ≤ b3_0 := Nat.le_trans Z0 zz3_0
  show Rch p e below _ (T3.setTop (mkF m 39 #[.val (.ref x1), .val (.ref x2), .val (.int (0 : Int32)), .val (.int (2 : Int32)), .val .null, .unset] [(.ref b3_0)]))
  refine Rch.go (fun t k => XS.astore X3.here hx rfl (hb hby d16_39) rfl rfl (l' := #[.val (.ref x1), .val (.ref x2), .val (.int (0 : Int32)), .val (.int (2 : Int32)), .val .null, .val (.ref b3_0)]) rfl k) ?_
  show Rch p e below _ (T3.setTop (mkF m 41 #[.val (.ref x1), .val (.ref x2), .val (.int (0 : Int32)), .val (.int (2 : Int32)), .val .null, .val (.ref b3_0)] []))
  refine Rch.go (fun t k => XS.aloadN X3.here hx rfl (hb hby d16_41) rfl rfl k) ?_
  show Rch p e below _ (T3.setTop (mkF m 42 #[.val (.ref x1), .val (.ref x2), .val (.int (0 : Int32)), .val (.int (2 : Int32)), .val .null, .val (.ref b3_0)] [(.ref x1)]))
  refine Rch.go (fun t k => XS.aload X3.here hx rfl (hb hby d16_42) rfl rfl k) ?_
  show Rch p e below _ (T3.setTop (mkF m 44 #[.val (.ref x1), .val (.ref x2), .val (.int (0 : Int32)), .val (.int (2 : Int32)), .val .null, .val (.ref b3_0)] [(.ref b3_0), (.ref x1)]))
  refine Rch.go (fun t k => XS.iloadN X3.here hx rfl (hb hby d16_44) rfl  k) ?_
  show Rch p e below _ (T3.setTop (mkF m 45 #[.val (.ref x1), .val (.ref x2), .val (.int (0 : Int32)), .val (.int (2 : Int32)), .val .null, .val (.ref b3_0)] [(.int (2 : Int32)), (.ref b3_0), (.ref x1)]))
  obtain ⟨v6, T6, L6, X6, Q6, st6⟩ := callSt X3 hx hZ (m24_coderFromArrayLen l Z a0 hw b3_0 k3_0 (nar .byte (y5.toInt8.toInt32)) (nar .byte (y6.toInt8.toInt32)) T3.heap n0 z4 o5 F3_1) rfl hown (wd_128 hw) (wd_129 hw) (wd_130 hw) (wd_122 hw) (by decide) (hb hby d16_45) 1 (by decide) (by decide) (by decide) (by decide) (by rw [hml]; rfl) [(.ref b3_0), (.int (2 : Int32))] [(.ref x1)] rfl (lenOf pd_13 rfl) rfl (Nat.le_of_eq rfl) (Ls := #[.val (.ref x1), .val (.ref x2), .val (.int (0 : Int32)), .val (.int (2 : Int32)), .val .null, .val (.ref b3_0)])
  obtain ⟨rfl, M6, e6⟩ := Q6
  have N6 := Fr.app N3 M6
  refine Rch.go st6 ?_
  show Rch p e below _ (T6.setTop (mkF m 48 #[.val (.ref x1), .val (.ref x2), .val (.int (0 : Int32)), .val (.int (2 : Int32)), .val .null, .val (.ref b3_0)] [(.int (0 : Int32)), (.ref x1)]))
  have f8 := (P7.keep K3 nin0)
  have f9 := (P6.keep K3)
  obtain ⟨T7, h7, X7, e7, W7, st7⟩ := putFN X6 hx hZ hown (wd_131 hw) Via.refl e6 f8 f9 (Or.inr ⟨(wd_132 hw), rfl, hnm⟩) (wd_109 hw) (ty := .byte) (v' := (.int (0 : Int32))) (by decide) rfl rfl (g := (mkF m 48 #[.val (.ref x1), .val (.ref x2), .val (.int (0 : Int32)), .val (.int (2 : Int32)), .val .null, .val (.ref b3_0)] [(.int (0 : Int32)), (.ref x1)])) rfl rfl (hb hby d16_48)
  refine Rch.go st7 ?_
  have z10 : n0 ≤ h7.size := (Nat.le_trans z4 (Nat.le_of_eq W7.size.symm))
  have o11 := o5.wr W7 P8
  have F7 := f8.same W7
  have N7 := Fr.snoc X7 N6 P8
  show Rch p e below _ (T7.setTop (mkF m 51 #[.val (.ref x1), .val (.ref x2), .val (.int (0 : Int32)), .val (.int (2 : Int32)), .val .null, .val (.ref b3_0)] []))
  refine Rch.go (fun t k => XS.aloadN X7.here hx rfl (hb hby d16_51) rfl rfl k) ?_
  show Rch p e below _ (T7.setTop (mkF m 52 #[.val (.ref x1), .val (.ref x2), .val (.int (0 : Int32)), .val (.int (2 : Int32)), .val .null, .val (.ref b3_0)] [(.ref x1)]))
  refine Rch.go (fun t k => XS.aload X7.here hx rfl (hb hby d16_52) rfl rfl k) ?_
  show Rch p e below _ (T7.setTop (mkF m 54 #[.val (.ref x1), .val (.ref x2), .val (.int (0 : Int32)), .val (.int (2 : Int32)), .val .null, .val (.ref b3_0)] [(.ref b3_0), (.ref x1)]))
  have f13 := ((P9.keep K3 nin0).other W7 (Or.inr (slot_ne (Or.inr (wd_134 hw)) (Or.inr (wd_132 hw)) (by decide) (t := (.array .byte)) (t' := .byte) (by decide) (by decide))))
  have f14 := (f9.wr W7)
  obtain ⟨T12, h12, X12, e12, W12, st12⟩ := putF X7 hx hZ hown (host := "") (Or.inl (wd_133 hw)) Via.refl e7 f13 f14 (Or.inr ⟨(wd_134 hw), rfl, hnm⟩) (wd_109 hw) (ty := (.array .byte)) (by decide) rfl rfl (g := (mkF m 54 #[.val (.ref x1), .val (.ref x2), .val (.int (0 : Int32)), .val (.int (2 : Int32)), .val .null, .val (.ref b3_0)] [(.ref b3_0), (.ref x1)])) rfl rfl (hb hby d16_54)
  refine Rch.go st12 ?_
  have z15 : n0 ≤ h12.size := (Nat.le_trans z10 (Nat.le_of_eq W12.size.symm))
  have o16 := o11.wr W12 P8
  have F12 := f13.same W12
  have N12 := Fr.snoc X12 N7 P8
  show Rch p e below _ (T12.setTop (mkF m 57 #[.val (.ref x1), .val (.ref x2), .val (.int (0 : Int32)), .val (.int (2 : Int32)), .val .null, .val (.ref b3_0)] []))
  have f17 := ((F3_0.wr W7).wr W12)
  have lt18 := P6.lt
  have ne19 : x1 ≠ b3_0 := Nat.ne_of_lt (Nat.lt_of_lt_of_le lt18 zz3_0)
  have f20 := ((F3_1.other W7 (Ne.symm ne19)).other W12 (Ne.symm ne19))
  have f21 := (F7.other W12 (Or.inr (slot_ne (Or.inr (wd_132 hw)) (Or.inr (wd_134 hw)) (by decide) (t := .byte) (t' := (.array .byte)) (by decide) (by decide))))
  refine Rch.void X12 hx hret hlk (hb hby d16_57) (by decide) (by decide) ?_
  try rw [e12]
  exact ⟨b3_0, k3_0, rfl, N12, ((((Keep.refl _ _).trans K3 all0).wr W7 (Or.inl (List.mem_of_getElem? (i := 0) rfl))).wr W12 (Or.inl (List.mem_of_getElem? (i := 0) rfl))), (Nat.le_trans (Nat.le_refl _) zz3_0), f17, f20, f21, F12⟩
theorem wd_117 {Z : State} {a0 : Array Value} (hw : ∀ d ∈ tables_1, d.before a0 Z = true) : (Jvm.Cond.code ({ cls := "java/lang/String", name := "<init>", desc := "([CIILjava/lang/Void;)V" } : Jvm.MethodName) jdk_42_method_149_code (6 : Nat) (Option.none : Option Jvm.ClassFile.FieldType)).before a0 Z = true := hw _ (List.mem_of_getElem? (i := 117) rfl)
theorem pd_14 : parseMethodDescriptor "([CIILjava/lang/Void;)V" = some ⟨[(.array .char), .int, .int, (.object "java/lang/Void")], none⟩ := by decide +kernel
theorem wd_115 {Z : State} {a0 : Array Value} (hw : ∀ d ∈ tables_1, d.before a0 Z = true) : (Jvm.Cond.instanceMethod ({ cls := "java/lang/String", name := "<init>", desc := "([CIILjava/lang/Void;)V" } : Jvm.MethodName)).before a0 Z = true := hw _ (List.mem_of_getElem? (i := 115) rfl)
theorem d15_9 : decode jdk_42_method_3_code 9 = .ok (.return_, 1) := by decide +kernel
set_option maxRecDepth 65536 in
set_option maxHeartbeats 4000000 in
theorem ef_m20_init (m : MethodId) (x1 : Addr) (x2 : Addr) (kk3 : ClassId) (y4 : Int32) (y5 : Int32) (y6 : Int32) : entryFrame m #[(.ref x1), (.ref x2)] 2 = mkF m 0 #[.val (.ref x1), .val (.ref x2)] [] := by first | rfl | (simp [entryFrame, mkF, argsToLocals, Value.category]; done)
set_option maxRecDepth 65536 in
set_option maxHeartbeats 40000000 in
theorem m20_init (l : Launch) (Z : State) (a0 : Array Value) (hw : ∀ d ∈ tables_1, d.before a0 Z = true) (x1 : Addr) (x2 : Addr) (kk3 : ClassId) (y4 : Int32) (y5 : Int32) (y6 : Int32) (h0 : Heap) (n0 : Nat) (Z0 : n0 ≤ h0.size) (O0 : Old Z n0 h0) (P1 : Arv Z h0 x2 kk3 .char (2 : Int32) [(.int y4), (.int y5)] (.int (0 : Int32))) (P2 : Sta Z Z.heap "java/lang/String" "COMPACT_STRINGS" "Z" (.int y6)) (P3 : ¬ (y6 = (0 : Int32))) (P4 : ¬ ((255 : Int32) < y4)) (P5 : ¬ ((255 : Int32) < y5)) (P6 : Exa Z h0 x1 "java/lang/String") (P7 : Fld Z h0 x1 "java/lang/String" "coder" "B" (.int (0 : Int32))) (P8 : n0 ≤ x1) (P9 : Fld Z h0 x1 "java/lang/String" "value" "[B" .null) :
    Ctr l Z [] (⟨"java/lang/String", "<init>", "([C)V"⟩ : MethodName) jdk_42_method_3_code 2 none #[(.ref x1), (.ref x2)] h0 ({ frames := 3, cells := 1, slots := 2, locals := 52 } : Room) (fun v h L => ∃ (b2_0 : Addr) (k2_0 : ClassId), v = none ∧ Fr n0 L ∧ Keep h0 h [x1] ∧ h0.size ≤ b2_0 ∧ Exa Z h b2_0 "[B" ∧ Arv Z h b2_0 k2_0 .byte (2 : Int32) [(.int (nar .byte (y4.toInt8.toInt32))), (.int (nar .byte (y5.toInt8.toInt32)))] (.int (0 : Int32)) ∧ Fld Z h x1 "java/lang/String" "coder" "B" (.int (0 : Int32)) ∧ Fld Z h x1 "java/lang/String" "value" "[B" (.ref b2_0)) := by
  refine Ctr.of (plainFor_of_name pn_java_lang_String) (fun m => ef_m20_init m x1 x2 kk3 y4 y5 y6) ?_
  intro p e s m below meth c T0 hx hZ hby hml hown hnm hret hlk X0 e0
  have N0 := Fr.nil n0
  show Rch p e below _ (T0.setTop (mkF m 0 #[.val (.ref x1), .val (.ref x2)] []))
  refine Rch.go (fun t k => XS.aloadN X0.here hx rfl (hb hby d15_0) rfl rfl k) ?_
  show Rch p e below _ (T0.setTop (mkF m 1 #[.val (.ref x1), .val (.ref x2)] [(.ref x1)]))
  refine Rch.go (fun t k => XS.aloadN X0.here hx rfl (hb hby d15_1) rfl rfl k) ?_
  show Rch p e below _ (T0.setTop (mkF m 2 #[.val (.ref x1), .val (.ref x2)] [(.ref x2), (.ref x1)]))
  refine Rch.go (fun t k => XS.iconst X0.here hx rfl (hb hby d15_2) k) ?_
  show Rch p e below _ (T0.setTop (mkF m 3 #[.val (.ref x1), .val (.ref x2)] [(.int (0 : Int32)), (.ref x2), (.ref x1)]))
  refine Rch.go (fun t k => XS.aloadN X0.here hx rfl (hb hby d15_3) rfl rfl k) ?_
  show Rch p e below _ (T0.setTop (mkF m 4 #[.val (.ref x1), .val (.ref x2)] [(.ref x2), (.int (0 : Int32)), (.ref x2), (.ref x1)]))
  obtain ⟨c1, r1, q1, s1, u1, H1, G1⟩ := id P1
  refine Rch.go (fun t k => X0.arraylength hx (by rw [e0]; exact r1.1) (State.isArrayOf_alike hZ.alike r1.2.1) (g := (mkF m 4 #[.val (.ref x1), .val (.ref x2)] [(.ref x2), (.int (0 : Int32)), (.ref x2), (.ref x1)])) rfl rfl (hb hby d15_4) t (by rw [len_of s1 u1]; exact k)) ?_
  show Rch p e below _ (T0.setTop (mkF m 5 #[.val (.ref x1), .val (.ref x2)] [(.int (2 : Int32)), (.int (0 : Int32)), (.ref x2), (.ref x1)]))
  refine Rch.go (fun t k => XS.aconstNull X0.here hx rfl (hb hby d15_5) k) ?_
  show Rch p e below _ (T0.setTop (mkF m 6 #[.val (.ref x1), .val (.ref x2)] [.null, (.int (2 : Int32)), (.int (0 : Int32)), (.ref x2), (.ref x1)]))
  obtain ⟨v2, T2, L2, X2, Q2, st2⟩ := callSp X0 hx hZ (m21_init l Z a0 hw x1 x2 y6 kk3 y4 y5 h0 n0 Z0 O0 P2 P3 P1 P4 P5 P6 P7 P8 P9) e0 hown rfl (wd_114 hw) (wd_115 hw) (wd_117 hw) (wd_110 hw) (by decide) (hb hby d15_6) 0 (by decide) (by decide) (by decide) (by decide) (by rw [hml]; rfl) x1 [(.ref x2), (.int (0 : Int32)), (.int (2 : Int32)), .null] [] rfl (lenOf pd_14 rfl) rfl (Nat.le_of_eq rfl) (Ls := #[.val (.ref x1), .val (.ref x2)])
  obtain ⟨b2_0, k2_0, rfl, M2, K2, zz2_0, F2_0, F2_1, F2_2, F2_3⟩ := Q2
  have N2 := Fr.app N0 M2
  refine Rch.go st2 ?_
  have z3 : n0 ≤ T2.heap.size := (Nat.le_trans Z0 K2.1)
  have o4 := O0.keep K2 (allS P8 all0)
  have g_b2_0 : n0 ≤ b2_0 := Nat.le_trans Z0 zz2_0
  show Rch p e below _ (T2.setTop (mkF m 9 #[.val (.ref x1), .val (.ref x2)] []))
  refine Rch.void X2 hx hret hlk (hb hby d15_9) (by decide) (by decide) ?_
  exact ⟨b2_0, k2_0, rfl, N2, ((Keep.refl _ _).trans K2 (allS (Or.inl (List.mem_of_getElem? (i := 0) rfl)) all0)), (Nat.le_trans (Nat.le_refl _) zz2_0), F2_0, F2_1, F2_2, F2_3⟩
theorem wd_113 {Z : State} {a0 : Array Value} (hw : ∀ d ∈ tables_1, d.before a0 Z = true) : (Jvm.Cond.code ({ cls := "java/lang/String", name := "<init>", desc := "([C)V" } : Jvm.MethodName) jdk_42_method_3_code (2 : Nat) (Option.none : Option Jvm.ClassFile.FieldType)).before a0 Z = true := hw _ (List.mem_of_getElem? (i := 113) rfl)
theorem pd_15 : parseMethodDescriptor "([C)V" = some ⟨[(.array .char)], none⟩ := by decide +kernel
theorem wd_112 {Z : State} {a0 : Array Value} (hw : ∀ d ∈ tables_1, d.before a0 Z = true) : (Jvm.Cond.instanceMethod ({ cls := "java/lang/String", name := "<init>", desc := "([C)V" } : Jvm.MethodName)).before a0 Z = true := hw _ (List.mem_of_getElem? (i := 112) rfl)
theorem pn_com_example_pathlatch_pathlatch_check_LogVerdictSerializablePinLaw : plainName "com/example/pathlatch/pathlatch/check/LogVerdictSerializablePinLaw" = true := by first | (simp [plainName, overriddenIn]; done) | decide +kernel
set_option maxRecDepth 65536 in
set_option maxHeartbeats 4000000 in
theorem ef_law_1 (m : MethodId) (p0 : Int64) (p1 p2 : Int32) (p3 : Int64) (p4 : Int32) (ro0 : Addr) (ro1 : Addr) (ro2 : Addr) (ww3 : Int32) (ww4 : Value) (kk_ro0 : ClassId) (kk_ro1 : ClassId) : entryFrame m #[(.long p0), (.int p1), (.int p2), (.long p3), (.int p4)] maxLocals = mkF m 0 #[.val (.long p0), .second, .val (.int p1), .val (.int p2), .val (.long p3), .second, .val (.int p4), .unset, .unset, .unset, .unset, .unset, .unset, .unset, .unset, .unset] [] := by first | rfl | (simp [entryFrame, mkF, argsToLocals, Value.category, maxLocals]; done)
set_option maxRecDepth 65536 in
set_option maxHeartbeats 40000000 in
theorem law_1 (l : Launch) (Z : State) (a0 : Array Value) (hw : ∀ d ∈ tables_1, d.before a0 Z = true) (p0 : Int64) (p1 p2 : Int32) (p3 : Int64) (p4 : Int32) (ro0 : Addr) (ro1 : Addr) (ro2 : Addr) (ww3 : Int32) (ww4 : Value) (kk_ro0 : ClassId) (kk_ro1 : ClassId) (h0 : Heap) (n0 : Nat) (Z0 : n0 ≤ h0.size) (O0 : Old Z n0 h0) (G : Olds Z ro0 ro1 ro2 ww3 ww4 kk_ro0 kk_ro1) (GC : Cached Z ro2) :
    Ctr l Z tables_1 x code maxLocals ret #[(.long p0), (.int p1), (.int p2), (.long p3), (.int p4)] h0 room_1 (fun v h L => v = some (.int (1 : Int32)) ∧ Fr n0 L) := by
  refine Ctr.of (plainFor_of_name pn_com_example_pathlatch_pathlatch_check_LogVerdictSerializablePinLaw) (fun m => ef_law_1 m p0 p1 p2 p3 p4 ro0 ro1 ro2 ww3 ww4 kk_ro0 kk_ro1) ?_
  intro p e s m below meth c T0 hx hZ hby hml hown hnm hret hlk X0 e0
  have N0 := Fr.nil n0
  have hret : meth.sig.returnType = some .boolean := hret
  show Rch p e below _ (T0.setTop (mkF m 0 #[.val (.long p0), .second, .val (.int p1), .val (.int p2), .val (.long p3), .second, .val (.int p4), .unset, .unset, .unset, .unset, .unset, .unset, .unset, .unset, .unset] []))
  refine Rch.go (fun t k => XS.iconst X0.here hx rfl (hb hby at_0) k) ?_
  show Rch p e below _ (T0.setTop (mkF m 1 #[.val (.long p0), .second, .val (.int p1), .val (.int p2), .val (.long p3), .second, .val (.int p4), .unset, .unset, .unset, .unset, .unset, .unset, .unset, .unset, .unset] [(.int (2 : Int32))]))
  obtain ⟨T1, h1, k1, X1, e1, E1, A1, B1, st1⟩ := newPE (aty := .char) X0 hx hZ (wd_0 hw) e0 (g := (mkF m 1 #[.val (.long p0), .second, .val (.int p1), .val (.int p2), .val (.long p3), .second, .val (.int p4), .unset, .unset, .unset, .unset, .unset, .unset, .unset, .unset, .unset] [(.int (2 : Int32))])) rfl (hb hby at_1) rfl (by decide) (cap := 2) (by decide) (by decide) (by decide) (by decide) (ad := "[C") (by decide +kernel)
  obtain ⟨b1, g1⟩ : ∃ z, z = h0.size := ⟨_, rfl⟩
  rw [← g1] at A1 B1 st1
  refine Rch.go st1 ?_
  have z2 : n0 ≤ h1.size := (Nat.le_trans Z0 E1.1)
  have o3 := O0.ext E1
  have g_b1 : n0 ≤ b1 := Nat.le_trans Z0 (Nat.le_of_eq g1.symm)
  have V1 : Arv Z h1 b1 k1 .char (2 : Int32) [(.int (0 : Int32)), (.int (0 : Int32))] (.int (0 : Int32)) := (Arv.new A1 (by decide)).pad (pad_rep [] (.int (0 : Int32)) 2)
  show Rch p e below _ (T1.setTop (mkF m 3 #[.val (.long p0), .second, .val (.int p1), .val (.int p2), .val (.long p3), .second, .val (.int p4), .unset, .unset, .unset, .unset, .unset, .unset, .unset, .unset, .unset] [(.ref b1)]))
  refine Rch.go (fun t k => XS.astore X1.here hx rfl (hb hby at_3) rfl rfl (l' := #[.val (.long p0), .second, .val (.int p1), .val (.int p2), .val (.long p3), .second, .val (.int p4), .val (.ref b1), .unset, .unset, .unset, .unset, .unset, .unset, .unset, .unset]) rfl k) ?_
  show Rch p e below _ (T1.setTop (mkF m 5 #[.val (.long p0), .second, .val (.int p1), .val (.int p2), .val (.long p3), .second, .val (.int p4), .val (.ref b1), .unset, .unset, .unset, .unset, .unset, .unset, .unset, .unset] []))
  refine Rch.go (fun t k => XS.aload X1.here hx rfl (hb hby at_5) rfl rfl k) ?_
  show Rch p e below _ (T1.setTop (mkF m 7 #[.val (.long p0), .second, .val (.int p1), .val (.int p2), .val (.long p3), .second, .val (.int p4), .val (.ref b1), .unset, .unset, .unset, .unset, .unset, .unset, .unset, .unset] [(.ref b1)]))
  refine Rch.go (fun t k => XS.iconst X1.here hx rfl (hb hby at_7) k) ?_
  show Rch p e below _ (T1.setTop (mkF m 8 #[.val (.long p0), .second, .val (.int p1), .val (.int p2), .val (.long p3), .second, .val (.int p4), .val (.ref b1), .unset, .unset, .unset, .unset, .unset, .unset, .unset, .unset] [(.int (0 : Int32)), (.ref b1)]))
  refine Rch.go (fun t k => XS.iloadN X1.here hx rfl (hb hby at_8) rfl  k) ?_
  show Rch p e below _ (T1.setTop (mkF m 9 #[.val (.long p0), .second, .val (.int p1), .val (.int p2), .val (.long p3), .second, .val (.int p4), .val (.ref b1), .unset, .unset, .unset, .unset, .unset, .unset, .unset, .unset] [(.int p1), (.int (0 : Int32)), (.ref b1)]))
  refine Rch.go (fun t k => XS.sipush X1.here hx rfl (hb hby at_9) k) ?_
  show Rch p e below _ (T1.setTop (mkF m 12 #[.val (.long p0), .second, .val (.int p1), .val (.int p2), .val (.long p3), .second, .val (.int p4), .val (.ref b1), .unset, .unset, .unset, .unset, .unset, .unset, .unset, .unset] [(.int (255 : Int32)), (.int p1), (.int (0 : Int32)), (.ref b1)]))
  refine Rch.go (fun t k => XS.iand X1.here hx rfl (hb hby at_12) rfl k) ?_
  show Rch p e below _ (T1.setTop (mkF m 13 #[.val (.long p0), .second, .val (.int p1), .val (.int p2), .val (.long p3), .second, .val (.int p4), .val (.ref b1), .unset, .unset, .unset, .unset, .unset, .unset, .unset, .unset] [(.int (p1 &&& (255 : Int32))), (.int (0 : Int32)), (.ref b1)]))
  refine Rch.go (fun t k => XS.i2c X1.here hx rfl (hb hby at_13) rfl k) ?_
  show Rch p e below _ (T1.setTop (mkF m 14 #[.val (.long p0), .second, .val (.int p1), .val (.int p2), .val (.long p3), .second, .val (.int p4), .val (.ref b1), .unset, .unset, .unset, .unset, .unset, .unset, .unset, .unset] [(.int ((p1 &&& (255 : Int32)).toUInt32.toUInt16.toUInt32.toInt32)), (.int (0 : Int32)), (.ref b1)]))
  obtain ⟨ch4, he4, hn4, hl4, hg4⟩ := own_chr p1
  rw [he4]
  show Rch p e below _ (T1.setTop (mkF m 14 #[.val (.long p0), .second, .val (.int p1), .val (.int p2), .val (.long p3), .second, .val (.int p4), .val (.ref b1), .unset, .unset, .unset, .unset, .unset, .unset, .unset, .unset] [(.int ch4), (.int (0 : Int32)), (.ref b1)]))
  obtain ⟨c5, r5, q5, s5, u5, H5, G5⟩ := id V1
  obtain ⟨T6, h6, X6, e6, W6, st6⟩ := stC X1 hx hZ e1 r5 (j := (0 : Int32)) (inb_of s5 (by decide)) (g := (mkF m 14 #[.val (.long p0), .second, .val (.int p1), .val (.int p2), .val (.long p3), .second, .val (.int p4), .val (.ref b1), .unset, .unset, .unset, .unset, .unset, .unset, .unset, .unset] [(.int ch4), (.int (0 : Int32)), (.ref b1)])) rfl rfl (hb hby at_14)
  rw [hn4] at W6
  refine Rch.go st6 ?_
  have V6 : Arv Z h6 b1 k1 .char (2 : Int32) [(.int ch4), (.int (0 : Int32))] (.int (0 : Int32)) := Arv.set r5 q5 s5 u5 H5 G5 (by rw [← hn4]; exact (fits_nar_char _)) W6 0 rfl (Nat.le_of_ble_eq_true rfl)
  have z7 : n0 ≤ h6.size := (Nat.le_trans z2 (Nat.le_of_eq W6.size.symm))
  have o8 := o3.wr W6 g_b1
  have N6 := Fr.snoc X6 N0 g_b1
  show Rch p e below _ (T6.setTop (mkF m 15 #[.val (.long p0), .second, .val (.int p1), .val (.int p2), .val (.long p3), .second, .val (.int p4), .val (.ref b1), .unset, .unset, .unset, .unset, .unset, .unset, .unset, .unset] []))
  refine Rch.go (fun t k => XS.aload X6.here hx rfl (hb hby at_15) rfl rfl k) ?_
  show Rch p e below _ (T6.setTop (mkF m 17 #[.val (.long p0), .second, .val (.int p1), .val (.int p2), .val (.long p3), .second, .val (.int p4), .val (.ref b1), .unset, .unset, .unset, .unset, .unset, .unset, .unset, .unset] [(.ref b1)]))
  refine Rch.go (fun t k => XS.iconst X6.here hx rfl (hb hby at_17) k) ?_
  show Rch p e below _ (T6.setTop (mkF m 18 #[.val (.long p0), .second, .val (.int p1), .val (.int p2), .val (.long p3), .second, .val (.int p4), .val (.ref b1), .unset, .unset, .unset, .unset, .unset, .unset, .unset, .unset] [(.int (1 : Int32)), (.ref b1)]))
  refine Rch.go (fun t k => XS.iloadN X6.here hx rfl (hb hby at_18) rfl  k) ?_
  show Rch p e below _ (T6.setTop (mkF m 19 #[.val (.long p0), .second, .val (.int p1), .val (.int p2), .val (.long p3), .second, .val (.int p4), .val (.ref b1), .unset, .unset, .unset, .unset, .unset, .unset, .unset, .unset] [(.int p2), (.int (1 : Int32)), (.ref b1)]))
  refine Rch.go (fun t k => XS.sipush X6.here hx rfl (hb hby at_19) k) ?_
  show Rch p e below _ (T6.setTop (mkF m 22 #[.val (.long p0), .second, .val (.int p1), .val (.int p2), .val (.long p3), .second, .val (.int p4), .val (.ref b1), .unset, .unset, .unset, .unset, .unset, .unset, .unset, .unset] [(.int (255 : Int32)), (.int p2), (.int (1 : Int32)), (.ref b1)]))
  refine Rch.go (fun t k => XS.iand X6.here hx rfl (hb hby at_22) rfl k) ?_
  show Rch p e below _ (T6.setTop (mkF m 23 #[.val (.long p0), .second, .val (.int p1), .val (.int p2), .val (.long p3), .second, .val (.int p4), .val (.ref b1), .unset, .unset, .unset, .unset, .unset, .unset, .unset, .unset] [(.int (p2 &&& (255 : Int32))), (.int (1 : Int32)), (.ref b1)]))
  refine Rch.go (fun t k => XS.i2c X6.here hx rfl (hb hby at_23) rfl k) ?_
  show Rch p e below _ (T6.setTop (mkF m 24 #[.val (.long p0), .second, .val (.int p1), .val (.int p2), .val (.long p3), .second, .val (.int p4), .val (.ref b1), .unset, .unset, .unset, .unset, .unset, .unset, .unset, .unset] [(.int ((p2 &&& (255 : Int32)).toUInt32.toUInt16.toUInt32.toInt32)), (.int (1 : Int32)), (.ref b1)]))
  obtain ⟨ch9, he9, hn9, hl9, hg9⟩ := own_chr p2
  rw [he9]
  show Rch p e below _ (T6.setTop (mkF m 24 #[.val (.long p0), .second, .val (.int p1), .val (.int p2), .val (.long p3), .second, .val (.int p4), .val (.ref b1), .unset, .unset, .unset, .unset, .unset, .unset, .unset, .unset] [(.int ch9), (.int (1 : Int32)), (.ref b1)]))
  obtain ⟨c10, r10, q10, s10, u10, H10, G10⟩ := id V6
  obtain ⟨T11, h11, X11, e11, W11, st11⟩ := stC X6 hx hZ e6 r10 (j := (1 : Int32)) (inb_of s10 (by decide)) (g := (mkF m 24 #[.val (.long p0), .second, .val (.int p1), .val (.int p2), .val (.long p3), .second, .val (.int p4), .val (.ref b1), .unset, .unset, .unset, .unset, .unset, .unset, .unset, .unset] [(.int ch9), (.int (1 : Int32)), (.ref b1)])) rfl rfl (hb hby at_24)
  rw [hn9] at W11
  refine Rch.go st11 ?_
  have V11 : Arv Z h11 b1 k1 .char (2 : Int32) [(.int ch4), (.int ch9)] (.int (0 : Int32)) := Arv.set r10 q10 s10 u10 H10 G10 (by rw [← hn9]; exact (fits_nar_char _)) W11 1 rfl (Nat.le_of_ble_eq_true rfl)
  have z12 : n0 ≤ h11.size := (Nat.le_trans z7 (Nat.le_of_eq W11.size.symm))
  have o13 := o8.wr W11 g_b1
  have N11 := Fr.snoc X11 N6 g_b1
  show Rch p e below _ (T11.setTop (mkF m 25 #[.val (.long p0), .second, .val (.int p1), .val (.int p2), .val (.long p3), .second, .val (.int p4), .val (.ref b1), .unset, .unset, .unset, .unset, .unset, .unset, .unset, .unset] []))
  refine Rch.go (fun t k => XS.iload X11.here hx rfl (hb hby at_25) rfl  k) ?_
  show Rch p e below _ (T11.setTop (mkF m 27 #[.val (.long p0), .second, .val (.int p1), .val (.int p2), .val (.long p3), .second, .val (.int p4), .val (.ref b1), .unset, .unset, .unset, .unset, .unset, .unset, .unset, .unset] [(.int p4)]))
  refine Rch.go (fun t k => XS.iconst X11.here hx rfl (hb hby at_27) k) ?_
  show Rch p e below _ (T11.setTop (mkF m 28 #[.val (.long p0), .second, .val (.int p1), .val (.int p2), .val (.long p3), .second, .val (.int p4), .val (.ref b1), .unset, .unset, .unset, .unset, .unset, .unset, .unset, .unset] [(.int (1 : Int32)), (.int p4)]))
  refine Rch.go (fun t k => XS.iand X11.here hx rfl (hb hby at_28) rfl k) ?_
  show Rch p e below _ (T11.setTop (mkF m 29 #[.val (.long p0), .second, .val (.int p1), .val (.int p2), .val (.long p3), .second, .val (.int p4), .val (.ref b1), .unset, .unset, .unset, .unset, .unset, .unset, .unset, .unset] [(.int (p4 &&& (1 : Int32)))]))
  by_cases hf29 : (p4 &&& (1 : Int32)) = (0 : Int32)
  · show Rch p e below _ (T11.setTop (mkF m 29 #[.val (.long p0), .second, .val (.int p1), .val (.int p2), .val (.long p3), .second, .val (.int p4), .val (.ref b1), .unset, .unset, .unset, .unset, .unset, .unset, .unset, .unset] [(.int (p4 &&& (1 : Int32)))]))
    refine Rch.go (fun t k => XS.ifYes X11.here hx rfl (pc0 := 29) (pc' := 44) rfl (hb hby at_29) rfl (XT.i0_eq_t hf29) (by decide) (by decide) k) ?_
    show Rch p e below _ (T11.setTop (mkF m 44 #[.val (.long p0), .second, .val (.int p1), .val (.int p2), .val (.long p3), .second, .val (.int p4), .val (.ref b1), .unset, .unset, .unset, .unset, .unset, .unset, .unset, .unset] []))
    refine Rch.go (fun t k => XS.aconstNull X11.here hx rfl (hb hby at_44) k) ?_
    show Rch p e below _ (T11.setTop (mkF m 45 #[.val (.long p0), .second, .val (.int p1), .val (.int p2), .val (.long p3), .second, .val (.int p4), .val (.ref b1), .unset, .unset, .unset, .unset, .unset, .unset, .unset, .unset] [.null]))
    exact tok_3 l Z a0 hw p0 (.val (.int p1)) (.val (.int p2)) p3 p4 (.val (.ref b1)) (.null) ro1 ro2 kk_ro1 h11 n0 z12 o13 (rfl : (Value.null).isRef = true) G.2.2.1 GC G.2.2.2.2.1 G.2.2.2.2.2.2.2.2.2.1 p e s m below meth c T11 _ _ hx hZ hby hml hown hnm hret hlk (X11.mono (by decide) (by decide)) e11 N11
  · show Rch p e below _ (T11.setTop (mkF m 29 #[.val (.long p0), .second, .val (.int p1), .val (.int p2), .val (.long p3), .second, .val (.int p4), .val (.ref b1), .unset, .unset, .unset, .unset, .unset, .unset, .unset, .unset] [(.int (p4 &&& (1 : Int32)))]))
    refine Rch.go (fun t k => XS.ifNo X11.here hx rfl (hb hby at_29) rfl (XT.i0_eq_f hf29) k) ?_
    show Rch p e below _ (T11.setTop (mkF m 32 #[.val (.long p0), .second, .val (.int p1), .val (.int p2), .val (.long p3), .second, .val (.int p4), .val (.ref b1), .unset, .unset, .unset, .unset, .unset, .unset, .unset, .unset] []))
    obtain ⟨T14, h14, X14, e14, E14, A14, D14, -, st14⟩ := newO X11 hx hZ hown (wd_108 hw) (wd_109 hw) (wd_110 hw) e11 (g := (mkF m 32 #[.val (.long p0), .second, .val (.int p1), .val (.int p2), .val (.long p3), .second, .val (.int p4), .val (.ref b1), .unset, .unset, .unset, .unset, .unset, .unset, .unset, .unset] [])) rfl (hb hby at_32) (by decide) (by decide)
    obtain ⟨b14, g14⟩ : ∃ z, z = h11.size := ⟨_, rfl⟩
    rw [← g14] at A14 D14 st14
    refine Rch.go st14 ?_
    have z15 : n0 ≤ h14.size := (Nat.le_trans z12 E14.1)
    have o16 := o13.ext E14
    have g_b14 : n0 ≤ b14 := Nat.le_trans z12 (Nat.le_of_eq g14.symm)
    have F14_coder : Fld Z h14 b14 "java/lang/String" "coder" "B" (.int (0 : Int32)) := (D14 (Or.inr (wd_132 hw)) (ty := .byte) (by decide))
    have F14_value : Fld Z h14 b14 "java/lang/String" "value" "[B" .null := (D14 (Or.inr (wd_134 hw)) (ty := (.array .byte)) (by decide))
    show Rch p e below _ (T14.setTop (mkF m 35 #[.val (.long p0), .second, .val (.int p1), .val (.int p2), .val (.long p3), .second, .val (.int p4), .val (.ref b1), .unset, .unset, .unset, .unset, .unset, .unset, .unset, .unset] [(.ref b14)]))
    refine Rch.go (fun t k => XS.dup X14.here hx rfl (hb hby at_35) rfl rfl k) ?_
    show Rch p e below _ (T14.setTop (mkF m 36 #[.val (.long p0), .second, .val (.int p1), .val (.int p2), .val (.long p3), .second, .val (.int p4), .val (.ref b1), .unset, .unset, .unset, .unset, .unset, .unset, .unset, .unset] [(.ref b14), (.ref b14)]))
    refine Rch.go (fun t k => XS.aload X14.here hx rfl (hb hby at_36) rfl rfl k) ?_
    show Rch p e below _ (T14.setTop (mkF m 38 #[.val (.long p0), .second, .val (.int p1), .val (.int p2), .val (.long p3), .second, .val (.int p4), .val (.ref b1), .unset, .unset, .unset, .unset, .unset, .unset, .unset, .unset] [(.ref b1), (.ref b14), (.ref b14)]))
    have f17 := (V11.ext E14)
    obtain ⟨v18, T18, L18, X18, Q18, st18⟩ := callSp X14 hx hZ (m20_init l Z a0 hw b14 b1 k1 ch4 ch9 ww3 h14 n0 z15 o16 f17 G.2.2.2.2.2.2.1 G.2.2.2.2.2.2.2.2.2.2.1 hl4 hl9 A14 F14_coder g_b14 F14_value) e14 hown rfl (wd_111 hw) (wd_112 hw) (wd_113 hw) (wd_110 hw) (by decide) (hb hby at_38) 1 (by decide) (by decide) (by decide) (by decide) (by rw [hml]; rfl) b14 [(.ref b1)] [(.ref b14)] rfl (lenOf pd_15 rfl) rfl (Nat.le_of_eq rfl) (Ls := #[.val (.long p0), .second, .val (.int p1), .val (.int p2), .val (.long p3), .second, .val (.int p4), .val (.ref b1), .unset, .unset, .unset, .unset, .unset, .unset, .unset, .unset])
    obtain ⟨b18_0, k18_0, rfl, M18, K18, zz18_0, F18_0, F18_1, F18_2, F18_3⟩ := Q18
    have N18 := Fr.app N11 M18
    refine Rch.go st18 ?_
    have z19 : n0 ≤ T18.heap.size := (Nat.le_trans z15 K18.1)
    have o20 := o16.keep K18 (allS g_b14 all0)
    have g_b18_0 : n0 ≤ b18_0 := Nat.le_trans z15 zz18_0
    show Rch p e below _ (T18.setTop (mkF m 41 #[.val (.long p0), .second, .val (.int p1), .val (.int p2), .val (.long p3), .second, .val (.int p4), .val (.ref b1), .unset, .unset, .unset, .unset, .unset, .unset, .unset, .unset] [(.ref b14)]))
    refine Rch.go (fun t k => XS.goto X18.here hx rfl (pc0 := 41) (pc' := 45) rfl (hb hby at_41) (by decide) (by decide) k) ?_
    show Rch p e below _ (T18.setTop (mkF m 45 #[.val (.long p0), .second, .val (.int p1), .val (.int p2), .val (.long p3), .second, .val (.int p4), .val (.ref b1), .unset, .unset, .unset, .unset, .unset, .unset, .unset, .unset] [(.ref b14)]))
    exact tok_3 l Z a0 hw p0 (.val (.int p1)) (.val (.int p2)) p3 p4 (.val (.ref b1)) (.ref b14) ro1 ro2 kk_ro1 T18.heap n0 z19 o20 (rfl : (Value.ref b14).isRef = true) G.2.2.1 GC G.2.2.2.2.1 G.2.2.2.2.2.2.2.2.2.1 p e s m below meth c T18 _ _ hx hZ hby hml hown hnm hret hlk (X18.mono (by decide) (by decide)) rfl N18
theorem own_cached {Z : State} {args : Array Value} {ca : Addr} {X : Jvm.Cond} {C n d : String} (ev : (Term.static C n d).eval args Z none [] Z = some (.ref ca)) (h1 : (Cond.arrayOf (.static C n d) (.object "java/lang/Long")).value args Z none Z [] = some true) (h2 : (Cond.eq (.length (.static C n d)) (.int 256)).value args Z none Z [] = some true)
    (h3 : (Cond.all (.static C n d) (Cond.and (Cond.exactly (.elem (.static C n d) (.index 0)) "java/lang/Long") X)).value args Z none Z [] = some true) : Cached Z ca := by
  intro y1 hlo hhi
  obtain ⟨c, A, hs, hl⟩ := own_len ev h1 h2
  have hsz : c.slots.size = 256 := by
    have e1 := len_toInt hs
    rw [hl] at e1
    have e2 : (256 : Int32).toInt = 256 := rfl
    rw [e2] at e1
    omega
  have hA : Z.arrayAt? ca = some c := A.fin (Vm.Alike.refl _)
  rw [lcW, lc_lt] at hlo
  rw [lcW, lc_gt] at hhi
  rw [Int64.lt_iff_toInt_lt] at hlo hhi
  have e3 : (-128 : Int64).toInt = -128 := rfl
  have e4 : (127 : Int64).toInt = 127 := rfl
  rw [e3] at hlo
  rw [e4] at hhi
  have e5 : y1.toInt32.toInt = y1.toInt := XT.narrowInt ⟨by omega, by omega⟩
  have e6 : (128 : Int32).toInt = 128 := rfl
  have hj : (y1.toInt32 + (128 : Int32)).toInt = y1.toInt + 128 := by
    rw [XT.add32 (by rw [e5, e6]; exact ⟨by omega, by omega⟩), e5, e6]
  generalize y1.toInt32 + (128 : Int32) = j at hj
  have hneg : ¬ j < 0 := fun q => by
    rw [XT.negI32] at q
    omega
  have hjn := nat_of hneg
  have hin : j.toNatClampNeg < c.slots.size := by omega
  have q := (and_e (Cond.all_elim ev hA h3 _ hin)).1
  obtain ⟨a', c', cell, k, f1, f2, f3, f4, f5, f6, f7⟩ := Cond.exactly_spec (beq_iff_eq.mpr q : (Cond.exactly (.elem (.static C n d) (.index 0)) "java/lang/Long").holds args Z none Z [j.toNatClampNeg] = true)
  have hji : j.toNatClampNeg.toInt32 = j := (back32 hneg).1
  have g2 := elem_in f1 (x := ca) (j := j) (cl := c) ev (by show (Option.map (fun i => Value.int (Nat.toInt32 i)) ([j.toNatClampNeg][0]?)) = _; simp [hji]) A.1
  subst f6
  exact ⟨a', c, A, g2.1, g2.2, cell, k, f3, f2, f4, f5, f7⟩
set_option maxRecDepth 65536 in
set_option maxHeartbeats 40000000 in
theorem comes_1 {Post : Tables → Env → Array Value → State → Outcome → State → Prop} (hpost : ∀ tb e args s v u, (limb_1_1.after args s (.returned v) u = true ∧ limb_1_2.after args s (.returned v) u = true ∧ True) → FrameEnd s (.returned v) u (Jvm.fieldLocs frame_1_writes args s ++ Jvm.arrayLocs frame_1_arrays args s ++ Jvm.staticLocs frame_1_statics s) 32 192 → Post tb e args s (.returned v) u) :
    ArmFor flags0 classFile x code maxLocals ret World_1 tables_1 room_1 Calls_1 rest_1 Pre_1 Post := by
  intro l hfl _ _ p e ha hc hk s m args below hf hA hF happ hP
  obtain ⟨hcalls, hrest, hpre⟩ := hP
  obtain ⟨-, -, -, hnamed, -, -, -, hat⟩ := (Spec.applies_iff hf).mp happ
  obtain ⟨hg, hn⟩ := and_e (Cond.before_iff.mp (show (Jvm.Cond.and given_1 narrow_1).before args s = true from hpre))
  obtain ⟨gv0, hg⟩ := and_e hg
  obtain ⟨gv1, hg⟩ := and_e hg
  obtain ⟨gv2, hg⟩ := and_e hg
  obtain ⟨gv3, hg⟩ := and_e hg
  obtain ⟨gv4, hg⟩ := and_e hg
  have gv5 := hg
  obtain ⟨w0, w1, w2, w3, w4, rfl⟩ : ∃ w0 w1 w2 w3 w4 : Value, args = #[w0, w1, w2, w3, w4] := by
    have hs : args.size = 5 := by simpa [Cond.value, given_1] using gv0
    obtain ⟨L⟩ := args
    match L, hs with
    | [w0, w1, w2, w3, w4], _ => exact ⟨w0, w1, w2, w3, w4, rfl⟩
  have hw := fun d (hd : d ∈ tables_1) => atoms_spec (ws := Jvm.Cond.code x code maxLocals ret :: tables_1) hat d (List.mem_cons_of_mem _ hd)
  have hfit : Fit s := fun {y c} hc i hi => by
    obtain ⟨ha, rfl⟩ := Array.getElem?_eq_some_iff.mp hc
    have q := List.all_eq_true.mp ((Array.all_eq_true_iff_forall_mem.mp hF) _ (Array.getElem_mem ha)) i (List.mem_range.mpr hi)
    simpa [Array.getElem?_eq_getElem hi] using q
  obtain ⟨i0, ei0⟩ := isL_v gv1
  obtain rfl : w0 = (.long i0) := Option.some.inj ei0
  obtain ⟨i1, ei1⟩ := is_v gv2
  obtain rfl : w1 = (.int i1) := Option.some.inj ei1
  obtain ⟨i2, ei2⟩ := is_v gv3
  obtain rfl : w2 = (.int i2) := Option.some.inj ei2
  obtain ⟨i3, ei3⟩ := isL_v gv4
  obtain rfl : w3 = (.long i3) := Option.some.inj ei3
  obtain ⟨i4, ei4⟩ := is_v gv5
  obtain rfl : w4 = (.int i4) := Option.some.inj ei4
  obtain ⟨hsets, hown0⟩ := atoms_of _ (rest_1_c_eq ▸ (show rest_1_c.before _ s = true from hrest))
  obtain ⟨ro0, ev_ro0⟩ := arr_v (Cond.before_iff.mp (hsets _ (List.mem_of_getElem? (i := 3) rfl)))
  obtain ⟨ro1, ev_ro1⟩ := arr_v (Cond.before_iff.mp (hsets _ (List.mem_of_getElem? (i := 6) rfl)))
  obtain ⟨ro2, ev_ro2⟩ := arr_v (Cond.before_iff.mp (hsets _ (List.mem_of_getElem? (i := 20) rfl)))
  obtain ⟨ww3, ev_ww3⟩ := is_v (Cond.before_iff.mp (hsets _ (List.mem_of_getElem? (i := 10) rfl)))
  obtain ⟨ww4, ev_ww4, rf_ww4⟩ := isR_v (Cond.before_iff.mp (hsets _ (List.mem_of_getElem? (i := 17) rfl)))
  obtain ⟨cl_ro0, ar_ro0, sz_ro0, le_ro0⟩ := own_len ev_ro0 (Cond.before_iff.mp (hsets _ (List.mem_of_getElem? (i := 3) rfl))) (Cond.before_iff.mp (hsets _ (List.mem_of_getElem? (i := 5) rfl)))
  obtain ⟨kk_ro0, q_ro0⟩ : ∃ z, z = cl_ro0.cls := ⟨_, rfl⟩
  obtain ⟨cl_ro1, ar_ro1, sz_ro1, le_ro1⟩ := own_len ev_ro1 (Cond.before_iff.mp (hsets _ (List.mem_of_getElem? (i := 6) rfl))) (Cond.before_iff.mp (hsets _ (List.mem_of_getElem? (i := 8) rfl)))
  obtain ⟨kk_ro1, q_ro1⟩ : ∃ z, z = cl_ro1.cls := ⟨_, rfl⟩
  have G : Olds s ro0 ro1 ro2 ww3 ww4 kk_ro0 kk_ro1 := ⟨(Sta.start ev_ro0 (Or.inl (((hsets _ (List.mem_of_getElem? (i := 1) rfl)))))), (Exa.start ev_ro0 (Cond.before_iff.mp (hsets _ (List.mem_of_getElem? (i := 4) rfl)))), (Sta.start ev_ro1 (Or.inr ⟨(wd_3 hw), ((hsets _ (List.mem_of_getElem? (i := 2) rfl)))⟩)), (Exa.start ev_ro1 (Cond.before_iff.mp (hsets _ (List.mem_of_getElem? (i := 7) rfl)))), (Sta.start ev_ro2 (Or.inl (((hsets _ (List.mem_of_getElem? (i := 19) rfl)))))), (Exa.start ev_ro2 (Cond.before_iff.mp (hsets _ (List.mem_of_getElem? (i := 21) rfl)))), (Sta.start ev_ww3 (Or.inl (((hsets _ (List.mem_of_getElem? (i := 9) rfl)))))), (Sta.start ev_ww4 (Or.inl (((hsets _ (List.mem_of_getElem? (i := 16) rfl)))))), (q_ro0 ▸ Arv.start hfit ar_ro0 sz_ro0 le_ro0 (by decide) (by decide) trivial), (q_ro1 ▸ Arv.start hfit ar_ro1 sz_ro1 le_ro1 (by decide) (by decide) trivial), (own_neI ev_ww3 (Cond.before_iff.mp (hsets _ (List.mem_of_getElem? (i := 11) rfl)))), (rf_ww4)⟩
  have GC : Cached s ro2 := own_cached ev_ro2 (Cond.before_iff.mp (hsets _ (List.mem_of_getElem? (i := 20) rfl))) (Cond.before_iff.mp (hsets _ (List.mem_of_getElem? (i := 22) rfl))) (Cond.before_iff.mp (hsets _ (List.mem_of_getElem? (i := 23) rfl)))
  obtain ⟨n, o, h1, h2, h3, _, L, rfl, ⟨rfl, N⟩, hq⟩ := law_1 l s _ hw i0 i1 i2 i3 i4 ro0 ro1 ro2 ww3 ww4 kk_ro0 kk_ro1 s.heap s.heap.size (Nat.le_refl _) (Old.start s) G GC p e ha hc hk s m _ below hf ((Spec.applies_iff_loose hf).mp happ).1 ⟨rfl, State.Warmed39.refl s, rfl⟩ trivial
  refine ⟨n, _, h1, h2, h3, hpost _ _ _ _ _ _ ⟨Cond.after_iff.mpr rfl, Cond.after_iff.mpr (eq_i res_at (Term.int_eval (1)) rfl), trivial⟩ ⟨hq.1, hq.2.1, (hq.2.2.sift fun y hy => Or.inr (N y hy)).mono (by decide) (by decide)⟩⟩
theorem main_1_1 : Claimed_1_1 := comes_1 fun _ _ _ _ _ _ h hF => ⟨h.1, hF⟩
theorem main_1_2 : Claimed_1_2 := comes_1 fun _ _ _ _ _ _ h hF => ⟨h.2.1, hF⟩
end Jvm.Pilot.@@N@@
namespace Jvm.Pilot.@@N@@
open Jvm Jvm.ClassFile Sem Op Lib Jvm.Free Jvm.Stand Jvm.Pilot.@@N@@.Jvm.D
/-! MADE BY PROGRAM (witnessworld.py) out of the Statement's table words and the real class files: 35 classes; the members and pool entries that the words name. The judged class is class 1, her method 1. -/
namespace start1
open Jvm.ClassFile
def u (s : String) : CpInfo := .utf8 (stringToUtf16 s)
/-- a pool by its gaps: so many unusable entries, then the entry; so many at the end -/
def gap : Nat → List CpInfo → List CpInfo
  | 0, r => r
  | n + 1, r => .unusable :: gap n r
def poolList (es : List (Nat × CpInfo)) (last : Nat) : List CpInfo := es.foldr (fun e r => gap e.1 (e.2 :: r)) (gap last [])
def pool (es : List (Nat × CpInfo)) (last : Nat) : Array CpInfo := ⟨poolList es last⟩
def fileOf (pool : Array CpInfo) (this : Nat) (attrs : Array Attribute := #[]) (ms : Array MethodInfo := #[]) (fl : Nat := 33) (sup : Nat := 0) (ifs : Array Nat := #[]) (fds : Array FieldInfo := #[]) : ClassFile where
  minorVersion := 0
  majorVersion := 65
  constantPool := pool
  accessFlags := fl
  thisClass := this
  superClass := sup
  interfaces := ifs
  fields := fds
  methods := ms
  attributes := attrs
def plain (name : String) (sup : Option ClassId) : Class where
  name := name
  kind := .ordinary
  loader := none
  accessFlags := 33
  super := sup
  interfaces := #[]
  cf := none
  fields := #[]
  methods := #[]
  instanceTypes := #[]
  staticTypes := #[]
  resolved := #[]
  callSites := []
  init := .initialized
  statics := none
  mirror := none

def pool0 : Array CpInfo := pool [(5, u "<init>"), (0, u "()V"), (1, .class_ 10), (1, u "java/lang/Object")] 113

def k0c0 : Code := { maxStack := 0, maxLocals := 1, code := object_method_1_code, exceptionTable := #[], attributes := #[] }
def k0m0 : Method := { name := "<init>", desc := "()V", sig := { parameters := [], returnType := none }, accessFlags := 1, code := some k0c0 }
/-- java/lang/Object -/
def k0 : Class := { plain "java/lang/Object" none with
  accessFlags := 33
  interfaces := #[]
  cf := some (fileOf pool0 8 #[] #[{ accessFlags := 1, nameIndex := 5, descriptorIndex := 6, attributes := #[] }] 33 0 #[] #[])
  fields := #[]
  methods := #[k0m0]
  instanceTypes := #[]
  staticTypes := #[]
  resolved := Array.replicate 124 none
  statics := none }

def pool1 : Array CpInfo := pool [(2, .class_ 4), (0, .nameAndType 5 6), (0, u "java/lang/Object"), (0, u "<init>"), (0, u "()V"), (0, .class_ 8), (0, u "java/lang/String"), (0, .methodref 7 10), (0, .nameAndType 5 11), (0, u "([C)V"), (0, .class_ 13), (0, u "java/util/ArrayList"), (0, .methodref 12 3), (0, .methodref 16 17), (0, .class_ 18), (0, .nameAndType 19 20), (0, u "java/lang/Long"), (0, u "valueOf"), (0, u "(J)Ljava/lang/Long;"), (0, .methodref 12 22), (0, .nameAndType 23 24), (0, u "add"), (0, u "(Ljava/lang/Object;)Z"), (0, .class_ 26), (0, u "com/example/pathlatch/pathlatch/check/LogVerdict"), (0, .methodref 25 28), (0, .nameAndType 5 29), (0, u "(JLjava/lang/String;Ljava/util/List;Ljava/util/List;)V"), (0, .methodref 25 31), (0, .nameAndType 32 33), (0, u "serializable"), (0, u "()Z"), (0, .methodref 25 35), (0, .nameAndType 36 37), (0, u "closedAt"), (0, u "()J"), (0, .class_ 39), (0, u "com/example/pathlatch/pathlatch/check/LogVerdictSerializablePinLaw"), (2, u "law"), (0, u "(JIIJI)Z")] 5

def k1m0 : Method := { name := "<init>", desc := "()V", sig := { parameters := [], returnType := none }, accessFlags := 1, code := none }
def k1c1 : Code := { maxStack := 7, maxLocals := 16, code := code, exceptionTable := #[], attributes := #[] }
def k1m1 : Method := { name := "law", desc := "(JIIJI)Z", sig := { parameters := [.long, .int, .int, .long, .int], returnType := some .boolean }, accessFlags := 9, code := some k1c1 }
/-- com/example/pathlatch/pathlatch/check/LogVerdictSerializablePinLaw -/
def k1 : Class := { plain "com/example/pathlatch/pathlatch/check/LogVerdictSerializablePinLaw" (some 0) with
  accessFlags := 49
  interfaces := #[]
  cf := some (fileOf pool1 38 #[] #[{ accessFlags := 1, nameIndex := 5, descriptorIndex := 6, attributes := #[] }, { accessFlags := 9, nameIndex := 42, descriptorIndex := 43, attributes := #[] }] 49 2 #[] #[])
  fields := #[]
  methods := #[k1m0, k1m1]
  instanceTypes := #[]
  staticTypes := #[]
  resolved := Array.replicate 49 none
  statics := none }

def pool2 : Array CpInfo := pool [(8, .class_ 10), (1, u "java/lang/Iterable"), (24, .class_ 36), (0, u "java/lang/Object")] 25

/-- java/lang/Iterable -/
def k2 : Class := { plain "java/lang/Iterable" (some 0) with
  accessFlags := 1537
  interfaces := #[]
  cf := some (fileOf pool2 8 #[] #[] 1537 35 #[] #[])
  fields := #[]
  methods := #[]
  instanceTypes := #[]
  staticTypes := #[]
  resolved := Array.replicate 62 none
  statics := none }

def pool3 : Array CpInfo := pool [(10, .class_ 12), (1, u "java/util/Collection"), (47, .class_ 61), (0, u "java/lang/Object"), (0, .class_ 63), (0, u "java/lang/Iterable")] 51

/-- java/util/Collection -/
def k3 : Class := { plain "java/util/Collection" (some 0) with
  accessFlags := 1537
  interfaces := #[2]
  cf := some (fileOf pool3 10 #[] #[] 1537 60 #[62] #[])
  fields := #[]
  methods := #[]
  instanceTypes := #[]
  staticTypes := #[]
  resolved := Array.replicate 115 none
  statics := none }

def pool4 : Array CpInfo := pool [(1, .methodref 2 3), (0, .class_ 4), (0, .nameAndType 5 6), (0, u "java/lang/Object"), (0, u "<init>"), (0, u "()V"), (1, .class_ 10), (1, u "java/util/AbstractCollection"), (66, .class_ 78), (0, u "java/util/Collection")] 81

def k4c0 : Code := { maxStack := 1, maxLocals := 1, code := jdk_22_method_1_code, exceptionTable := #[], attributes := #[] }
def k4m0 : Method := { name := "<init>", desc := "()V", sig := { parameters := [], returnType := none }, accessFlags := 4, code := some k4c0 }
/-- java/util/AbstractCollection -/
def k4 : Class := { plain "java/util/AbstractCollection" (some 0) with
  accessFlags := 1057
  interfaces := #[3]
  cf := some (fileOf pool4 8 #[] #[{ accessFlags := 4, nameIndex := 5, descriptorIndex := 6, attributes := #[] }] 1057 2 #[77] #[])
  fields := #[]
  methods := #[k4m0]
  instanceTypes := #[]
  staticTypes := #[]
  resolved := Array.replicate 160 none
  statics := none }

def pool5 : Array CpInfo := pool [(8, .class_ 10), (1, u "java/util/SequencedCollection"), (15, .class_ 27), (0, u "java/lang/Object"), (0, .class_ 29), (0, u "java/util/Collection")] 27

/-- java/util/SequencedCollection -/
def k5 : Class := { plain "java/util/SequencedCollection" (some 0) with
  accessFlags := 1537
  interfaces := #[3]
  cf := some (fileOf pool5 8 #[] #[] 1537 26 #[28] #[])
  fields := #[]
  methods := #[]
  instanceTypes := #[]
  staticTypes := #[]
  resolved := Array.replicate 57 none
  statics := none }

def pool6 : Array CpInfo := pool [(8, .class_ 10), (1, u "java/util/List"), (92, .class_ 104), (0, u "java/lang/Object"), (15, .class_ 121), (0, u "java/util/SequencedCollection")] 129

/-- java/util/List -/
def k6 : Class := { plain "java/util/List" (some 0) with
  accessFlags := 1537
  interfaces := #[5]
  cf := some (fileOf pool6 8 #[] #[] 1537 103 #[120] #[])
  fields := #[]
  methods := #[]
  instanceTypes := #[]
  staticTypes := #[]
  resolved := Array.replicate 251 none
  statics := none }

def pool7 : Array CpInfo := pool [(1, .methodref 2 3), (0, .class_ 4), (0, .nameAndType 5 6), (0, u "java/util/AbstractCollection"), (0, u "<init>"), (0, u "()V"), (0, .fieldref 8 9), (0, .class_ 10), (0, .nameAndType 11 12), (0, u "java/util/AbstractList"), (0, u "modCount"), (0, u "I"), (64, .class_ 78), (0, u "java/util/AbstractList$Itr"), (3, .class_ 83), (0, u "java/util/AbstractList$ListItr"), (9, .class_ 94), (0, u "java/util/AbstractList$RandomAccessSubList"), (3, .class_ 99), (0, u "java/util/AbstractList$SubList"), (33, .class_ 134), (0, u "java/util/List"), (73, .class_ 209), (0, u "java/util/AbstractList$SubList$1"), (0, .class_ 211), (0, u "java/util/AbstractList$RandomAccessSpliterator")] 6

def k7c0 : Code := { maxStack := 2, maxLocals := 1, code := jdk_39_method_1_code, exceptionTable := #[], attributes := #[] }
def k7m0 : Method := { name := "<init>", desc := "()V", sig := { parameters := [], returnType := none }, accessFlags := 4, code := some k7c0 }
/-- java/util/AbstractList -/
def k7 : Class := { plain "java/util/AbstractList" (some 4) with
  accessFlags := 1057
  interfaces := #[6]
  cf := some (fileOf pool7 8 #[.nestMembers #[93, 98, 208, 210, 82, 77]] #[{ accessFlags := 4, nameIndex := 5, descriptorIndex := 6, attributes := #[] }] 1057 2 #[133] #[{ accessFlags := 132, nameIndex := 11, descriptorIndex := 12, attributes := #[] }])
  fields := #[{ name := "modCount", type := .int, accessFlags := 132, slot := 0, constantValue := 0 }]
  methods := #[k7m0]
  instanceTypes := #[.int]
  staticTypes := #[]
  resolved := Array.replicate 218 none
  statics := none }

def pool8 : Array CpInfo := pool [(1, .class_ 2), (0, u "java/util/RandomAccess"), (0, .class_ 4), (0, u "java/lang/Object")] 2

/-- java/util/RandomAccess -/
def k8 : Class := { plain "java/util/RandomAccess" (some 0) with
  accessFlags := 1537
  interfaces := #[]
  cf := some (fileOf pool8 1 #[] #[] 1537 3 #[] #[])
  fields := #[]
  methods := #[]
  instanceTypes := #[]
  staticTypes := #[]
  resolved := Array.replicate 7 none
  statics := none }

def pool9 : Array CpInfo := pool [(1, .class_ 2), (0, u "java/lang/Cloneable"), (0, .class_ 4), (0, u "java/lang/Object")] 2

/-- java/lang/Cloneable -/
def k9 : Class := { plain "java/lang/Cloneable" (some 0) with
  accessFlags := 1537
  interfaces := #[]
  cf := some (fileOf pool9 1 #[] #[] 1537 3 #[] #[])
  fields := #[]
  methods := #[]
  instanceTypes := #[]
  staticTypes := #[]
  resolved := Array.replicate 7 none
  statics := none }

def pool10 : Array CpInfo := pool [(1, .class_ 2), (0, u "java/io/Serializable"), (0, .class_ 4), (0, u "java/lang/Object")] 2

/-- java/io/Serializable -/
def k10 : Class := { plain "java/io/Serializable" (some 0) with
  accessFlags := 1537
  interfaces := #[]
  cf := some (fileOf pool10 1 #[] #[] 1537 3 #[] #[])
  fields := #[]
  methods := #[]
  instanceTypes := #[]
  staticTypes := #[]
  resolved := Array.replicate 7 none
  statics := none }

def pool11 : Array CpInfo := pool [(1, .methodref 2 3), (0, .class_ 4), (0, .nameAndType 5 6), (0, u "java/util/AbstractList"), (0, u "<init>"), (0, u "()V"), (0, .class_ 8), (0, u "java/lang/Object"), (0, .fieldref 10 11), (0, .class_ 12), (0, .nameAndType 13 14), (0, u "java/util/ArrayList"), (0, u "elementData"), (0, u "[Ljava/lang/Object;"), (2, u "EMPTY_ELEMENTDATA"), (21, .fieldref 10 40), (0, .nameAndType 41 14), (0, u "DEFAULTCAPACITY_EMPTY_ELEMENTDATA"), (5, u "()[Ljava/lang/Object;"), (0, .fieldref 10 49), (0, .nameAndType 50 51), (0, u "size"), (0, u "I"), (11, .fieldref 10 64), (0, .nameAndType 65 51), (0, u "modCount"), (3, .methodref 10 70), (0, .nameAndType 71 72), (0, u "grow"), (0, u "(I)[Ljava/lang/Object;"), (6, .methodref 80 81), (0, .class_ 82), (0, .nameAndType 83 84), (0, u "java/lang/Math"), (0, u "max"), (0, u "(II)I"), (11, u "(Ljava/lang/Object;)Z"), (32, .methodref 10 130), (0, .nameAndType 71 47), (0, .methodref 10 132), (0, .nameAndType 133 134), (0, u "add"), (0, u "(Ljava/lang/Object;[Ljava/lang/Object;I)V"), (13, .class_ 149), (0, u "java/util/List"), (112, .class_ 263), (0, u "java/util/ArrayList$ListItr"), (3, .class_ 268), (0, u "java/util/ArrayList$Itr"), (7, .class_ 277), (0, u "java/util/ArrayList$SubList"), (12, .class_ 291), (0, u "java/util/ArrayList$ArrayListSpliterator"), (37, .class_ 330), (0, u "java/util/RandomAccess"), (0, .class_ 332), (0, u "java/lang/Cloneable"), (0, .class_ 334), (0, u "java/io/Serializable"), (0, u "serialVersionUID"), (0, u "J"), (3, u "DEFAULT_CAPACITY"), (159, .class_ 501), (0, u "java/util/ArrayList$SubList$2"), (0, .class_ 503), (0, u "java/util/ArrayList$SubList$1")] 5

def k11c0 : Code := { maxStack := 2, maxLocals := 1, code := jdk_38_method_2_code, exceptionTable := #[], attributes := #[] }
def k11m0 : Method := { name := "<init>", desc := "()V", sig := { parameters := [], returnType := none }, accessFlags := 1, code := some k11c0 }
def k11c1 : Code := { maxStack := 4, maxLocals := 4, code := jdk_38_method_6_code, exceptionTable := #[], attributes := #[] }
def k11m1 : Method := { name := "grow", desc := "(I)[Ljava/lang/Object;", sig := { parameters := [.int], returnType := some (.array (.object "java/lang/Object")) }, accessFlags := 2, code := some k11c1 }
def k11c2 : Code := { maxStack := 3, maxLocals := 1, code := jdk_38_method_7_code, exceptionTable := #[], attributes := #[] }
def k11m2 : Method := { name := "grow", desc := "()[Ljava/lang/Object;", sig := { parameters := [], returnType := some (.array (.object "java/lang/Object")) }, accessFlags := 2, code := some k11c2 }
def k11c3 : Code := { maxStack := 3, maxLocals := 4, code := jdk_38_method_24_code, exceptionTable := #[], attributes := #[] }
def k11m3 : Method := { name := "add", desc := "(Ljava/lang/Object;[Ljava/lang/Object;I)V", sig := { parameters := [(.object "java/lang/Object"), (.array (.object "java/lang/Object")), .int], returnType := none }, accessFlags := 2, code := some k11c3 }
def k11c4 : Code := { maxStack := 4, maxLocals := 2, code := jdk_38_method_25_code, exceptionTable := #[], attributes := #[] }
def k11m4 : Method := { name := "add", desc := "(Ljava/lang/Object;)Z", sig := { parameters := [(.object "java/lang/Object")], returnType := some .boolean }, accessFlags := 1, code := some k11c4 }
/-- java/util/ArrayList -/
def k11 : Class := { plain "java/util/ArrayList" (some 7) with
  accessFlags := 33
  interfaces := #[6, 8, 9, 10]
  cf := some (fileOf pool11 10 #[.nestMembers #[290, 276, 500, 502, 262, 267]] #[{ accessFlags := 1, nameIndex := 5, descriptorIndex := 6, attributes := #[] }, { accessFlags := 2, nameIndex := 71, descriptorIndex := 72, attributes := #[] }, { accessFlags := 2, nameIndex := 71, descriptorIndex := 47, attributes := #[] }, { accessFlags := 2, nameIndex := 133, descriptorIndex := 134, attributes := #[] }, { accessFlags := 1, nameIndex := 133, descriptorIndex := 96, attributes := #[] }] 33 2 #[148, 329, 331, 333] #[{ accessFlags := 26, nameIndex := 335, descriptorIndex := 336, attributes := #[] }, { accessFlags := 26, nameIndex := 340, descriptorIndex := 51, attributes := #[] }, { accessFlags := 26, nameIndex := 17, descriptorIndex := 14, attributes := #[] }, { accessFlags := 26, nameIndex := 41, descriptorIndex := 14, attributes := #[] }, { accessFlags := 128, nameIndex := 13, descriptorIndex := 14, attributes := #[] }, { accessFlags := 2, nameIndex := 50, descriptorIndex := 51, attributes := #[] }])
  fields := #[{ name := "serialVersionUID", type := .long, accessFlags := 26, slot := 0, constantValue := 0 }, { name := "DEFAULT_CAPACITY", type := .int, accessFlags := 26, slot := 1, constantValue := 0 }, { name := "EMPTY_ELEMENTDATA", type := (.array (.object "java/lang/Object")), accessFlags := 26, slot := 2, constantValue := 0 }, { name := "DEFAULTCAPACITY_EMPTY_ELEMENTDATA", type := (.array (.object "java/lang/Object")), accessFlags := 26, slot := 3, constantValue := 0 }, { name := "elementData", type := (.array (.object "java/lang/Object")), accessFlags := 128, slot := 1, constantValue := 0 }, { name := "size", type := .int, accessFlags := 2, slot := 2, constantValue := 0 }]
  methods := #[k11m0, k11m1, k11m2, k11m3, k11m4]
  instanceTypes := #[.int, (.array (.object "java/lang/Object")), .int]
  staticTypes := #[.long, .int, (.array (.object "java/lang/Object")), (.array (.object "java/lang/Object"))]
  resolved := Array.replicate 509 none
  statics := some 0 }

def pool12 : Array CpInfo := pool [(1, .methodref 2 3), (0, .class_ 4), (0, .nameAndType 5 6), (0, u "java/lang/Object"), (0, u "<init>"), (0, u "()V"), (1, .class_ 10), (1, u "java/lang/Number"), (2, .class_ 14), (0, u "java/io/Serializable"), (0, u "serialVersionUID"), (0, u "J")] 20

def k12c0 : Code := { maxStack := 1, maxLocals := 1, code := jdk_18_method_1_code, exceptionTable := #[], attributes := #[] }
def k12m0 : Method := { name := "<init>", desc := "()V", sig := { parameters := [], returnType := none }, accessFlags := 1, code := some k12c0 }
/-- java/lang/Number -/
def k12 : Class := { plain "java/lang/Number" (some 0) with
  accessFlags := 1057
  interfaces := #[10]
  cf := some (fileOf pool12 8 #[] #[{ accessFlags := 1, nameIndex := 5, descriptorIndex := 6, attributes := #[] }] 1057 2 #[13] #[{ accessFlags := 26, nameIndex := 15, descriptorIndex := 16, attributes := #[] }])
  fields := #[{ name := "serialVersionUID", type := .long, accessFlags := 26, slot := 0, constantValue := 0 }]
  methods := #[k12m0]
  instanceTypes := #[]
  staticTypes := #[.long]
  resolved := Array.replicate 37 none
  statics := none }

def pool13 : Array CpInfo := pool [(1, .class_ 2), (0, u "java/lang/Comparable"), (0, .class_ 4), (0, u "java/lang/Object")] 7

/-- java/lang/Comparable -/
def k13 : Class := { plain "java/lang/Comparable" (some 0) with
  accessFlags := 1537
  interfaces := #[]
  cf := some (fileOf pool13 1 #[] #[] 1537 3 #[] #[])
  fields := #[]
  methods := #[]
  instanceTypes := #[]
  staticTypes := #[]
  resolved := Array.replicate 12 none
  statics := none }

def pool14 : Array CpInfo := pool [(1, .class_ 2), (0, u "java/lang/constant/Constable"), (0, .class_ 4), (0, u "java/lang/Object")] 6

/-- java/lang/constant/Constable -/
def k14 : Class := { plain "java/lang/constant/Constable" (some 0) with
  accessFlags := 1537
  interfaces := #[]
  cf := some (fileOf pool14 1 #[] #[] 1537 3 #[] #[])
  fields := #[]
  methods := #[]
  instanceTypes := #[]
  staticTypes := #[]
  resolved := Array.replicate 11 none
  statics := none }

def pool15 : Array CpInfo := pool [(1, .class_ 2), (0, u "java/lang/constant/ConstantDesc"), (0, .class_ 4), (0, u "java/lang/Object")] 32

/-- java/lang/constant/ConstantDesc -/
def k15 : Class := { plain "java/lang/constant/ConstantDesc" (some 0) with
  accessFlags := 1537
  interfaces := #[]
  cf := some (fileOf pool15 1 #[] #[] 1537 3 #[] #[])
  fields := #[]
  methods := #[]
  instanceTypes := #[]
  staticTypes := #[]
  resolved := Array.replicate 37 none
  statics := none }

def pool16 : Array CpInfo := pool [(1, .class_ 2), (0, u "java/lang/Long"), (55, .nameAndType 59 60), (0, u "<init>"), (0, u "()V"), (24, u "valueOf"), (143, u "(J)Ljava/lang/Long;"), (0, .long 18446744073709551488), (1, .long 127), (1, .fieldref 235 236), (0, .class_ 237), (0, .nameAndType 238 239), (0, u "java/lang/Long$LongCache"), (0, u "cache"), (0, u "[Ljava/lang/Long;"), (0, .methodref 1 241), (0, .nameAndType 59 242), (0, u "(J)V"), (27, .methodref 271 58), (0, .class_ 272), (0, u "java/lang/Number"), (0, .fieldref 1 274), (0, .nameAndType 275 276), (0, u "value"), (0, u "J"), (84, u "TYPE"), (0, u "Ljava/lang/Class;"), (0, .class_ 364), (0, u "java/lang/Comparable"), (0, .class_ 366), (0, u "java/lang/constant/Constable"), (0, .class_ 368), (0, u "java/lang/constant/ConstantDesc"), (0, u "MIN_VALUE"), (1, u "MAX_VALUE"), (4, u "SIZE"), (0, u "I"), (1, u "BYTES"), (1, u "serialVersionUID")] 142

def k16c0 : Code := { maxStack := 4, maxLocals := 3, code := jdk_35_method_24_code, exceptionTable := #[], attributes := #[] }
def k16m0 : Method := { name := "valueOf", desc := "(J)Ljava/lang/Long;", sig := { parameters := [.long], returnType := some (.object "java/lang/Long") }, accessFlags := 9, code := some k16c0 }
def k16c1 : Code := { maxStack := 3, maxLocals := 3, code := jdk_35_method_26_code, exceptionTable := #[], attributes := #[] }
def k16m1 : Method := { name := "<init>", desc := "(J)V", sig := { parameters := [.long], returnType := none }, accessFlags := 1, code := some k16c1 }
/-- java/lang/Long -/
def k16 : Class := { plain "java/lang/Long" (some 12) with
  accessFlags := 49
  interfaces := #[13, 14, 15]
  cf := some (fileOf pool16 1 #[.nestMembers #[235]] #[{ accessFlags := 9, nameIndex := 85, descriptorIndex := 229, attributes := #[] }, { accessFlags := 1, nameIndex := 59, descriptorIndex := 242, attributes := #[] }] 49 271 #[363, 365, 367] #[{ accessFlags := 25, nameIndex := 369, descriptorIndex := 276, attributes := #[] }, { accessFlags := 25, nameIndex := 371, descriptorIndex := 276, attributes := #[] }, { accessFlags := 25, nameIndex := 361, descriptorIndex := 362, attributes := #[] }, { accessFlags := 18, nameIndex := 275, descriptorIndex := 276, attributes := #[] }, { accessFlags := 25, nameIndex := 376, descriptorIndex := 377, attributes := #[] }, { accessFlags := 25, nameIndex := 379, descriptorIndex := 377, attributes := #[] }, { accessFlags := 26, nameIndex := 381, descriptorIndex := 276, attributes := #[] }])
  fields := #[{ name := "MIN_VALUE", type := .long, accessFlags := 25, slot := 0, constantValue := 0 }, { name := "MAX_VALUE", type := .long, accessFlags := 25, slot := 1, constantValue := 0 }, { name := "TYPE", type := (.object "java/lang/Class"), accessFlags := 25, slot := 2, constantValue := 0 }, { name := "value", type := .long, accessFlags := 18, slot := 0, constantValue := 0 }, { name := "SIZE", type := .int, accessFlags := 25, slot := 3, constantValue := 0 }, { name := "BYTES", type := .int, accessFlags := 25, slot := 4, constantValue := 0 }, { name := "serialVersionUID", type := .long, accessFlags := 26, slot := 5, constantValue := 0 }]
  methods := #[k16m0, k16m1]
  instanceTypes := #[.long]
  staticTypes := #[.long, .long, (.object "java/lang/Class"), .int, .int, .long]
  resolved := Array.replicate 524 none
  statics := none }

def pool17 : Array CpInfo := pool [(1, .class_ 2), (0, u "java/lang/Math"), (1, .class_ 6), (1, u "java/lang/Object"), (0, u "<init>"), (0, u "()V"), (89, .class_ 100), (1, u "java/lang/Math$RandomNumberGeneratorHolder"), (71, u "negativeZeroFloatBits"), (0, u "J"), (2, u "negativeZeroDoubleBits"), (21, u "max"), (46, u "$assertionsDisabled"), (0, u "Z"), (88, u "(II)I"), (2, u "twoToTheDoubleScaleDown"), (0, u "D"), (4, u "twoToTheDoubleScaleUp"), (9, u "E"), (3, u "PI"), (2, u "TAU"), (2, u "DEGREES_TO_RADIANS"), (0, u "RADIANS_TO_DEGREES")] 94

def k17m0 : Method := { name := "<init>", desc := "()V", sig := { parameters := [], returnType := none }, accessFlags := 2, code := none }
def k17c1 : Code := { maxStack := 2, maxLocals := 2, code := jdk_29_method_65_code, exceptionTable := #[], attributes := #[] }
def k17m1 : Method := { name := "max", desc := "(II)I", sig := { parameters := [.int, .int], returnType := some .int }, accessFlags := 9, code := some k17c1 }
/-- java/lang/Math -/
def k17 : Class := { plain "java/lang/Math" (some 0) with
  accessFlags := 49
  interfaces := #[]
  cf := some (fileOf pool17 1 #[.nestMembers #[98]] #[{ accessFlags := 2, nameIndex := 7, descriptorIndex := 8, attributes := #[] }, { accessFlags := 9, nameIndex := 198, descriptorIndex := 335, attributes := #[] }] 49 4 #[] #[{ accessFlags := 25, nameIndex := 354, descriptorIndex := 339, attributes := #[] }, { accessFlags := 25, nameIndex := 358, descriptorIndex := 339, attributes := #[] }, { accessFlags := 25, nameIndex := 361, descriptorIndex := 339, attributes := #[] }, { accessFlags := 26, nameIndex := 364, descriptorIndex := 339, attributes := #[] }, { accessFlags := 26, nameIndex := 365, descriptorIndex := 339, attributes := #[] }, { accessFlags := 26, nameIndex := 172, descriptorIndex := 173, attributes := #[] }, { accessFlags := 26, nameIndex := 176, descriptorIndex := 173, attributes := #[] }, { accessFlags := 8, nameIndex := 344, descriptorIndex := 339, attributes := #[] }, { accessFlags := 8, nameIndex := 338, descriptorIndex := 339, attributes := #[] }, { accessFlags := 4120, nameIndex := 245, descriptorIndex := 246, attributes := #[] }])
  fields := #[{ name := "E", type := .double, accessFlags := 25, slot := 0, constantValue := 0 }, { name := "PI", type := .double, accessFlags := 25, slot := 1, constantValue := 0 }, { name := "TAU", type := .double, accessFlags := 25, slot := 2, constantValue := 0 }, { name := "DEGREES_TO_RADIANS", type := .double, accessFlags := 26, slot := 3, constantValue := 0 }, { name := "RADIANS_TO_DEGREES", type := .double, accessFlags := 26, slot := 4, constantValue := 0 }, { name := "negativeZeroFloatBits", type := .long, accessFlags := 26, slot := 5, constantValue := 0 }, { name := "negativeZeroDoubleBits", type := .long, accessFlags := 26, slot := 6, constantValue := 0 }, { name := "twoToTheDoubleScaleUp", type := .double, accessFlags := 8, slot := 7, constantValue := 0 }, { name := "twoToTheDoubleScaleDown", type := .double, accessFlags := 8, slot := 8, constantValue := 0 }, { name := "$assertionsDisabled", type := .boolean, accessFlags := 4120, slot := 9, constantValue := 0 }]
  methods := #[k17m0, k17m1]
  instanceTypes := #[]
  staticTypes := #[.double, .double, .double, .double, .double, .long, .long, .double, .double, .boolean]
  resolved := Array.replicate 460 none
  statics := none }

def pool18 : Array CpInfo := pool [(1, .methodref 2 3), (0, .class_ 4), (0, .nameAndType 5 6), (0, u "java/lang/Object"), (0, u "<init>"), (0, u "()V"), (0, .class_ 8), (0, u "java/lang/Record")] 13

def k18c0 : Code := { maxStack := 1, maxLocals := 1, code := jdk_30_method_1_code, exceptionTable := #[], attributes := #[] }
def k18m0 : Method := { name := "<init>", desc := "()V", sig := { parameters := [], returnType := none }, accessFlags := 4, code := some k18c0 }
/-- java/lang/Record -/
def k18 : Class := { plain "java/lang/Record" (some 0) with
  accessFlags := 1057
  interfaces := #[]
  cf := some (fileOf pool18 7 #[] #[{ accessFlags := 4, nameIndex := 5, descriptorIndex := 6, attributes := #[] }] 1057 2 #[] #[])
  fields := #[]
  methods := #[k18m0]
  instanceTypes := #[]
  staticTypes := #[]
  resolved := Array.replicate 22 none
  statics := none }

def pool19 : Array CpInfo := pool [(1, .methodref 2 3), (0, .class_ 4), (0, .nameAndType 5 6), (0, u "java/lang/Record"), (0, u "<init>"), (0, u "()V"), (0, .fieldref 8 9), (0, .class_ 10), (0, .nameAndType 11 12), (0, u "com/example/pathlatch/pathlatch/check/LogVerdict"), (0, u "closedAt"), (0, u "J"), (0, .fieldref 8 14), (0, .nameAndType 15 16), (0, u "closingToken"), (0, u "Ljava/lang/String;"), (0, .fieldref 8 18), (0, .nameAndType 19 20), (0, u "serialOrder"), (0, u "Ljava/util/List;"), (0, .fieldref 8 22), (0, .nameAndType 23 20), (0, u "cycle"), (14, u "(JLjava/lang/String;Ljava/util/List;Ljava/util/List;)V"), (4, u "serializable"), (0, u "()Z"), (4, u "()J")] 25

def k19c0 : Code := { maxStack := 3, maxLocals := 6, code := prog_48_method_1_code, exceptionTable := #[], attributes := #[] }
def k19m0 : Method := { name := "<init>", desc := "(JLjava/lang/String;Ljava/util/List;Ljava/util/List;)V", sig := { parameters := [.long, (.object "java/lang/String"), (.object "java/util/List"), (.object "java/util/List")], returnType := none }, accessFlags := 1, code := some k19c0 }
def k19c1 : Code := { maxStack := 4, maxLocals := 1, code := prog_48_method_2_code, exceptionTable := #[], attributes := #[] }
def k19m1 : Method := { name := "serializable", desc := "()Z", sig := { parameters := [], returnType := some .boolean }, accessFlags := 1, code := some k19c1 }
def k19c2 : Code := { maxStack := 2, maxLocals := 1, code := prog_48_method_6_code, exceptionTable := #[], attributes := #[] }
def k19m2 : Method := { name := "closedAt", desc := "()J", sig := { parameters := [], returnType := some .long }, accessFlags := 1, code := some k19c2 }
/-- com/example/pathlatch/pathlatch/check/LogVerdict -/
def k19 : Class := { plain "com/example/pathlatch/pathlatch/check/LogVerdict" (some 18) with
  accessFlags := 49
  interfaces := #[]
  cf := some (fileOf pool19 8 #[] #[{ accessFlags := 1, nameIndex := 5, descriptorIndex := 38, attributes := #[] }, { accessFlags := 1, nameIndex := 43, descriptorIndex := 44, attributes := #[] }, { accessFlags := 1, nameIndex := 11, descriptorIndex := 49, attributes := #[] }] 49 2 #[] #[{ accessFlags := 18, nameIndex := 11, descriptorIndex := 12, attributes := #[] }, { accessFlags := 18, nameIndex := 15, descriptorIndex := 16, attributes := #[] }, { accessFlags := 18, nameIndex := 19, descriptorIndex := 20, attributes := #[] }, { accessFlags := 18, nameIndex := 23, descriptorIndex := 20, attributes := #[] }])
  fields := #[{ name := "closedAt", type := .long, accessFlags := 18, slot := 0, constantValue := 0 }, { name := "closingToken", type := (.object "java/lang/String"), accessFlags := 18, slot := 1, constantValue := 0 }, { name := "serialOrder", type := (.object "java/util/List"), accessFlags := 18, slot := 2, constantValue := 0 }, { name := "cycle", type := (.object "java/util/List"), accessFlags := 18, slot := 3, constantValue := 0 }]
  methods := #[k19m0, k19m1, k19m2]
  instanceTypes := #[.long, (.object "java/lang/String"), (.object "java/util/List"), (.object "java/util/List")]
  staticTypes := #[]
  resolved := Array.replicate 75 none
  statics := none }

def pool20 : Array CpInfo := pool [(2, .class_ 4), (1, u "java/lang/CharSequence"), (42, .class_ 48), (0, u "java/lang/CharSequence$1CodePointIterator"), (10, .class_ 60), (0, u "java/lang/CharSequence$1CharIterator"), (5, .class_ 67), (0, u "java/lang/Object")] 63

/-- java/lang/CharSequence -/
def k20 : Class := { plain "java/lang/CharSequence" (some 0) with
  accessFlags := 1537
  interfaces := #[]
  cf := some (fileOf pool20 2 #[.nestMembers #[47, 59]] #[] 1537 66 #[] #[])
  fields := #[]
  methods := #[]
  instanceTypes := #[]
  staticTypes := #[]
  resolved := Array.replicate 131 none
  statics := none }

def pool21 : Array CpInfo := pool [(1, .methodref 2 3), (0, .class_ 4), (0, .nameAndType 5 6), (0, u "java/lang/Object"), (0, u "<init>"), (0, u "()V"), (2, .fieldref 10 11), (0, .class_ 12), (0, .nameAndType 13 14), (0, u "java/lang/String"), (0, u "value"), (0, u "[B"), (0, .fieldref 10 16), (0, .nameAndType 17 18), (0, u "coder"), (0, u "B"), (2, u "hash"), (0, u "I"), (2, u "hashIsZero"), (0, u "Z"), (0, .methodref 10 28), (0, .nameAndType 5 29), (0, u "([CIILjava/lang/Void;)V"), (8, .fieldref 10 39), (0, .nameAndType 40 26), (0, u "COMPACT_STRINGS"), (1, .class_ 44), (1, u "java/lang/StringUTF16"), (0, u "compress"), (1, .methodref 42 48), (0, .nameAndType 49 50), (0, u "coderFromArrayLen"), (0, u "([BI)B"), (126, .methodref 42 178), (0, .nameAndType 45 179), (0, u "([CII)[B"), (395, .class_ 576), (0, u "java/lang/CharSequence"), (22, u "CASE_INSENSITIVE_ORDER"), (0, u "Ljava/util/Comparator;"), (409, u "([C)V"), (90, u "serialPersistentFields"), (0, u "[Ljava/io/ObjectStreamField;"), (0, .class_ 1104), (0, u "java/lang/String$CaseInsensitiveComparator"), (1, .class_ 1107), (0, u "java/io/Serializable"), (0, .class_ 1109), (0, u "java/lang/Comparable"), (0, .class_ 1111), (0, u "java/lang/constant/Constable"), (0, .class_ 1113), (0, u "java/lang/constant/ConstantDesc"), (2, u "serialVersionUID"), (0, u "J"), (3, u "REPL"), (0, u "C"), (2, u "LATIN1"), (1, u "UTF16")] 323

def k21m0 : Method := { name := "<init>", desc := "()V", sig := { parameters := [], returnType := none }, accessFlags := 1, code := none }
def k21c1 : Code := { maxStack := 5, maxLocals := 2, code := jdk_42_method_3_code, exceptionTable := #[], attributes := #[] }
def k21m1 : Method := { name := "<init>", desc := "([C)V", sig := { parameters := [(.array .char)], returnType := none }, accessFlags := 1, code := some k21c1 }
def k21c2 : Code := { maxStack := 4, maxLocals := 6, code := jdk_42_method_149_code, exceptionTable := #[], attributes := #[] }
def k21m2 : Method := { name := "<init>", desc := "([CIILjava/lang/Void;)V", sig := { parameters := [(.array .char), .int, .int, (.object "java/lang/Void")], returnType := none }, accessFlags := 2, code := some k21c2 }
/-- java/lang/String -/
def k21 : Class := { plain "java/lang/String" (some 0) with
  accessFlags := 49
  interfaces := #[10, 13, 20, 14, 15]
  cf := some (fileOf pool21 10 #[.nestMembers #[1103]] #[{ accessFlags := 1, nameIndex := 5, descriptorIndex := 6, attributes := #[] }, { accessFlags := 1, nameIndex := 5, descriptorIndex := 1010, attributes := #[] }, { accessFlags := 2, nameIndex := 5, descriptorIndex := 29, attributes := #[] }] 49 2 #[1106, 1108, 575, 1110, 1112] #[{ accessFlags := 18, nameIndex := 13, descriptorIndex := 14, attributes := #[] }, { accessFlags := 18, nameIndex := 17, descriptorIndex := 18, attributes := #[] }, { accessFlags := 2, nameIndex := 21, descriptorIndex := 22, attributes := #[] }, { accessFlags := 2, nameIndex := 25, descriptorIndex := 26, attributes := #[] }, { accessFlags := 26, nameIndex := 1116, descriptorIndex := 1117, attributes := #[] }, { accessFlags := 24, nameIndex := 40, descriptorIndex := 26, attributes := #[] }, { accessFlags := 26, nameIndex := 1101, descriptorIndex := 1102, attributes := #[] }, { accessFlags := 26, nameIndex := 1121, descriptorIndex := 1122, attributes := #[] }, { accessFlags := 25, nameIndex := 599, descriptorIndex := 600, attributes := #[] }, { accessFlags := 24, nameIndex := 1125, descriptorIndex := 18, attributes := #[] }, { accessFlags := 24, nameIndex := 1127, descriptorIndex := 18, attributes := #[] }])
  fields := #[{ name := "value", type := (.array .byte), accessFlags := 18, slot := 0, constantValue := 0 }, { name := "coder", type := .byte, accessFlags := 18, slot := 1, constantValue := 0 }, { name := "hash", type := .int, accessFlags := 2, slot := 2, constantValue := 0 }, { name := "hashIsZero", type := .boolean, accessFlags := 2, slot := 3, constantValue := 0 }, { name := "serialVersionUID", type := .long, accessFlags := 26, slot := 0, constantValue := 0 }, { name := "COMPACT_STRINGS", type := .boolean, accessFlags := 24, slot := 1, constantValue := 0 }, { name := "serialPersistentFields", type := (.array (.object "java/io/ObjectStreamField")), accessFlags := 26, slot := 2, constantValue := 0 }, { name := "REPL", type := .char, accessFlags := 26, slot := 3, constantValue := 0 }, { name := "CASE_INSENSITIVE_ORDER", type := (.object "java/util/Comparator"), accessFlags := 25, slot := 4, constantValue := 0 }, { name := "LATIN1", type := .byte, accessFlags := 24, slot := 5, constantValue := 0 }, { name := "UTF16", type := .byte, accessFlags := 24, slot := 6, constantValue := 0 }]
  methods := #[k21m0, k21m1, k21m2]
  instanceTypes := #[(.array .byte), .byte, .int, .boolean]
  staticTypes := #[.long, .boolean, (.array (.object "java/io/ObjectStreamField")), .char, (.object "java/util/Comparator"), .byte, .byte]
  resolved := Array.replicate 1451 none
  statics := some 1 }

def pool22 : Array CpInfo := pool [(6, .class_ 8), (1, u "java/lang/Object"), (0, u "<init>"), (0, u "()V"), (1, .class_ 14), (1, u "java/lang/StringUTF16"), (31, u "$assertionsDisabled"), (0, u "Z"), (13, u "HI_BYTE_SHIFT"), (0, u "I"), (2, u "LO_BYTE_SHIFT"), (49, .methodref 12 116), (0, .nameAndType 117 118), (0, u "compress"), (0, u "([CI[BII)I"), (3, u "([CII)[B"), (138, u "coderFromArrayLen"), (0, u "([BI)B"), (106, .class_ 371), (1, u "java/lang/StringUTF16$LinesSpliterator"), (58, u "MAX_LENGTH"), (196, .class_ 628), (0, u "java/lang/StringUTF16$CodePointsSpliterator"), (0, .class_ 630), (0, u "java/lang/StringUTF16$CharsSpliterator")] 4

def k22m0 : Method := { name := "<init>", desc := "()V", sig := { parameters := [], returnType := none }, accessFlags := 0, code := none }
def k22c1 : Code := { maxStack := 2, maxLocals := 2, code := jdk_52_method_15_code, exceptionTable := #[], attributes := #[] }
def k22m1 : Method := { name := "coderFromArrayLen", desc := "([BI)B", sig := { parameters := [(.array .byte), .int], returnType := some .byte }, accessFlags := 8, code := some k22c1 }
def k22c2 : Code := { maxStack := 5, maxLocals := 6, code := jdk_52_method_16_code, exceptionTable := #[], attributes := #[] }
def k22m2 : Method := { name := "compress", desc := "([CII)[B", sig := { parameters := [(.array .char), .int, .int], returnType := some (.array .byte) }, accessFlags := 9, code := some k22c2 }
def k22c3 : Code := { maxStack := 3, maxLocals := 7, code := jdk_52_method_21_code, exceptionTable := #[], attributes := #[] }
def k22m3 : Method := { name := "compress", desc := "([CI[BII)I", sig := { parameters := [(.array .char), .int, (.array .byte), .int, .int], returnType := some .int }, accessFlags := 9, code := some k22c3 }
/-- java/lang/StringUTF16 -/
def k22 : Class := { plain "java/lang/StringUTF16" (some 0) with
  accessFlags := 48
  interfaces := #[]
  cf := some (fileOf pool22 12 #[.nestMembers #[627, 629, 369]] #[{ accessFlags := 0, nameIndex := 9, descriptorIndex := 10, attributes := #[] }, { accessFlags := 8, nameIndex := 261, descriptorIndex := 262, attributes := #[] }, { accessFlags := 9, nameIndex := 117, descriptorIndex := 122, attributes := #[] }, { accessFlags := 9, nameIndex := 117, descriptorIndex := 118, attributes := #[] }] 48 6 #[] #[{ accessFlags := 26, nameIndex := 61, descriptorIndex := 62, attributes := #[] }, { accessFlags := 26, nameIndex := 65, descriptorIndex := 62, attributes := #[] }, { accessFlags := 24, nameIndex := 430, descriptorIndex := 62, attributes := #[] }, { accessFlags := 4120, nameIndex := 46, descriptorIndex := 47, attributes := #[] }])
  fields := #[{ name := "HI_BYTE_SHIFT", type := .int, accessFlags := 26, slot := 0, constantValue := 0 }, { name := "LO_BYTE_SHIFT", type := .int, accessFlags := 26, slot := 1, constantValue := 0 }, { name := "MAX_LENGTH", type := .int, accessFlags := 24, slot := 2, constantValue := 0 }, { name := "$assertionsDisabled", type := .boolean, accessFlags := 4120, slot := 3, constantValue := 0 }]
  methods := #[k22m0, k22m1, k22m2, k22m3]
  instanceTypes := #[]
  staticTypes := #[.int, .int, .int, .boolean]
  resolved := Array.replicate 635 none
  statics := none }

def pool23 : Array CpInfo := pool [(2, .class_ 4), (1, u "java/lang/Object"), (0, u "<init>"), (0, u "()V"), (0, .class_ 8), (0, u "java/lang/Long"), (7, .class_ 18), (1, u "java/lang/Long$LongCache"), (0, u "$assertionsDisabled"), (0, u "Z"), (8, u "archivedCache"), (0, u "[Ljava/lang/Long;"), (7, u "cache")] 24

def k23m0 : Method := { name := "<init>", desc := "()V", sig := { parameters := [], returnType := none }, accessFlags := 2, code := none }
/-- java/lang/Long$LongCache -/
def k23 : Class := { plain "java/lang/Long$LongCache" (some 0) with
  accessFlags := 48
  interfaces := #[]
  cf := some (fileOf pool23 16 #[.nestHost 7] #[{ accessFlags := 2, nameIndex := 5, descriptorIndex := 6, attributes := #[] }] 48 2 #[] #[{ accessFlags := 24, nameIndex := 38, descriptorIndex := 30, attributes := #[] }, { accessFlags := 8, nameIndex := 29, descriptorIndex := 30, attributes := #[] }, { accessFlags := 4120, nameIndex := 19, descriptorIndex := 20, attributes := #[] }])
  fields := #[{ name := "cache", type := (.array (.object "java/lang/Long")), accessFlags := 24, slot := 0, constantValue := 0 }, { name := "archivedCache", type := (.array (.object "java/lang/Long")), accessFlags := 8, slot := 1, constantValue := 0 }, { name := "$assertionsDisabled", type := .boolean, accessFlags := 4120, slot := 2, constantValue := 0 }]
  methods := #[k23m0]
  instanceTypes := #[]
  staticTypes := #[(.array (.object "java/lang/Long")), (.array (.object "java/lang/Long")), .boolean]
  resolved := Array.replicate 63 none
  statics := some 2 }

def pool24 : Array CpInfo := pool [(4, .class_ 6), (1, u "java/lang/Object"), (0, u "<init>"), (0, u "()V"), (5, .class_ 16), (1, u "java/lang/StringLatin1"), (104, u "$assertionsDisabled"), (0, u "Z"), (98, .class_ 223), (1, u "java/lang/StringLatin1$LinesSpliterator"), (166, .class_ 391), (0, u "java/lang/StringLatin1$CharsSpliterator")] 3

def k24m0 : Method := { name := "<init>", desc := "()V", sig := { parameters := [], returnType := none }, accessFlags := 0, code := none }
/-- java/lang/StringLatin1 -/
def k24 : Class := { plain "java/lang/StringLatin1" (some 0) with
  accessFlags := 48
  interfaces := #[]
  cf := some (fileOf pool24 14 #[.nestMembers #[390, 221]] #[{ accessFlags := 0, nameIndex := 7, descriptorIndex := 8, attributes := #[] }] 48 4 #[] #[{ accessFlags := 4120, nameIndex := 121, descriptorIndex := 122, attributes := #[] }])
  fields := #[{ name := "$assertionsDisabled", type := .boolean, accessFlags := 4120, slot := 0, constantValue := 0 }]
  methods := #[k24m0]
  instanceTypes := #[]
  staticTypes := #[.boolean]
  resolved := Array.replicate 395 none
  statics := none }

def pool25 : Array CpInfo := pool [(2, .class_ 4), (1, u "java/lang/Object"), (0, u "<init>"), (0, u "()V"), (17, .class_ 26), (1, u "jdk/internal/util/Preconditions"), (28, .class_ 56), (0, u "jdk/internal/util/Preconditions$4"), (57, .class_ 115), (0, u "jdk/internal/util/Preconditions$1"), (7, u "SIOOBE_FORMATTER"), (0, u "Ljava/util/function/BiFunction;"), (0, .class_ 126), (0, u "jdk/internal/util/Preconditions$2"), (3, u "AIOOBE_FORMATTER"), (0, .class_ 132), (0, u "jdk/internal/util/Preconditions$3"), (3, u "IOOBE_FORMATTER")] 57

def k25m0 : Method := { name := "<init>", desc := "()V", sig := { parameters := [], returnType := none }, accessFlags := 1, code := none }
/-- jdk/internal/util/Preconditions -/
def k25 : Class := { plain "jdk/internal/util/Preconditions" (some 0) with
  accessFlags := 33
  interfaces := #[]
  cf := some (fileOf pool25 24 #[.nestMembers #[55, 131, 125, 114]] #[{ accessFlags := 1, nameIndex := 5, descriptorIndex := 6, attributes := #[] }] 33 2 #[] #[{ accessFlags := 25, nameIndex := 123, descriptorIndex := 124, attributes := #[] }, { accessFlags := 25, nameIndex := 130, descriptorIndex := 124, attributes := #[] }, { accessFlags := 25, nameIndex := 136, descriptorIndex := 124, attributes := #[] }])
  fields := #[{ name := "SIOOBE_FORMATTER", type := (.object "java/util/function/BiFunction"), accessFlags := 25, slot := 0, constantValue := 0 }, { name := "AIOOBE_FORMATTER", type := (.object "java/util/function/BiFunction"), accessFlags := 25, slot := 1, constantValue := 0 }, { name := "IOOBE_FORMATTER", type := (.object "java/util/function/BiFunction"), accessFlags := 25, slot := 2, constantValue := 0 }]
  methods := #[k25m0]
  instanceTypes := #[]
  staticTypes := #[(.object "java/util/function/BiFunction"), (.object "java/util/function/BiFunction"), (.object "java/util/function/BiFunction")]
  resolved := Array.replicate 194 none
  statics := some 3 }

def pool26 : Array CpInfo := pool [(9, u "<init>"), (6, .class_ 18), (1, u "java/lang/Object"), (0, u "()V"), (1, .class_ 23), (1, u "jdk/internal/util/ArraysSupport"), (0, u "LOG2_ARRAY_LONG_INDEX_SCALE"), (0, u "I"), (2, u "U"), (0, u "Ljdk/internal/misc/Unsafe;"), (8, u "BIG_ENDIAN"), (0, u "Z"), (8, u "LOG2_BYTE_BIT_SIZE"), (4, u "LOG2_ARRAY_INT_INDEX_SCALE"), (54, u "JLA"), (0, u "Ljdk/internal/access/JavaLangAccess;"), (11, u "LOG2_ARRAY_BOOLEAN_INDEX_SCALE"), (9, u "LOG2_ARRAY_BYTE_INDEX_SCALE"), (5, u "LOG2_ARRAY_CHAR_INDEX_SCALE"), (5, u "LOG2_ARRAY_SHORT_INDEX_SCALE"), (18, u "LOG2_ARRAY_FLOAT_INDEX_SCALE"), (24, u "LOG2_ARRAY_DOUBLE_INDEX_SCALE"), (89, u "T_BOOLEAN"), (2, u "T_CHAR"), (1, u "T_FLOAT"), (1, u "T_DOUBLE"), (1, u "T_BYTE"), (1, u "T_SHORT"), (1, u "T_INT"), (1, u "T_LONG"), (1, u "SOFT_MAX_ARRAY_LENGTH")] 83

def k26m0 : Method := { name := "<init>", desc := "()V", sig := { parameters := [], returnType := none }, accessFlags := 2, code := none }
/-- jdk/internal/util/ArraysSupport -/
def k26 : Class := { plain "jdk/internal/util/ArraysSupport" (some 0) with
  accessFlags := 33
  interfaces := #[]
  cf := some (fileOf pool26 21 #[] #[{ accessFlags := 2, nameIndex := 9, descriptorIndex := 19, attributes := #[] }] 33 16 #[] #[{ accessFlags := 24, nameIndex := 28, descriptorIndex := 29, attributes := #[] }, { accessFlags := 26, nameIndex := 38, descriptorIndex := 39, attributes := #[] }, { accessFlags := 25, nameIndex := 121, descriptorIndex := 25, attributes := #[] }, { accessFlags := 25, nameIndex := 131, descriptorIndex := 25, attributes := #[] }, { accessFlags := 25, nameIndex := 137, descriptorIndex := 25, attributes := #[] }, { accessFlags := 25, nameIndex := 143, descriptorIndex := 25, attributes := #[] }, { accessFlags := 25, nameIndex := 53, descriptorIndex := 25, attributes := #[] }, { accessFlags := 25, nameIndex := 24, descriptorIndex := 25, attributes := #[] }, { accessFlags := 25, nameIndex := 162, descriptorIndex := 25, attributes := #[] }, { accessFlags := 25, nameIndex := 187, descriptorIndex := 25, attributes := #[] }, { accessFlags := 26, nameIndex := 48, descriptorIndex := 25, attributes := #[] }, { accessFlags := 25, nameIndex := 277, descriptorIndex := 25, attributes := #[] }, { accessFlags := 25, nameIndex := 280, descriptorIndex := 25, attributes := #[] }, { accessFlags := 25, nameIndex := 282, descriptorIndex := 25, attributes := #[] }, { accessFlags := 25, nameIndex := 284, descriptorIndex := 25, attributes := #[] }, { accessFlags := 25, nameIndex := 286, descriptorIndex := 25, attributes := #[] }, { accessFlags := 25, nameIndex := 288, descriptorIndex := 25, attributes := #[] }, { accessFlags := 25, nameIndex := 290, descriptorIndex := 25, attributes := #[] }, { accessFlags := 25, nameIndex := 292, descriptorIndex := 25, attributes := #[] }, { accessFlags := 26, nameIndex := 108, descriptorIndex := 109, attributes := #[] }, { accessFlags := 25, nameIndex := 294, descriptorIndex := 25, attributes := #[] }])
  fields := #[{ name := "U", type := (.object "jdk/internal/misc/Unsafe"), accessFlags := 24, slot := 0, constantValue := 0 }, { name := "BIG_ENDIAN", type := .boolean, accessFlags := 26, slot := 1, constantValue := 0 }, { name := "LOG2_ARRAY_BOOLEAN_INDEX_SCALE", type := .int, accessFlags := 25, slot := 2, constantValue := 0 }, { name := "LOG2_ARRAY_BYTE_INDEX_SCALE", type := .int, accessFlags := 25, slot := 3, constantValue := 0 }, { name := "LOG2_ARRAY_CHAR_INDEX_SCALE", type := .int, accessFlags := 25, slot := 4, constantValue := 0 }, { name := "LOG2_ARRAY_SHORT_INDEX_SCALE", type := .int, accessFlags := 25, slot := 5, constantValue := 0 }, { name := "LOG2_ARRAY_INT_INDEX_SCALE", type := .int, accessFlags := 25, slot := 6, constantValue := 0 }, { name := "LOG2_ARRAY_LONG_INDEX_SCALE", type := .int, accessFlags := 25, slot := 7, constantValue := 0 }, { name := "LOG2_ARRAY_FLOAT_INDEX_SCALE", type := .int, accessFlags := 25, slot := 8, constantValue := 0 }, { name := "LOG2_ARRAY_DOUBLE_INDEX_SCALE", type := .int, accessFlags := 25, slot := 9, constantValue := 0 }, { name := "LOG2_BYTE_BIT_SIZE", type := .int, accessFlags := 26, slot := 10, constantValue := 0 }, { name := "T_BOOLEAN", type := .int, accessFlags := 25, slot := 11, constantValue := 0 }, { name := "T_CHAR", type := .int, accessFlags := 25, slot := 12, constantValue := 0 }, { name := "T_FLOAT", type := .int, accessFlags := 25, slot := 13, constantValue := 0 }, { name := "T_DOUBLE", type := .int, accessFlags := 25, slot := 14, constantValue := 0 }, { name := "T_BYTE", type := .int, accessFlags := 25, slot := 15, constantValue := 0 }, { name := "T_SHORT", type := .int, accessFlags := 25, slot := 16, constantValue := 0 }, { name := "T_INT", type := .int, accessFlags := 25, slot := 17, constantValue := 0 }, { name := "T_LONG", type := .int, accessFlags := 25, slot := 18, constantValue := 0 }, { name := "JLA", type := (.object "jdk/internal/access/JavaLangAccess"), accessFlags := 26, slot := 19, constantValue := 0 }, { name := "SOFT_MAX_ARRAY_LENGTH", type := .int, accessFlags := 25, slot := 20, constantValue := 0 }]
  methods := #[k26m0]
  instanceTypes := #[]
  staticTypes := #[(.object "jdk/internal/misc/Unsafe"), .boolean, .int, .int, .int, .int, .int, .int, .int, .int, .int, .int, .int, .int, .int, .int, .int, .int, .int, (.object "jdk/internal/access/JavaLangAccess"), .int]
  resolved := Array.replicate 378 none
  statics := none }

/-- the primitive byte -/
def k27 : Class := { plain "byte" none with kind := .primitive 'B', accessFlags := 0x411 }
/-- [B -/
def k28 : Class := { plain "[B" (some 0) with kind := .array 27 .byte, interfaces := #[9, 10], accessFlags := 1041 }

/-- the primitive char -/
def k29 : Class := { plain "char" none with kind := .primitive 'C', accessFlags := 0x411 }
/-- [C -/
def k30 : Class := { plain "[C" (some 0) with kind := .array 29 .char, interfaces := #[9, 10], accessFlags := 1041 }

/-- the primitive int -/
def k31 : Class := { plain "int" none with kind := .primitive 'I', accessFlags := 0x411 }
/-- [I -/
def k32 : Class := { plain "[I" (some 0) with kind := .array 31 .int, interfaces := #[9, 10], accessFlags := 1041 }

/-- [Ljava/lang/Long; -/
def k33 : Class := { plain "[Ljava/lang/Long;" (some 0) with kind := .array 16 (.object "java/lang/Long"), interfaces := #[9, 10], accessFlags := 1041 }

/-- [Ljava/lang/Object; -/
def k34 : Class := { plain "[Ljava/lang/Object;" (some 0) with kind := .array 0 (.object "java/lang/Object"), interfaces := #[9, 10], accessFlags := 1041 }

def heap : Heap := #[{ cls := 11, slots := #[.long 0, .int 0, .ref 261, .ref 262], vm := .statics 11 },
  { cls := 21, slots := #[.long 0, .int 1, .null, .int 0, .null, .int 0, .int 0], vm := .statics 21 },
  { cls := 23, slots := #[.ref 4, .null, .int 0], vm := .statics 23 },
  { cls := 25, slots := #[.null, .null, .null], vm := .statics 25 },
  { cls := 33, slots := #[.ref 5, .ref 6, .ref 7, .ref 8, .ref 9, .ref 10, .ref 11, .ref 12, .ref 13, .ref 14, .ref 15, .ref 16, .ref 17, .ref 18, .ref 19, .ref 20, .ref 21, .ref 22, .ref 23, .ref 24, .ref 25, .ref 26, .ref 27, .ref 28, .ref 29, .ref 30, .ref 31, .ref 32, .ref 33, .ref 34, .ref 35, .ref 36, .ref 37, .ref 38, .ref 39, .ref 40, .ref 41, .ref 42, .ref 43, .ref 44, .ref 45, .ref 46, .ref 47, .ref 48, .ref 49, .ref 50, .ref 51, .ref 52, .ref 53, .ref 54, .ref 55, .ref 56, .ref 57, .ref 58, .ref 59, .ref 60, .ref 61, .ref 62, .ref 63, .ref 64, .ref 65, .ref 66, .ref 67, .ref 68, .ref 69, .ref 70, .ref 71, .ref 72, .ref 73, .ref 74, .ref 75, .ref 76, .ref 77, .ref 78, .ref 79, .ref 80, .ref 81, .ref 82, .ref 83, .ref 84, .ref 85, .ref 86, .ref 87, .ref 88, .ref 89, .ref 90, .ref 91, .ref 92, .ref 93, .ref 94, .ref 95, .ref 96, .ref 97, .ref 98, .ref 99, .ref 100, .ref 101, .ref 102, .ref 103, .ref 104, .ref 105, .ref 106, .ref 107, .ref 108, .ref 109, .ref 110, .ref 111, .ref 112, .ref 113, .ref 114, .ref 115, .ref 116, .ref 117, .ref 118, .ref 119, .ref 120, .ref 121, .ref 122, .ref 123, .ref 124, .ref 125, .ref 126, .ref 127, .ref 128, .ref 129, .ref 130, .ref 131, .ref 132, .ref 133, .ref 134, .ref 135, .ref 136, .ref 137, .ref 138, .ref 139, .ref 140, .ref 141, .ref 142, .ref 143, .ref 144, .ref 145, .ref 146, .ref 147, .ref 148, .ref 149, .ref 150, .ref 151, .ref 152, .ref 153, .ref 154, .ref 155, .ref 156, .ref 157, .ref 158, .ref 159, .ref 160, .ref 161, .ref 162, .ref 163, .ref 164, .ref 165, .ref 166, .ref 167, .ref 168, .ref 169, .ref 170, .ref 171, .ref 172, .ref 173, .ref 174, .ref 175, .ref 176, .ref 177, .ref 178, .ref 179, .ref 180, .ref 181, .ref 182, .ref 183, .ref 184, .ref 185, .ref 186, .ref 187, .ref 188, .ref 189, .ref 190, .ref 191, .ref 192, .ref 193, .ref 194, .ref 195, .ref 196, .ref 197, .ref 198, .ref 199, .ref 200, .ref 201, .ref 202, .ref 203, .ref 204, .ref 205, .ref 206, .ref 207, .ref 208, .ref 209, .ref 210, .ref 211, .ref 212, .ref 213, .ref 214, .ref 215, .ref 216, .ref 217, .ref 218, .ref 219, .ref 220, .ref 221, .ref 222, .ref 223, .ref 224, .ref 225, .ref 226, .ref 227, .ref 228, .ref 229, .ref 230, .ref 231, .ref 232, .ref 233, .ref 234, .ref 235, .ref 236, .ref 237, .ref 238, .ref 239, .ref 240, .ref 241, .ref 242, .ref 243, .ref 244, .ref 245, .ref 246, .ref 247, .ref 248, .ref 249, .ref 250, .ref 251, .ref 252, .ref 253, .ref 254, .ref 255, .ref 256, .ref 257, .ref 258, .ref 259, .ref 260], vm := .none },
  { cls := 16, slots := #[.long (-128)], vm := .none },
  { cls := 16, slots := #[.long (-127)], vm := .none },
  { cls := 16, slots := #[.long (-126)], vm := .none },
  { cls := 16, slots := #[.long (-125)], vm := .none },
  { cls := 16, slots := #[.long (-124)], vm := .none },
  { cls := 16, slots := #[.long (-123)], vm := .none },
  { cls := 16, slots := #[.long (-122)], vm := .none },
  { cls := 16, slots := #[.long (-121)], vm := .none },
  { cls := 16, slots := #[.long (-120)], vm := .none },
  { cls := 16, slots := #[.long (-119)], vm := .none },
  { cls := 16, slots := #[.long (-118)], vm := .none },
  { cls := 16, slots := #[.long (-117)], vm := .none },
  { cls := 16, slots := #[.long (-116)], vm := .none },
  { cls := 16, slots := #[.long (-115)], vm := .none },
  { cls := 16, slots := #[.long (-114)], vm := .none },
  { cls := 16, slots := #[.long (-113)], vm := .none },
  { cls := 16, slots := #[.long (-112)], vm := .none },
  { cls := 16, slots := #[.long (-111)], vm := .none },
  { cls := 16, slots := #[.long (-110)], vm := .none },
  { cls := 16, slots := #[.long (-109)], vm := .none },
  { cls := 16, slots := #[.long (-108)], vm := .none },
  { cls := 16, slots := #[.long (-107)], vm := .none },
  { cls := 16, slots := #[.long (-106)], vm := .none },
  { cls := 16, slots := #[.long (-105)], vm := .none },
  { cls := 16, slots := #[.long (-104)], vm := .none },
  { cls := 16, slots := #[.long (-103)], vm := .none },
  { cls := 16, slots := #[.long (-102)], vm := .none },
  { cls := 16, slots := #[.long (-101)], vm := .none },
  { cls := 16, slots := #[.long (-100)], vm := .none },
  { cls := 16, slots := #[.long (-99)], vm := .none },
  { cls := 16, slots := #[.long (-98)], vm := .none },
  { cls := 16, slots := #[.long (-97)], vm := .none },
  { cls := 16, slots := #[.long (-96)], vm := .none },
  { cls := 16, slots := #[.long (-95)], vm := .none },
  { cls := 16, slots := #[.long (-94)], vm := .none },
  { cls := 16, slots := #[.long (-93)], vm := .none },
  { cls := 16, slots := #[.long (-92)], vm := .none },
  { cls := 16, slots := #[.long (-91)], vm := .none },
  { cls := 16, slots := #[.long (-90)], vm := .none },
  { cls := 16, slots := #[.long (-89)], vm := .none },
  { cls := 16, slots := #[.long (-88)], vm := .none },
  { cls := 16, slots := #[.long (-87)], vm := .none },
  { cls := 16, slots := #[.long (-86)], vm := .none },
  { cls := 16, slots := #[.long (-85)], vm := .none },
  { cls := 16, slots := #[.long (-84)], vm := .none },
  { cls := 16, slots := #[.long (-83)], vm := .none },
  { cls := 16, slots := #[.long (-82)], vm := .none },
  { cls := 16, slots := #[.long (-81)], vm := .none },
  { cls := 16, slots := #[.long (-80)], vm := .none },
  { cls := 16, slots := #[.long (-79)], vm := .none },
  { cls := 16, slots := #[.long (-78)], vm := .none },
  { cls := 16, slots := #[.long (-77)], vm := .none },
  { cls := 16, slots := #[.long (-76)], vm := .none },
  { cls := 16, slots := #[.long (-75)], vm := .none },
  { cls := 16, slots := #[.long (-74)], vm := .none },
  { cls := 16, slots := #[.long (-73)], vm := .none },
  { cls := 16, slots := #[.long (-72)], vm := .none },
  { cls := 16, slots := #[.long (-71)], vm := .none },
  { cls := 16, slots := #[.long (-70)], vm := .none },
  { cls := 16, slots := #[.long (-69)], vm := .none },
  { cls := 16, slots := #[.long (-68)], vm := .none },
  { cls := 16, slots := #[.long (-67)], vm := .none },
  { cls := 16, slots := #[.long (-66)], vm := .none },
  { cls := 16, slots := #[.long (-65)], vm := .none },
  { cls := 16, slots := #[.long (-64)], vm := .none },
  { cls := 16, slots := #[.long (-63)], vm := .none },
  { cls := 16, slots := #[.long (-62)], vm := .none },
  { cls := 16, slots := #[.long (-61)], vm := .none },
  { cls := 16, slots := #[.long (-60)], vm := .none },
  { cls := 16, slots := #[.long (-59)], vm := .none },
  { cls := 16, slots := #[.long (-58)], vm := .none },
  { cls := 16, slots := #[.long (-57)], vm := .none },
  { cls := 16, slots := #[.long (-56)], vm := .none },
  { cls := 16, slots := #[.long (-55)], vm := .none },
  { cls := 16, slots := #[.long (-54)], vm := .none },
  { cls := 16, slots := #[.long (-53)], vm := .none },
  { cls := 16, slots := #[.long (-52)], vm := .none },
  { cls := 16, slots := #[.long (-51)], vm := .none },
  { cls := 16, slots := #[.long (-50)], vm := .none },
  { cls := 16, slots := #[.long (-49)], vm := .none },
  { cls := 16, slots := #[.long (-48)], vm := .none },
  { cls := 16, slots := #[.long (-47)], vm := .none },
  { cls := 16, slots := #[.long (-46)], vm := .none },
  { cls := 16, slots := #[.long (-45)], vm := .none },
  { cls := 16, slots := #[.long (-44)], vm := .none },
  { cls := 16, slots := #[.long (-43)], vm := .none },
  { cls := 16, slots := #[.long (-42)], vm := .none },
  { cls := 16, slots := #[.long (-41)], vm := .none },
  { cls := 16, slots := #[.long (-40)], vm := .none },
  { cls := 16, slots := #[.long (-39)], vm := .none },
  { cls := 16, slots := #[.long (-38)], vm := .none },
  { cls := 16, slots := #[.long (-37)], vm := .none },
  { cls := 16, slots := #[.long (-36)], vm := .none },
  { cls := 16, slots := #[.long (-35)], vm := .none },
  { cls := 16, slots := #[.long (-34)], vm := .none },
  { cls := 16, slots := #[.long (-33)], vm := .none },
  { cls := 16, slots := #[.long (-32)], vm := .none },
  { cls := 16, slots := #[.long (-31)], vm := .none },
  { cls := 16, slots := #[.long (-30)], vm := .none },
  { cls := 16, slots := #[.long (-29)], vm := .none },
  { cls := 16, slots := #[.long (-28)], vm := .none },
  { cls := 16, slots := #[.long (-27)], vm := .none },
  { cls := 16, slots := #[.long (-26)], vm := .none },
  { cls := 16, slots := #[.long (-25)], vm := .none },
  { cls := 16, slots := #[.long (-24)], vm := .none },
  { cls := 16, slots := #[.long (-23)], vm := .none },
  { cls := 16, slots := #[.long (-22)], vm := .none },
  { cls := 16, slots := #[.long (-21)], vm := .none },
  { cls := 16, slots := #[.long (-20)], vm := .none },
  { cls := 16, slots := #[.long (-19)], vm := .none },
  { cls := 16, slots := #[.long (-18)], vm := .none },
  { cls := 16, slots := #[.long (-17)], vm := .none },
  { cls := 16, slots := #[.long (-16)], vm := .none },
  { cls := 16, slots := #[.long (-15)], vm := .none },
  { cls := 16, slots := #[.long (-14)], vm := .none },
  { cls := 16, slots := #[.long (-13)], vm := .none },
  { cls := 16, slots := #[.long (-12)], vm := .none },
  { cls := 16, slots := #[.long (-11)], vm := .none },
  { cls := 16, slots := #[.long (-10)], vm := .none },
  { cls := 16, slots := #[.long (-9)], vm := .none },
  { cls := 16, slots := #[.long (-8)], vm := .none },
  { cls := 16, slots := #[.long (-7)], vm := .none },
  { cls := 16, slots := #[.long (-6)], vm := .none },
  { cls := 16, slots := #[.long (-5)], vm := .none },
  { cls := 16, slots := #[.long (-4)], vm := .none },
  { cls := 16, slots := #[.long (-3)], vm := .none },
  { cls := 16, slots := #[.long (-2)], vm := .none },
  { cls := 16, slots := #[.long (-1)], vm := .none },
  { cls := 16, slots := #[.long 0], vm := .none },
  { cls := 16, slots := #[.long 1], vm := .none },
  { cls := 16, slots := #[.long 2], vm := .none },
  { cls := 16, slots := #[.long 3], vm := .none },
  { cls := 16, slots := #[.long 4], vm := .none },
  { cls := 16, slots := #[.long 5], vm := .none },
  { cls := 16, slots := #[.long 6], vm := .none },
  { cls := 16, slots := #[.long 7], vm := .none },
  { cls := 16, slots := #[.long 8], vm := .none },
  { cls := 16, slots := #[.long 9], vm := .none },
  { cls := 16, slots := #[.long 10], vm := .none },
  { cls := 16, slots := #[.long 11], vm := .none },
  { cls := 16, slots := #[.long 12], vm := .none },
  { cls := 16, slots := #[.long 13], vm := .none },
  { cls := 16, slots := #[.long 14], vm := .none },
  { cls := 16, slots := #[.long 15], vm := .none },
  { cls := 16, slots := #[.long 16], vm := .none },
  { cls := 16, slots := #[.long 17], vm := .none },
  { cls := 16, slots := #[.long 18], vm := .none },
  { cls := 16, slots := #[.long 19], vm := .none },
  { cls := 16, slots := #[.long 20], vm := .none },
  { cls := 16, slots := #[.long 21], vm := .none },
  { cls := 16, slots := #[.long 22], vm := .none },
  { cls := 16, slots := #[.long 23], vm := .none },
  { cls := 16, slots := #[.long 24], vm := .none },
  { cls := 16, slots := #[.long 25], vm := .none },
  { cls := 16, slots := #[.long 26], vm := .none },
  { cls := 16, slots := #[.long 27], vm := .none },
  { cls := 16, slots := #[.long 28], vm := .none },
  { cls := 16, slots := #[.long 29], vm := .none },
  { cls := 16, slots := #[.long 30], vm := .none },
  { cls := 16, slots := #[.long 31], vm := .none },
  { cls := 16, slots := #[.long 32], vm := .none },
  { cls := 16, slots := #[.long 33], vm := .none },
  { cls := 16, slots := #[.long 34], vm := .none },
  { cls := 16, slots := #[.long 35], vm := .none },
  { cls := 16, slots := #[.long 36], vm := .none },
  { cls := 16, slots := #[.long 37], vm := .none },
  { cls := 16, slots := #[.long 38], vm := .none },
  { cls := 16, slots := #[.long 39], vm := .none },
  { cls := 16, slots := #[.long 40], vm := .none },
  { cls := 16, slots := #[.long 41], vm := .none },
  { cls := 16, slots := #[.long 42], vm := .none },
  { cls := 16, slots := #[.long 43], vm := .none },
  { cls := 16, slots := #[.long 44], vm := .none },
  { cls := 16, slots := #[.long 45], vm := .none },
  { cls := 16, slots := #[.long 46], vm := .none },
  { cls := 16, slots := #[.long 47], vm := .none },
  { cls := 16, slots := #[.long 48], vm := .none },
  { cls := 16, slots := #[.long 49], vm := .none },
  { cls := 16, slots := #[.long 50], vm := .none },
  { cls := 16, slots := #[.long 51], vm := .none },
  { cls := 16, slots := #[.long 52], vm := .none },
  { cls := 16, slots := #[.long 53], vm := .none },
  { cls := 16, slots := #[.long 54], vm := .none },
  { cls := 16, slots := #[.long 55], vm := .none },
  { cls := 16, slots := #[.long 56], vm := .none },
  { cls := 16, slots := #[.long 57], vm := .none },
  { cls := 16, slots := #[.long 58], vm := .none },
  { cls := 16, slots := #[.long 59], vm := .none },
  { cls := 16, slots := #[.long 60], vm := .none },
  { cls := 16, slots := #[.long 61], vm := .none },
  { cls := 16, slots := #[.long 62], vm := .none },
  { cls := 16, slots := #[.long 63], vm := .none },
  { cls := 16, slots := #[.long 64], vm := .none },
  { cls := 16, slots := #[.long 65], vm := .none },
  { cls := 16, slots := #[.long 66], vm := .none },
  { cls := 16, slots := #[.long 67], vm := .none },
  { cls := 16, slots := #[.long 68], vm := .none },
  { cls := 16, slots := #[.long 69], vm := .none },
  { cls := 16, slots := #[.long 70], vm := .none },
  { cls := 16, slots := #[.long 71], vm := .none },
  { cls := 16, slots := #[.long 72], vm := .none },
  { cls := 16, slots := #[.long 73], vm := .none },
  { cls := 16, slots := #[.long 74], vm := .none },
  { cls := 16, slots := #[.long 75], vm := .none },
  { cls := 16, slots := #[.long 76], vm := .none },
  { cls := 16, slots := #[.long 77], vm := .none },
  { cls := 16, slots := #[.long 78], vm := .none },
  { cls := 16, slots := #[.long 79], vm := .none },
  { cls := 16, slots := #[.long 80], vm := .none },
  { cls := 16, slots := #[.long 81], vm := .none },
  { cls := 16, slots := #[.long 82], vm := .none },
  { cls := 16, slots := #[.long 83], vm := .none },
  { cls := 16, slots := #[.long 84], vm := .none },
  { cls := 16, slots := #[.long 85], vm := .none },
  { cls := 16, slots := #[.long 86], vm := .none },
  { cls := 16, slots := #[.long 87], vm := .none },
  { cls := 16, slots := #[.long 88], vm := .none },
  { cls := 16, slots := #[.long 89], vm := .none },
  { cls := 16, slots := #[.long 90], vm := .none },
  { cls := 16, slots := #[.long 91], vm := .none },
  { cls := 16, slots := #[.long 92], vm := .none },
  { cls := 16, slots := #[.long 93], vm := .none },
  { cls := 16, slots := #[.long 94], vm := .none },
  { cls := 16, slots := #[.long 95], vm := .none },
  { cls := 16, slots := #[.long 96], vm := .none },
  { cls := 16, slots := #[.long 97], vm := .none },
  { cls := 16, slots := #[.long 98], vm := .none },
  { cls := 16, slots := #[.long 99], vm := .none },
  { cls := 16, slots := #[.long 100], vm := .none },
  { cls := 16, slots := #[.long 101], vm := .none },
  { cls := 16, slots := #[.long 102], vm := .none },
  { cls := 16, slots := #[.long 103], vm := .none },
  { cls := 16, slots := #[.long 104], vm := .none },
  { cls := 16, slots := #[.long 105], vm := .none },
  { cls := 16, slots := #[.long 106], vm := .none },
  { cls := 16, slots := #[.long 107], vm := .none },
  { cls := 16, slots := #[.long 108], vm := .none },
  { cls := 16, slots := #[.long 109], vm := .none },
  { cls := 16, slots := #[.long 110], vm := .none },
  { cls := 16, slots := #[.long 111], vm := .none },
  { cls := 16, slots := #[.long 112], vm := .none },
  { cls := 16, slots := #[.long 113], vm := .none },
  { cls := 16, slots := #[.long 114], vm := .none },
  { cls := 16, slots := #[.long 115], vm := .none },
  { cls := 16, slots := #[.long 116], vm := .none },
  { cls := 16, slots := #[.long 117], vm := .none },
  { cls := 16, slots := #[.long 118], vm := .none },
  { cls := 16, slots := #[.long 119], vm := .none },
  { cls := 16, slots := #[.long 120], vm := .none },
  { cls := 16, slots := #[.long 121], vm := .none },
  { cls := 16, slots := #[.long 122], vm := .none },
  { cls := 16, slots := #[.long 123], vm := .none },
  { cls := 16, slots := #[.long 124], vm := .none },
  { cls := 16, slots := #[.long 125], vm := .none },
  { cls := 16, slots := #[.long 126], vm := .none },
  { cls := 16, slots := #[.long 127], vm := .none },
  { cls := 34, slots := #[], vm := .none },
  { cls := 34, slots := #[], vm := .none }]
def classes : Array Class := #[k0, k1, k2, k3, k4, k5, k6, k7, k8, k9, k10, k11, k12, k13, k14, k15, k16, k17, k18, k19, k20, k21, k22, k23, k24, k25, k26, k27, k28, k29, k30, k31, k32, k33, k34]
def interned : List (Array UInt16 × Addr) := []
def slotsUsed : Nat := 529
def theMethod : MethodId := ⟨1, 1⟩
def args0 : Array Value := #[.long 5, .int 65, .int 66, .long 1000, .int 1]
def aboutOver (below : List Frame) : State where
  vm := { classes := classes, interned := interned.toArray }
  heap := heap
  slotsUsed := slotsUsed
  threads := #[{ frames := .invoking theMethod args0 :: below }]
def below0 : List Frame := [.native { method := ⟨0, 0⟩, args := #[] }]
def about1 : State := aboutOver below0
def p0 : Program := .bare "" "" ""
def e0 : Env := launch0.env 0 0 0
theorem w_frames : about1.frames = Frame.invoking theMethod args0 :: below0 := rfl
set_option maxRecDepth 65536 in
theorem w_args : argsFit about1.vm theMethod args0 = true := by decide +kernel
set_option maxRecDepth 65536 in
theorem w_heap : heapFits about1 = true := by decide +kernel
set_option maxRecDepth 65536 in
theorem w_runnable : about1.curStatus? = some .runnable := by decide +kernel
set_option maxRecDepth 65536 in
theorem w_alone : about1.alone = true := by decide +kernel
set_option maxRecDepth 65536 in
theorem w_named : about1.methodNamed? x = some theMethod := by decide +kernel
set_option maxRecDepth 65536 in
theorem w_hears : about1.hears theMethod below0 = true := by decide +kernel
set_option maxRecDepth 65536 in
theorem w_ripe : about1.ripe theMethod args0 below0 = true := by decide +kernel
theorem w_running : about1.status = .running := rfl
set_option maxRecDepth 65536 in
theorem w_room : about1.hasRoom e0.platform room_1 = true :=
  launch0.hasRoom_least _ room_1 (by decide +kernel) (by decide +kernel) (by decide +kernel) (by decide +kernel) (by decide +kernel) (by decide +kernel)
theorem allAtoms_all (ts : List Jvm.Cond) (a : Array Jvm.Value) (st : Jvm.State) : (allAtoms ts).before a st = ts.all (fun c => c.before a st) := by
  induction ts with
  | nil => rfl
  | cons c t ih =>
    show (Jvm.Cond.and c (allAtoms t)).before a st = _
    rw [Jvm.Cond.before_and, ih, List.all_cons]
def words1 : List Jvm.Cond := Jvm.Cond.code x code maxLocals ret :: tables_1
/-- a 'code' word, met by the world's own term for the bytes: nothing is compared byte by byte -/
theorem code_word {y : MethodName} {bytes : ByteArray} {mx : Nat} {rt : Option FieldType} {a : Array Value} {s : State} {m : MethodId} {meth : Method} {c : Code} (h1 : s.methodNamed? y = some m) (h2 : s.vm.method? m = some meth) (h3 : meth.code = some c) (h4 : c.code = bytes)
    (h5 : (c.maxLocals == mx && c.exceptionTable.isEmpty && decide (c.maxStack ≤ mostOperands) && decide (meth.sig.returnType = rt) && !meth.locks && decide (parseMethodDescriptor y.desc = some meth.sig)) = true) : (Jvm.Cond.code y bytes mx rt).before a s = true := by
  simp only [Bool.and_eq_true, beq_iff_eq, Bool.not_eq_true', decide_eq_true_eq] at h5
  obtain ⟨⟨⟨⟨⟨g1, g2⟩, g3⟩, g4⟩, g5⟩, g6⟩ := h5
  simp [Cond.before, Cond.holds, Cond.value, h1, h2, h3, h4, g1, g2, g3, g4, g5, g6]
def isCode : Jvm.Cond → Bool
  | .code _ _ _ _ => true
  | _ => false
theorem all_split {L : List Jvm.Cond} {P : Jvm.Cond → Bool} (h1 : L.all (fun c => isCode c || P c) = true) (h2 : ∀ c ∈ L.filter isCode, P c = true) : L.all P = true := by
  refine List.all_eq_true.mpr fun c hc => ?_
  have h := List.all_eq_true.mp h1 c hc
  rcases Bool.eq_false_or_eq_true (isCode c) with hi | hi
  · exact h2 c (List.mem_filter.mpr ⟨hc, hi⟩)
  · simpa [hi] using h
set_option maxRecDepth 65536 in
theorem w_c0 : (Jvm.Cond.code x code maxLocals ret).before args0 about1 = true := code_word (m := ⟨1, 1⟩) (meth := k1m1) (c := k1c1) (by decide +kernel) rfl rfl rfl (by decide +kernel)
set_option maxRecDepth 65536 in
theorem w_c1 : (Jvm.Cond.code ({ cls := "java/util/ArrayList", name := "<init>", desc := "()V" } : Jvm.MethodName) jdk_38_method_2_code (1 : Nat) (Option.none : Option Jvm.ClassFile.FieldType)).before args0 about1 = true := code_word (m := ⟨11, 0⟩) (meth := k11m0) (c := k11c0) (by decide +kernel) rfl rfl rfl (by decide +kernel)
set_option maxRecDepth 65536 in
theorem w_c2 : (Jvm.Cond.code ({ cls := "java/util/AbstractList", name := "<init>", desc := "()V" } : Jvm.MethodName) jdk_39_method_1_code (1 : Nat) (Option.none : Option Jvm.ClassFile.FieldType)).before args0 about1 = true := code_word (m := ⟨7, 0⟩) (meth := k7m0) (c := k7c0) (by decide +kernel) rfl rfl rfl (by decide +kernel)
set_option maxRecDepth 65536 in
theorem w_c3 : (Jvm.Cond.code ({ cls := "java/util/AbstractCollection", name := "<init>", desc := "()V" } : Jvm.MethodName) jdk_22_method_1_code (1 : Nat) (Option.none : Option Jvm.ClassFile.FieldType)).before args0 about1 = true := code_word (m := ⟨4, 0⟩) (meth := k4m0) (c := k4c0) (by decide +kernel) rfl rfl rfl (by decide +kernel)
set_option maxRecDepth 65536 in
theorem w_c4 : (Jvm.Cond.code ({ cls := "java/lang/Object", name := "<init>", desc := "()V" } : Jvm.MethodName) object_method_1_code (1 : Nat) (Option.none : Option Jvm.ClassFile.FieldType)).before args0 about1 = true := code_word (m := ⟨0, 0⟩) (meth := k0m0) (c := k0c0) (by decide +kernel) rfl rfl rfl (by decide +kernel)
set_option maxRecDepth 65536 in
theorem w_c5 : (Jvm.Cond.code ({ cls := "java/lang/Long", name := "valueOf", desc := "(J)Ljava/lang/Long;" } : Jvm.MethodName) jdk_35_method_24_code (3 : Nat) (Option.some (Jvm.ClassFile.FieldType.object "java/lang/Long"))).before args0 about1 = true := code_word (m := ⟨16, 0⟩) (meth := k16m0) (c := k16c0) (by decide +kernel) rfl rfl rfl (by decide +kernel)
set_option maxRecDepth 65536 in
theorem w_c6 : (Jvm.Cond.code ({ cls := "java/lang/Long", name := "<init>", desc := "(J)V" } : Jvm.MethodName) jdk_35_method_26_code (3 : Nat) (Option.none : Option Jvm.ClassFile.FieldType)).before args0 about1 = true := code_word (m := ⟨16, 1⟩) (meth := k16m1) (c := k16c1) (by decide +kernel) rfl rfl rfl (by decide +kernel)
set_option maxRecDepth 65536 in
theorem w_c7 : (Jvm.Cond.code ({ cls := "java/lang/Number", name := "<init>", desc := "()V" } : Jvm.MethodName) jdk_18_method_1_code (1 : Nat) (Option.none : Option Jvm.ClassFile.FieldType)).before args0 about1 = true := code_word (m := ⟨12, 0⟩) (meth := k12m0) (c := k12c0) (by decide +kernel) rfl rfl rfl (by decide +kernel)
set_option maxRecDepth 65536 in
theorem w_c8 : (Jvm.Cond.code ({ cls := "java/util/ArrayList", name := "add", desc := "(Ljava/lang/Object;)Z" } : Jvm.MethodName) jdk_38_method_25_code (2 : Nat) (Option.some Jvm.ClassFile.FieldType.boolean)).before args0 about1 = true := code_word (m := ⟨11, 4⟩) (meth := k11m4) (c := k11c4) (by decide +kernel) rfl rfl rfl (by decide +kernel)
set_option maxRecDepth 65536 in
theorem w_c9 : (Jvm.Cond.code ({ cls := "java/util/ArrayList", name := "add", desc := "(Ljava/lang/Object;[Ljava/lang/Object;I)V" } : Jvm.MethodName) jdk_38_method_24_code (4 : Nat) (Option.none : Option Jvm.ClassFile.FieldType)).before args0 about1 = true := code_word (m := ⟨11, 3⟩) (meth := k11m3) (c := k11c3) (by decide +kernel) rfl rfl rfl (by decide +kernel)
set_option maxRecDepth 65536 in
theorem w_c10 : (Jvm.Cond.code ({ cls := "java/util/ArrayList", name := "grow", desc := "()[Ljava/lang/Object;" } : Jvm.MethodName) jdk_38_method_7_code (1 : Nat) (Option.some (Jvm.ClassFile.FieldType.array (Jvm.ClassFile.FieldType.object "java/lang/Object")))).before args0 about1 = true := code_word (m := ⟨11, 2⟩) (meth := k11m2) (c := k11c2) (by decide +kernel) rfl rfl rfl (by decide +kernel)
set_option maxRecDepth 65536 in
theorem w_c11 : (Jvm.Cond.code ({ cls := "java/util/ArrayList", name := "grow", desc := "(I)[Ljava/lang/Object;" } : Jvm.MethodName) jdk_38_method_6_code (4 : Nat) (Option.some (Jvm.ClassFile.FieldType.array (Jvm.ClassFile.FieldType.object "java/lang/Object")))).before args0 about1 = true := code_word (m := ⟨11, 1⟩) (meth := k11m1) (c := k11c1) (by decide +kernel) rfl rfl rfl (by decide +kernel)
set_option maxRecDepth 65536 in
theorem w_c12 : (Jvm.Cond.code ({ cls := "java/lang/Math", name := "max", desc := "(II)I" } : Jvm.MethodName) jdk_29_method_65_code (2 : Nat) (Option.some Jvm.ClassFile.FieldType.int)).before args0 about1 = true := code_word (m := ⟨17, 1⟩) (meth := k17m1) (c := k17c1) (by decide +kernel) rfl rfl rfl (by decide +kernel)
set_option maxRecDepth 65536 in
theorem w_c13 : (Jvm.Cond.code ({ cls := "com/example/pathlatch/pathlatch/check/LogVerdict", name := "<init>", desc := "(JLjava/lang/String;Ljava/util/List;Ljava/util/List;)V" } : Jvm.MethodName) prog_48_method_1_code (6 : Nat) (Option.none : Option Jvm.ClassFile.FieldType)).before args0 about1 = true := code_word (m := ⟨19, 0⟩) (meth := k19m0) (c := k19c0) (by decide +kernel) rfl rfl rfl (by decide +kernel)
set_option maxRecDepth 65536 in
theorem w_c14 : (Jvm.Cond.code ({ cls := "java/lang/Record", name := "<init>", desc := "()V" } : Jvm.MethodName) jdk_30_method_1_code (1 : Nat) (Option.none : Option Jvm.ClassFile.FieldType)).before args0 about1 = true := code_word (m := ⟨18, 0⟩) (meth := k18m0) (c := k18c0) (by decide +kernel) rfl rfl rfl (by decide +kernel)
set_option maxRecDepth 65536 in
theorem w_c15 : (Jvm.Cond.code ({ cls := "com/example/pathlatch/pathlatch/check/LogVerdict", name := "serializable", desc := "()Z" } : Jvm.MethodName) prog_48_method_2_code (1 : Nat) (Option.some Jvm.ClassFile.FieldType.boolean)).before args0 about1 = true := code_word (m := ⟨19, 1⟩) (meth := k19m1) (c := k19c1) (by decide +kernel) rfl rfl rfl (by decide +kernel)
set_option maxRecDepth 65536 in
theorem w_c16 : (Jvm.Cond.code ({ cls := "com/example/pathlatch/pathlatch/check/LogVerdict", name := "closedAt", desc := "()J" } : Jvm.MethodName) prog_48_method_6_code (1 : Nat) (Option.some Jvm.ClassFile.FieldType.long)).before args0 about1 = true := code_word (m := ⟨19, 2⟩) (meth := k19m2) (c := k19c2) (by decide +kernel) rfl rfl rfl (by decide +kernel)
set_option maxRecDepth 65536 in
theorem w_c17 : (Jvm.Cond.code ({ cls := "java/lang/String", name := "<init>", desc := "([C)V" } : Jvm.MethodName) jdk_42_method_3_code (2 : Nat) (Option.none : Option Jvm.ClassFile.FieldType)).before args0 about1 = true := code_word (m := ⟨21, 1⟩) (meth := k21m1) (c := k21c1) (by decide +kernel) rfl rfl rfl (by decide +kernel)
set_option maxRecDepth 65536 in
theorem w_c18 : (Jvm.Cond.code ({ cls := "java/lang/String", name := "<init>", desc := "([CIILjava/lang/Void;)V" } : Jvm.MethodName) jdk_42_method_149_code (6 : Nat) (Option.none : Option Jvm.ClassFile.FieldType)).before args0 about1 = true := code_word (m := ⟨21, 2⟩) (meth := k21m2) (c := k21c2) (by decide +kernel) rfl rfl rfl (by decide +kernel)
set_option maxRecDepth 65536 in
theorem w_c19 : (Jvm.Cond.code ({ cls := "java/lang/StringUTF16", name := "compress", desc := "([CII)[B" } : Jvm.MethodName) jdk_52_method_16_code (6 : Nat) (Option.some (Jvm.ClassFile.FieldType.array Jvm.ClassFile.FieldType.byte))).before args0 about1 = true := code_word (m := ⟨22, 2⟩) (meth := k22m2) (c := k22c2) (by decide +kernel) rfl rfl rfl (by decide +kernel)
set_option maxRecDepth 65536 in
theorem w_c20 : (Jvm.Cond.code ({ cls := "java/lang/StringUTF16", name := "compress", desc := "([CI[BII)I" } : Jvm.MethodName) jdk_52_method_21_code (7 : Nat) (Option.some Jvm.ClassFile.FieldType.int)).before args0 about1 = true := code_word (m := ⟨22, 3⟩) (meth := k22m3) (c := k22c3) (by decide +kernel) rfl rfl rfl (by decide +kernel)
set_option maxRecDepth 65536 in
theorem w_c21 : (Jvm.Cond.code ({ cls := "java/lang/StringUTF16", name := "coderFromArrayLen", desc := "([BI)B" } : Jvm.MethodName) jdk_52_method_15_code (2 : Nat) (Option.some Jvm.ClassFile.FieldType.byte)).before args0 about1 = true := code_word (m := ⟨22, 1⟩) (meth := k22m1) (c := k22c1) (by decide +kernel) rfl rfl rfl (by decide +kernel)
def codes1 : List Jvm.Cond := [Jvm.Cond.code x code maxLocals ret, Jvm.Cond.code ({ cls := "java/util/ArrayList", name := "<init>", desc := "()V" } : Jvm.MethodName) jdk_38_method_2_code (1 : Nat) (Option.none : Option Jvm.ClassFile.FieldType), Jvm.Cond.code ({ cls := "java/util/AbstractList", name := "<init>", desc := "()V" } : Jvm.MethodName) jdk_39_method_1_code (1 : Nat) (Option.none : Option Jvm.ClassFile.FieldType), Jvm.Cond.code ({ cls := "java/util/AbstractCollection", name := "<init>", desc := "()V" } : Jvm.MethodName) jdk_22_method_1_code (1 : Nat) (Option.none : Option Jvm.ClassFile.FieldType), Jvm.Cond.code ({ cls := "java/lang/Object", name := "<init>", desc := "()V" } : Jvm.MethodName) object_method_1_code (1 : Nat) (Option.none : Option Jvm.ClassFile.FieldType), Jvm.Cond.code ({ cls := "java/lang/Long", name := "valueOf", desc := "(J)Ljava/lang/Long;" } : Jvm.MethodName) jdk_35_method_24_code (3 : Nat) (Option.some (Jvm.ClassFile.FieldType.object "java/lang/Long")), Jvm.Cond.code ({ cls := "java/lang/Long", name := "<init>", desc := "(J)V" } : Jvm.MethodName) jdk_35_method_26_code (3 : Nat) (Option.none : Option Jvm.ClassFile.FieldType), Jvm.Cond.code ({ cls := "java/lang/Number", name := "<init>", desc := "()V" } : Jvm.MethodName) jdk_18_method_1_code (1 : Nat) (Option.none : Option Jvm.ClassFile.FieldType), Jvm.Cond.code ({ cls := "java/util/ArrayList", name := "add", desc := "(Ljava/lang/Object;)Z" } : Jvm.MethodName) jdk_38_method_25_code (2 : Nat) (Option.some Jvm.ClassFile.FieldType.boolean), Jvm.Cond.code ({ cls := "java/util/ArrayList", name := "add", desc := "(Ljava/lang/Object;[Ljava/lang/Object;I)V" } : Jvm.MethodName) jdk_38_method_24_code (4 : Nat) (Option.none : Option Jvm.ClassFile.FieldType), Jvm.Cond.code ({ cls := "java/util/ArrayList", name := "grow", desc := "()[Ljava/lang/Object;" } : Jvm.MethodName) jdk_38_method_7_code (1 : Nat) (Option.some (Jvm.ClassFile.FieldType.array (Jvm.ClassFile.FieldType.object "java/lang/Object"))), Jvm.Cond.code ({ cls := "java/util/ArrayList", name := "grow", desc := "(I)[Ljava/lang/Object;" } : Jvm.MethodName) jdk_38_method_6_code (4 : Nat) (Option.some (Jvm.ClassFile.FieldType.array (Jvm.ClassFile.FieldType.object "java/lang/Object"))), Jvm.Cond.code ({ cls := "java/lang/Math", name := "max", desc := "(II)I" } : Jvm.MethodName) jdk_29_method_65_code (2 : Nat) (Option.some Jvm.ClassFile.FieldType.int), Jvm.Cond.code ({ cls := "com/example/pathlatch/pathlatch/check/LogVerdict", name := "<init>", desc := "(JLjava/lang/String;Ljava/util/List;Ljava/util/List;)V" } : Jvm.MethodName) prog_48_method_1_code (6 : Nat) (Option.none : Option Jvm.ClassFile.FieldType), Jvm.Cond.code ({ cls := "java/lang/Record", name := "<init>", desc := "()V" } : Jvm.MethodName) jdk_30_method_1_code (1 : Nat) (Option.none : Option Jvm.ClassFile.FieldType), Jvm.Cond.code ({ cls := "com/example/pathlatch/pathlatch/check/LogVerdict", name := "serializable", desc := "()Z" } : Jvm.MethodName) prog_48_method_2_code (1 : Nat) (Option.some Jvm.ClassFile.FieldType.boolean), Jvm.Cond.code ({ cls := "com/example/pathlatch/pathlatch/check/LogVerdict", name := "closedAt", desc := "()J" } : Jvm.MethodName) prog_48_method_6_code (1 : Nat) (Option.some Jvm.ClassFile.FieldType.long), Jvm.Cond.code ({ cls := "java/lang/String", name := "<init>", desc := "([C)V" } : Jvm.MethodName) jdk_42_method_3_code (2 : Nat) (Option.none : Option Jvm.ClassFile.FieldType), Jvm.Cond.code ({ cls := "java/lang/String", name := "<init>", desc := "([CIILjava/lang/Void;)V" } : Jvm.MethodName) jdk_42_method_149_code (6 : Nat) (Option.none : Option Jvm.ClassFile.FieldType), Jvm.Cond.code ({ cls := "java/lang/StringUTF16", name := "compress", desc := "([CII)[B" } : Jvm.MethodName) jdk_52_method_16_code (6 : Nat) (Option.some (Jvm.ClassFile.FieldType.array Jvm.ClassFile.FieldType.byte)), Jvm.Cond.code ({ cls := "java/lang/StringUTF16", name := "compress", desc := "([CI[BII)I" } : Jvm.MethodName) jdk_52_method_21_code (7 : Nat) (Option.some Jvm.ClassFile.FieldType.int), Jvm.Cond.code ({ cls := "java/lang/StringUTF16", name := "coderFromArrayLen", desc := "([BI)B" } : Jvm.MethodName) jdk_52_method_15_code (2 : Nat) (Option.some Jvm.ClassFile.FieldType.byte)]
set_option maxRecDepth 65536 in
theorem codes_eq : words1.filter isCode = codes1 := rfl
theorem w_codes : ∀ c ∈ words1.filter isCode, c.before args0 about1 = true := by
  rw [codes_eq]
  intro c hc
  simp only [codes1, List.mem_cons, List.not_mem_nil, or_false] at hc
  rcases hc with rfl | rfl | rfl | rfl | rfl | rfl | rfl | rfl | rfl | rfl | rfl | rfl | rfl | rfl | rfl | rfl | rfl | rfl | rfl | rfl | rfl | rfl
  · exact w_c0
  · exact w_c1
  · exact w_c2
  · exact w_c3
  · exact w_c4
  · exact w_c5
  · exact w_c6
  · exact w_c7
  · exact w_c8
  · exact w_c9
  · exact w_c10
  · exact w_c11
  · exact w_c12
  · exact w_c13
  · exact w_c14
  · exact w_c15
  · exact w_c16
  · exact w_c17
  · exact w_c18
  · exact w_c19
  · exact w_c20
  · exact w_c21
set_option maxRecDepth 65536 in
theorem w_t1 : (words1.take 24).all (fun c => isCode c || c.before args0 about1) = true := by decide +kernel
set_option maxRecDepth 65536 in
theorem w_t2 : ((words1.drop 24).take 24).all (fun c => isCode c || c.before args0 about1) = true := by decide +kernel
set_option maxRecDepth 65536 in
theorem w_t3 : (((words1.drop 24).drop 24).take 24).all (fun c => isCode c || c.before args0 about1) = true := by decide +kernel
set_option maxRecDepth 65536 in
theorem w_t4 : ((((words1.drop 24).drop 24).drop 24).take 24).all (fun c => isCode c || c.before args0 about1) = true := by decide +kernel
set_option maxRecDepth 65536 in
theorem w_t5 : (((((words1.drop 24).drop 24).drop 24).drop 24).take 24).all (fun c => isCode c || c.before args0 about1) = true := by decide +kernel
set_option maxRecDepth 65536 in
theorem w_t6 : (((((words1.drop 24).drop 24).drop 24).drop 24).drop 24).all (fun c => isCode c || c.before args0 about1) = true := by decide +kernel
theorem w_tables : (allAtoms (Jvm.Cond.code x code maxLocals ret :: tables_1)).before args0 about1 = true := by
  rw [allAtoms_all]
  show words1.all (fun c => c.before args0 about1) = true
  refine all_split ?_ w_codes
  rw [← List.take_append_drop 24 words1, List.all_append, w_t1, ← List.take_append_drop 24 (words1.drop 24), List.all_append, w_t2, ← List.take_append_drop 24 ((words1.drop 24).drop 24), List.all_append, w_t3, ← List.take_append_drop 24 (((words1.drop 24).drop 24).drop 24), List.all_append, w_t4, ← List.take_append_drop 24 ((((words1.drop 24).drop 24).drop 24).drop 24), List.all_append, w_t5, w_t6]
  rfl
set_option maxRecDepth 65536 in
theorem w_rest : rest_1_c.before args0 about1 = true := by decide +kernel
set_option maxRecDepth 65536 in
theorem w_case : (Jvm.Cond.and given_1 narrow_1).before args0 about1 = true := by decide +kernel
theorem w_applies : (headSpec (Jvm.Cond.code x code maxLocals ret :: tables_1) room_1).applies x e0.platform about1 = true :=
  (Spec.applies_iff w_frames).mpr ⟨w_running, w_runnable, w_alone, w_named, w_hears, w_ripe, w_room, w_tables⟩
theorem atStart : AtStart classFile x code maxLocals ret World_1 tables_1 room_1 Calls_1 rest_1 Pre_1 launch0 p0 e0 about1 theMethod args0 below0 :=
  ⟨lists_1, trivial, launch0.admits_env _ _ _, launch0.least_env, fairChoices_fair.cas, fairChoices_fair.clock, w_frames, w_args, w_heap, w_applies, trivial, w_rest, w_case⟩
end start1
theorem witness_1 : WitnessClaimed_1 := ⟨start1.p0, start1.e0, start1.about1, start1.theMethod, start1.args0, start1.below0, start1.atStart⟩
end Jvm.Pilot.@@N@@
