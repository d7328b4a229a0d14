import JvmDerived
import JvmDerived.Pilot.@@N@@Statement
import JvmDerived.Pilot.@@N@@Code
set_option linter.unusedVariables false
set_option linter.unusedSimpArgs false
namespace Jvm.Pilot.@@N@@
open Jvm Jvm.ClassFile Sem Op Lib Jvm.Free Jvm.Stand Jvm.LawKit Jvm.RoadKit Bundle Jvm.Pilot.@@N@@.Jvm.D
section OwnKit
variable {p : Program} {l : Launch} {e : Env} {R : Room} {s : State} {m : MethodId} {args : Array Value} {below : List Frame} {meth : Method} {c : Code} {T : State} {locs : List Loc} {cells slots : Nat} {Z : State} {a0 : Array Value} {h : Heap}
/-- from A the walk comes to an end of which F holds -/
def Rch (p : Program) (e : Env) (below : List Frame) (F : Outcome → State → Prop) (A : State) : Prop := ∃ s₂ o, Steps p.tables e below A s₂ ∧ s₂.status = .running ∧ Ended s₂ below o ∧ F o s₂
theorem Rch.go {F : Outcome → State → Prop} {A B : State} (h : ∀ t, Steps p.tables e below B t → Steps p.tables e below A t) (r : Rch p e below F B) : Rch p e below F A := by
  obtain ⟨t, o, h1, h2⟩ := r
  exact ⟨t, o, h t h1, h2⟩
/-- what a body leaves -/
def Leaves (s : State) (C S : Nat) (Q : Option Value → Heap → List Loc → Prop) (o : Outcome) (U : State) : Prop := ∃ v L, o = .returned v ∧ Q v U.heap L ∧ FrameEnd s o U L C S
/-- a body's contract, at one heap and one row of arguments -/
def Ctr (l : Launch) (Z : State) (ws : List Jvm.Cond) (y : MethodName) (bytes : ByteArray) (maxL : Nat) (ret : Option FieldType) (as' : Array Value) (h0 : Heap) (rm : Room) (Q : Option Value → Heap → List Loc → Prop) : Prop :=
  MetFree l y (head1 (Jvm.Cond.code y bytes maxL ret :: ws) rm) (fun a U => a = as' ∧ Z.Warmed39 U.vm ∧ U.heap = h0) (fun _ _ _ _ _ => True) (fun _ U o U' => ∃ v L, o = .returned v ∧ Q v U'.heap L ∧ FrameEnd U o U' L rm.cells rm.slots)
theorem Ctr.of {ws : List Jvm.Cond} {y : MethodName} {bytes : ByteArray} {maxL : Nat} {ret : Option FieldType} {as' : Array Value} {h0 : Heap} {rm : Room} {Q : Option Value → Heap → List Loc → Prop} {Ls : Array Slot} (hpn : plainFor y = true) (ef : ∀ m, entryFrame m as' maxL = mkF m 0 Ls [])
    (H : ∀ (p : Program) (e : Env) (s : State) (m : MethodId) (below : List Frame) (meth : Method) (c : Code) (T : State), p.tables.exec = Jvm.exec → Z.Warmed39 s.vm → c.code = bytes → c.maxLocals = maxL → s.vm.findClass y.cls = some m.cls → meth.name = y.name → meth.sig.returnType = ret → meth.locks = false →
      Stand p l e rm s m as' below meth c T [] 0 0 → T.heap = h0 → Rch p e below (Leaves s rm.cells rm.slots Q) (T.setTop (mkF m 0 Ls []))) : Ctr l Z ws y bytes maxL ret as' h0 rm Q := by
  refine MetFree.of_bodySF hpn hisR ?_
  intro p e s m args below meth c s₁ Bd hml0 hP hK
  obtain ⟨rfl, hZ, hh⟩ := hP
  have e0 : s₁.heap = h0 := by rw [← hh, Bd.state]; rfl
  obtain ⟨t, o, r1, r2, r3, r4⟩ := H p e s m below meth c s₁ Bd.exec hZ Bd.bytes hml0 (findClass_of_methodNamed Bd.named) (name_of_methodNamed Bd.named Bd.method).1 Bd.returns Bd.notSynchronized (Stand.of_body Bd) e0
  exact ⟨t, o, castTop (ef m) r1, r2, r3, r4⟩
theorem Rch.val (X : Stand p l e R s m args below meth c T locs cells slots) (hx : p.tables.exec = Jvm.exec) {pc : Nat} {Ls : Array Slot} {w : Value} {t : FieldType} {i : Instr} {rest : List Value} {Q : Option Value → Heap → List Loc → Prop} {C S : Nat} (hret : meth.sig.returnType = some t) (hlk : meth.locks = false) (hn : narrow t w = w)
    (hi : (i = .ireturn ∧ (t = .int ∨ t = .boolean ∨ t = .byte ∨ t = .char ∨ t = .short) ∧ ∃ z, w = .int z) ∨ (i = .lreturn ∧ t = .long ∧ ∃ z, w = .long z) ∨ (i = .dreturn ∧ t = .double ∧ ∃ z, w = .double z) ∨ (i = .freturn ∧ t = .float ∧ ∃ z, w = .float z) ∨ (i = .areturn ∧ t.isReference = true ∧ w.isRef = true))
    (hd : decode c.code pc = .ok (i, 1)) (hc : cells ≤ C) (hs : slots ≤ S) (hq : Q (some w) T.heap locs) : Rch p e below (Leaves s C S Q) (T.setTop (mkF m pc Ls (w :: rest))) := by
  obtain ⟨fs, hr, hrun, hended, hW, hsame⟩ := X.leave (v := some w) (fun h => by rw [hret] at h; cases h) hlk
  exact ⟨_, _, retOut X hx hret hn hi hd hr, hrun, hended, _, _, rfl, hq, ⟨_, rfl⟩, hW, hsame.mono hc hs⟩
theorem Rch.void (X : Stand p l e R s m args below meth c T locs cells slots) (hx : p.tables.exec = Jvm.exec) {pc : Nat} {Ls : Array Slot} {Q : Option Value → Heap → List Loc → Prop} {C S : Nat} (hret : meth.sig.returnType = none) (hlk : meth.locks = false)
    (hd : decode c.code pc = .ok (.return_, 1)) (hc : cells ≤ C) (hs : slots ≤ S) (hq : Q none T.heap locs) : Rch p e below (Leaves s C S Q) (T.setTop (mkF m pc Ls [])) := by
  obtain ⟨fs, hr, hrun, hended, hW, hsame⟩ := X.leave (v := none) (fun _ => rfl) hlk
  exact ⟨_, _, X.returnOut hx hret hd hr, hrun, hended, _, _, rfl, hq, ⟨_, rfl⟩, hW, hsame.mono hc hs⟩
theorem mayI {t : FieldType} {z : Int32} (ht : t = .int ∨ t = .boolean ∨ t = .byte ∨ t = .char ∨ t = .short) : ((Instr.ireturn : Instr) = .ireturn ∧ (t = .int ∨ t = .boolean ∨ t = .byte ∨ t = .char ∨ t = .short) ∧ ∃ y, (Value.int z) = .int y) ∨ ((Instr.ireturn : Instr) = .lreturn ∧ t = .long ∧ ∃ y, (Value.int z) = .long y) ∨ ((Instr.ireturn : Instr) = .dreturn ∧ t = .double ∧ ∃ y, (Value.int z) = .double y) ∨ ((Instr.ireturn : Instr) = .freturn ∧ t = .float ∧ ∃ y, (Value.int z) = .float y) ∨ ((Instr.ireturn : Instr) = .areturn ∧ t.isReference = true ∧ (Value.int z).isRef = true) := Or.inl ⟨rfl, ht, z, rfl⟩
end OwnKit
section OwnNum
theorem own_pos (x : Int32) : ¬ (x &&& 2147483647) < 0 := fun h => absurd ((XT.and_neg32 x 2147483647).mp h).2 (by decide)
theorem own_rem {y n : Int32} (h : ¬ y < 0) (hn : 0 < n.toInt) : 0 ≤ (y % n).toInt ∧ (y % n).toInt < n.toInt := by
  rw [Int32.toInt_mod]
  have h' : 0 ≤ y.toInt := Int.not_lt.mp fun q => h ((XT.negI32 y).mpr q)
  exact ⟨Int.tmod_nonneg _ h', Int.tmod_lt_of_pos _ hn⟩
end OwnNum
section OwnCase
variable {Z : State} {args : Array Value}
theorem own_fldI {t : Term} {a : Addr} {C n d : String} {k : Int32} (ev : t.eval args Z none [] Z = some (.ref a)) (h : (Cond.eq (.field t C n d) (.int k)).value args Z none Z [] = some true) : Fld Z Z.heap a C n d (.int k) := by
  refine Fld.start ?_
  rw [← fld_at (args := args) (first := Z) (o := none) (idx := []) (C := C) (n := n) (dd := d) ev]
  obtain ⟨x, y, h1, h2, h3, h4⟩ := cmp_v (Or.inl h)
  have h2' : y = .int k := (Option.some.inj ((Term.int_eval k).symm.trans h2)).symm
  subst h2'
  obtain ⟨z, rfl⟩ := h4
  have h5 : z = k := by simpa [Cond.value, h1, Term.int_eval] using h
  rw [h1, h5]
theorem own_fldR {t u : Term} {a b : Addr} {C n d : String} (ev : t.eval args Z none [] Z = some (.ref a)) (eu : u.eval args Z none [] Z = some (.ref b)) (h : (Cond.eq (.field t C n d) u).value args Z none Z [] = some true) : Fld Z Z.heap a C n d (.ref b) := by
  refine Fld.start ?_
  rw [← fld_at (args := args) (first := Z) (o := none) (idx := []) (C := C) (n := n) (dd := d) ev]
  obtain ⟨x, y, h1, h2, h3, h4⟩ := cmp_v (Or.inl h)
  obtain rfl : y = .ref b := Option.some.inj (h2.symm.trans eu)
  rw [h1]
  rcases ref_cases h4.2 with rfl | ⟨z, rfl⟩
  · simp [Cond.value, h1, eu] at h
  · have h5 : z = b := by simpa [Cond.value, h1, eu] using h
    rw [h5]
end OwnCase
section OwnSets
variable {Z : State} {args : Array Value}
theorem own_len {t : Term} {a : Addr} {ty : FieldType} {k : Int32} (ev : t.eval args Z none [] Z = some (.ref a)) (h1 : (Cond.arrayOf t ty).value args Z none Z [] = some true) (h2 : (Cond.eq (.length t) (.int k)).value args Z none Z [] = some true) : ∃ c, Arr Z Z.heap a c ty ∧ c.slots.size < 2 ^ 31 ∧ c.slots.size.toInt32 = k := by
  obtain ⟨c, A⟩ := Arr.start ev h1
  obtain ⟨x, y, e1, e2, e3, e4⟩ := cmp_v (Or.inl h2)
  have e2' : y = .int k := (Option.some.inj ((Term.int_eval k).symm.trans e2)).symm
  subst e2'
  obtain ⟨z, rfl⟩ := e4
  have h5 : z = k := by simpa [Cond.value, e1, Term.int_eval] using h2
  have hA : Z.arrayAt? a = some c := A.fin (Vm.Alike.refl _)
  simp only [Term.eval, ev, hA, Option.bind_eq_bind, Option.bind_some] at e1
  split at e1
  · rename_i hl
    refine ⟨c, A, hl, ?_⟩
    have := Option.some.inj e1
    rw [← h5]; exact Value.int.inj this
  · cases e1
theorem own_elem {t : Term} {a : Addr} {c : Cell} {ty : FieldType} {k : Int32} {v : Value} (A : Arr Z Z.heap a c ty) (ev : t.eval args Z none [] Z = some (.ref a)) (h : (Term.elem t (.int k)).eval args Z none [] Z = some v) : c.slots[k.toNatClampNeg]? = some v := (elem_in h ev (Term.int_eval k) A.1).2
theorem own_eqI {t : Term} {k : Int32} (h : (Cond.eq t (.int k)).value args Z none Z [] = some true) : t.eval args Z none [] Z = some (.int k) := by
  obtain ⟨x, y, e1, e2, e3, e4⟩ := cmp_v (Or.inl h)
  have e2' : y = .int k := (Option.some.inj ((Term.int_eval k).symm.trans e2)).symm
  subst e2'
  obtain ⟨z, rfl⟩ := e4
  have h5 : z = k := by simpa [Cond.value, e1, Term.int_eval] using h
  rw [e1, h5]
theorem own_eqR {t u : Term} {b : Addr} (eu : u.eval args Z none [] Z = some (.ref b)) (h : (Cond.eq t u).value args Z none Z [] = some true) : t.eval args Z none [] Z = some (.ref b) := by
  obtain ⟨x, y, h1, h2, h3, h4⟩ := cmp_v (Or.inl h)
  obtain rfl : y = .ref b := Option.some.inj (h2.symm.trans eu)
  rw [h1]
  rcases ref_cases h4.2 with rfl | ⟨z, rfl⟩
  · simp [Cond.value, h1, eu] at h
  · have h5 : z = b := by simpa [Cond.value, h1, eu] using h
    rw [h5]
theorem own_neI {t : Term} {x k : Int32} (ev : t.eval args Z none [] Z = some (.int x)) (h : (Cond.not (Cond.eq t (.int k))).value args Z none Z [] = some true) : ¬ x = k := fun q => by
  have h' := not_v h
  simp [Cond.value, ev, Term.int_eval, q] at h'
theorem own_fldV {t : Term} {a : Addr} {C n d : String} {v : Value} (ev : t.eval args Z none [] Z = some (.ref a)) (h : (Term.field t C n d).eval args Z none [] Z = some v) : Fld Z Z.heap a C n d v := Fld.start ((fld_at ev).symm.trans h)
theorem own_nref {v : Value} {t : FieldType} (h : v.isRef = true) : narrow t v = v := by cases v <;> first | rfl | (cases h; done) | (cases t <;> rfl)
end OwnSets
section OwnChar
theorem own_lcmp (x : Int64) : lcmpW x x = 0 := by simp [lcmpW]
theorem own_and255 (x : Int32) : ¬ (255 : Int32) < x &&& 255 ∧ ¬ x &&& 255 < 0 := by
  have h : (x &&& 255).toBitVec ≤ 255#32 := by
    show x.toBitVec &&& 255#32 ≤ 255#32
    rw [BitVec.le_def, BitVec.toNat_and]
    exact Nat.and_le_right
  have h2 : (x &&& 255).toInt = ((x &&& 255).toBitVec.toNat : Int) := by
    show (x &&& 255).toBitVec.toInt = _
    rw [BitVec.toInt_eq_toNat_of_lt]
    rw [BitVec.le_def] at h
    have : (255#32).toNat = 255 := rfl
    omega
  rw [BitVec.le_def] at h
  have h3 : (255#32).toNat = 255 := rfl
  rw [Int32.lt_iff_toInt_lt, Int32.lt_iff_toInt_lt, h2]
  have h4 : (255 : Int32).toInt = 255 := rfl
  have h5 : (0 : Int32).toInt = 0 := rfl
  rw [h4, h5]
  omega
/-- a char of eight bits -/
theorem own_chr (x : Int32) : ∃ c, (x &&& 255).toUInt32.toUInt16.toUInt32.toInt32 = c ∧ nar .char c = c ∧ ¬ (255 : Int32) < c ∧ ¬ c < 0 :=
  ⟨x &&& 255, i2c_mask x, i2c_mask x, (own_and255 x).1, (own_and255 x).2⟩
end OwnChar
section OwnCalls
variable {p : Program} {l : Launch} {e : Env} {R : Room} {s : State} {m : MethodId} {args : Array Value} {below : List Frame} {meth : Method} {c : Code} {T : State} {locs : List Loc} {cells slots : Nat} {Z : State} {a0 : Array Value} {h : Heap}
theorem callVi (X : Stand p l e R s m args below meth c T locs cells slots) (hx : p.tables.exec = Jvm.exec) (hZ : Z.Warmed39 s.vm) {own C : String} {index : Nat} {y z : MethodName} {bytes : ByteArray} {maxL : Nat} {ret : Option FieldType} {rm : Room} {as' : Array Value} {Q : Option Value → Heap → List Loc → Prop} (M : Ctr l Z [] z bytes maxL ret as' h rm Q) (eT : T.heap = h)
    (hown : s.vm.findClass own = some m.cls) (w1 : (Cond.methodLink own index y).before a0 Z = true) (w2 : (Cond.declares y).before a0 Z = true) (w3 : (Cond.selects C y z).before a0 Z = true) (hnf : NotFace s y) (w4 : (Cond.instanceMethod z).before a0 Z = true) (w5 : (Cond.code z bytes maxL ret).before a0 Z = true) (w6 : (Cond.initialized z.cls).before a0 Z = true)
    (hy : y.cls ≠ "java/lang/invoke/MethodHandle" ∧ y.cls ≠ "java/lang/invoke/VarHandle") {pc : Nat} {Ls : Array Slot} {st : List Value} (hd : decode c.code pc = .ok (.invokevirtual index, 3)) (W : Nat) (hf : rm.frames + 1 ≤ R.frames) (hl : W + (maxL + 11) + rm.locals ≤ R.locals) (hc : cells + rm.cells ≤ R.cells) (hs : slots + rm.slots ≤ R.slots)
    (hsz : Ls.size = c.maxLocals) (a : Addr) (E : Exa Z h a C) (argsL rest : List Value) (has : (.ref a :: argsL).toArray = as') (hlen : ∀ sig, parseMethodDescriptor y.desc = some sig → argsL.length = sig.parameters.length) (hst : st = argsL.reverse ++ .ref a :: rest) (hW : (rest.map fun v => v.category).sum ≤ W) :
    ∃ v T' L, Stand p l e R s m args below meth c T' (locs ++ L) (cells + rm.cells) (slots + rm.slots) ∧ Q v T'.heap L ∧ ∀ t, Steps p.tables e below (T'.setTop (mkF m (pc + 3) Ls (v.toList ++ rest))) t → Steps p.tables e below (T.setTop (mkF m pc Ls st)) t := by
  subst has
  obtain ⟨cq, kq, qa, qb, qc⟩ := isOf hZ eT E
  obtain ⟨v, _, ⟨T', L', k', n'⟩, -, X', ⟨L, hQ, q1, q2, q3⟩, stp⟩ := X.virtualBack hx (y := y) (z := z) hown (mvT hZ w1) (mvT hZ w2) hnf (mvT hZ w3) (mvT hZ w4) hy (backOf (W := W) M hZ w5 w6 hf hl) qa qc (g := mkF m pc Ls st) rfl hsz (Steps.refl _) (argsL := argsL) (rest := rest) hlen hst (by show 2 * 0 + _ ≤ _; rw [Nat.mul_zero, Nat.zero_add]; exact hW) hd (fun _ _ => ⟨rfl, eT, hc, hs⟩)
  dsimp only [Pt.U, Pt.locs, Pt.cells, Pt.slots] at X' q1 q2 q3 stp hQ
  subst q1 q2 q3
  exact ⟨v, T', L, X', hQ, fun t k => stp.trans k⟩
end OwnCalls
def Olds (Z : State) (ro0 : Addr) (ro1 : Addr) (ro2 : Addr) (ro3 : Addr) (ro4 : Addr) (ro5 : Addr) (ro6 : Addr) (ro7 : Addr) (ro8 : Addr) (ro9 : Addr) (ro10 : Addr) (ro11 : Addr) (ro12 : Addr) (ro13 : Addr) (ro14 : Addr) (ro15 : Addr) (ro16 : Addr) (ro17 : Addr) (ro18 : Addr) (ro19 : Addr) : Prop := Sta Z Z.heap "com/example/knit_theories/knittheories/model/Builtin" "EQUAL" "Lcom/example/knit_theories/knittheories/model/Builtin;" (.ref ro0) ∧ Exa Z Z.heap ro0 "com/example/knit_theories/knittheories/model/Builtin" ∧ Sta Z Z.heap "com/example/knit_theories/knittheories/model/Builtin" "UNEQUAL" "Lcom/example/knit_theories/knittheories/model/Builtin;" (.ref ro1) ∧ Exa Z Z.heap ro1 "com/example/knit_theories/knittheories/model/Builtin" ∧ Sta Z Z.heap "com/example/knit_theories/knittheories/model/Builtin" "IF_THEN_ELSE" "Lcom/example/knit_theories/knittheories/model/Builtin;" (.ref ro2) ∧ Exa Z Z.heap ro2 "com/example/knit_theories/knittheories/model/Builtin" ∧ Sta Z Z.heap "com/example/knit_theories/knittheories/model/Builtin" "SUCCESSOR" "Lcom/example/knit_theories/knittheories/model/Builtin;" (.ref ro3) ∧ Exa Z Z.heap ro3 "com/example/knit_theories/knittheories/model/Builtin" ∧ Sta Z Z.heap "com/example/knit_theories/knittheories/model/Builtin" "NEGATION" "Lcom/example/knit_theories/knittheories/model/Builtin;" (.ref ro4) ∧ Exa Z Z.heap ro4 "com/example/knit_theories/knittheories/model/Builtin" ∧ Sta Z Z.heap "com/example/knit_theories/knittheories/model/Builtin" "ADD" "Lcom/example/knit_theories/knittheories/model/Builtin;" (.ref ro5) ∧ Exa Z Z.heap ro5 "com/example/knit_theories/knittheories/model/Builtin" ∧ Sta Z Z.heap "com/example/knit_theories/knittheories/model/Builtin" "SUBTRACT" "Lcom/example/knit_theories/knittheories/model/Builtin;" (.ref ro6) ∧ Exa Z Z.heap ro6 "com/example/knit_theories/knittheories/model/Builtin" ∧ Sta Z Z.heap "com/example/knit_theories/knittheories/model/Builtin" "MULTIPLY" "Lcom/example/knit_theories/knittheories/model/Builtin;" (.ref ro7) ∧ Exa Z Z.heap ro7 "com/example/knit_theories/knittheories/model/Builtin" ∧ Sta Z Z.heap "com/example/knit_theories/knittheories/model/Builtin" "DIVIDE" "Lcom/example/knit_theories/knittheories/model/Builtin;" (.ref ro8) ∧ Exa Z Z.heap ro8 "com/example/knit_theories/knittheories/model/Builtin" ∧ Sta Z Z.heap "com/example/knit_theories/knittheories/model/Builtin" "QUOTIENT" "Lcom/example/knit_theories/knittheories/model/Builtin;" (.ref ro9) ∧ Exa Z Z.heap ro9 "com/example/knit_theories/knittheories/model/Builtin" ∧ Sta Z Z.heap "com/example/knit_theories/knittheories/model/Builtin" "REMAINDER" "Lcom/example/knit_theories/knittheories/model/Builtin;" (.ref ro10) ∧ Exa Z Z.heap ro10 "com/example/knit_theories/knittheories/model/Builtin" ∧ Sta Z Z.heap "com/example/knit_theories/knittheories/model/Builtin" "DISTANCE" "Lcom/example/knit_theories/knittheories/model/Builtin;" (.ref ro11) ∧ Exa Z Z.heap ro11 "com/example/knit_theories/knittheories/model/Builtin" ∧ Sta Z Z.heap "com/example/knit_theories/knittheories/model/Builtin" "MAX" "Lcom/example/knit_theories/knittheories/model/Builtin;" (.ref ro12) ∧ Exa Z Z.heap ro12 "com/example/knit_theories/knittheories/model/Builtin" ∧ Sta Z Z.heap "com/example/knit_theories/knittheories/model/Builtin" "MIN" "Lcom/example/knit_theories/knittheories/model/Builtin;" (.ref ro13) ∧ Exa Z Z.heap ro13 "com/example/knit_theories/knittheories/model/Builtin" ∧ Sta Z Z.heap "com/example/knit_theories/knittheories/model/Builtin" "ABS" "Lcom/example/knit_theories/knittheories/model/Builtin;" (.ref ro14) ∧ Exa Z Z.heap ro14 "com/example/knit_theories/knittheories/model/Builtin" ∧ Sta Z Z.heap "com/example/knit_theories/knittheories/model/Builtin" "LESS" "Lcom/example/knit_theories/knittheories/model/Builtin;" (.ref ro15) ∧ Exa Z Z.heap ro15 "com/example/knit_theories/knittheories/model/Builtin" ∧ Sta Z Z.heap "com/example/knit_theories/knittheories/model/Builtin" "LESS_OR_EQUAL" "Lcom/example/knit_theories/knittheories/model/Builtin;" (.ref ro16) ∧ Exa Z Z.heap ro16 "com/example/knit_theories/knittheories/model/Builtin" ∧ Sta Z Z.heap "com/example/knit_theories/knittheories/model/Builtin" "GREATER" "Lcom/example/knit_theories/knittheories/model/Builtin;" (.ref ro17) ∧ Exa Z Z.heap ro17 "com/example/knit_theories/knittheories/model/Builtin" ∧ Sta Z Z.heap "com/example/knit_theories/knittheories/model/Builtin" "GREATER_OR_EQUAL" "Lcom/example/knit_theories/knittheories/model/Builtin;" (.ref ro18) ∧ Exa Z Z.heap ro18 "com/example/knit_theories/knittheories/model/Builtin" ∧ Sta Z Z.heap "com/example/knit_theories/knittheories/model/Builtin" "MODEL_CHECK" "Lcom/example/knit_theories/knittheories/model/Builtin;" (.ref ro19) ∧ Exa Z Z.heap ro19 "com/example/knit_theories/knittheories/model/Builtin" ∧ Fld Z Z.heap ro0 "java/lang/Enum" "ordinal" "I" (.int (0 : Int32)) ∧ Fld Z Z.heap ro3 "java/lang/Enum" "ordinal" "I" (.int (3 : Int32)) ∧ Fld Z Z.heap ro4 "java/lang/Enum" "ordinal" "I" (.int (4 : Int32)) ∧ Fld Z Z.heap ro10 "java/lang/Enum" "ordinal" "I" (.int (10 : Int32)) ∧ Fld Z Z.heap ro11 "java/lang/Enum" "ordinal" "I" (.int (11 : Int32)) ∧ Fld Z Z.heap ro14 "java/lang/Enum" "ordinal" "I" (.int (14 : Int32)) ∧ Fld Z Z.heap ro7 "java/lang/Enum" "ordinal" "I" (.int (7 : Int32)) ∧ Fld Z Z.heap ro2 "java/lang/Enum" "ordinal" "I" (.int (2 : Int32)) ∧ Fld Z Z.heap ro8 "java/lang/Enum" "ordinal" "I" (.int (8 : Int32)) ∧ Fld Z Z.heap ro1 "java/lang/Enum" "ordinal" "I" (.int (1 : Int32)) ∧ Fld Z Z.heap ro19 "java/lang/Enum" "ordinal" "I" (.int (19 : Int32)) ∧ Fld Z Z.heap ro15 "java/lang/Enum" "ordinal" "I" (.int (15 : Int32)) ∧ Fld Z Z.heap ro6 "java/lang/Enum" "ordinal" "I" (.int (6 : Int32)) ∧ Fld Z Z.heap ro17 "java/lang/Enum" "ordinal" "I" (.int (17 : Int32)) ∧ Fld Z Z.heap ro16 "java/lang/Enum" "ordinal" "I" (.int (16 : Int32)) ∧ Fld Z Z.heap ro12 "java/lang/Enum" "ordinal" "I" (.int (12 : Int32)) ∧ Fld Z Z.heap ro5 "java/lang/Enum" "ordinal" "I" (.int (5 : Int32)) ∧ Fld Z Z.heap ro9 "java/lang/Enum" "ordinal" "I" (.int (9 : Int32)) ∧ Fld Z Z.heap ro13 "java/lang/Enum" "ordinal" "I" (.int (13 : Int32)) ∧ Fld Z Z.heap ro18 "java/lang/Enum" "ordinal" "I" (.int (18 : Int32))
theorem wd_4 {Z : State} {a0 : Array Value} (hw : ∀ d ∈ tables_1, d.before a0 Z = true) : (Jvm.Cond.laysStatic "com/example/knit_theories/knittheories/model/Builtin" "EQUAL" "Lcom/example/knit_theories/knittheories/model/Builtin;").before a0 Z = true := hw _ (List.mem_of_getElem? (i := 4) rfl)
theorem wd_3 {Z : State} {a0 : Array Value} (hw : ∀ d ∈ tables_1, d.before a0 Z = true) : (Jvm.Cond.initialized "com/example/knit_theories/knittheories/model/Builtin").before a0 Z = true := hw _ (List.mem_of_getElem? (i := 3) rfl)
theorem wd_7 {Z : State} {a0 : Array Value} (hw : ∀ d ∈ tables_1, d.before a0 Z = true) : (Jvm.Cond.laysStatic "com/example/knit_theories/knittheories/model/Builtin" "UNEQUAL" "Lcom/example/knit_theories/knittheories/model/Builtin;").before a0 Z = true := hw _ (List.mem_of_getElem? (i := 7) rfl)
theorem wd_9 {Z : State} {a0 : Array Value} (hw : ∀ d ∈ tables_1, d.before a0 Z = true) : (Jvm.Cond.laysStatic "com/example/knit_theories/knittheories/model/Builtin" "IF_THEN_ELSE" "Lcom/example/knit_theories/knittheories/model/Builtin;").before a0 Z = true := hw _ (List.mem_of_getElem? (i := 9) rfl)
theorem wd_11 {Z : State} {a0 : Array Value} (hw : ∀ d ∈ tables_1, d.before a0 Z = true) : (Jvm.Cond.laysStatic "com/example/knit_theories/knittheories/model/Builtin" "SUCCESSOR" "Lcom/example/knit_theories/knittheories/model/Builtin;").before a0 Z = true := hw _ (List.mem_of_getElem? (i := 11) rfl)
theorem wd_13 {Z : State} {a0 : Array Value} (hw : ∀ d ∈ tables_1, d.before a0 Z = true) : (Jvm.Cond.laysStatic "com/example/knit_theories/knittheories/model/Builtin" "NEGATION" "Lcom/example/knit_theories/knittheories/model/Builtin;").before a0 Z = true := hw _ (List.mem_of_getElem? (i := 13) rfl)
theorem wd_15 {Z : State} {a0 : Array Value} (hw : ∀ d ∈ tables_1, d.before a0 Z = true) : (Jvm.Cond.laysStatic "com/example/knit_theories/knittheories/model/Builtin" "ADD" "Lcom/example/knit_theories/knittheories/model/Builtin;").before a0 Z = true := hw _ (List.mem_of_getElem? (i := 15) rfl)
theorem wd_17 {Z : State} {a0 : Array Value} (hw : ∀ d ∈ tables_1, d.before a0 Z = true) : (Jvm.Cond.laysStatic "com/example/knit_theories/knittheories/model/Builtin" "SUBTRACT" "Lcom/example/knit_theories/knittheories/model/Builtin;").before a0 Z = true := hw _ (List.mem_of_getElem? (i := 17) rfl)
theorem wd_19 {Z : State} {a0 : Array Value} (hw : ∀ d ∈ tables_1, d.before a0 Z = true) : (Jvm.Cond.laysStatic "com/example/knit_theories/knittheories/model/Builtin" "MULTIPLY" "Lcom/example/knit_theories/knittheories/model/Builtin;").before a0 Z = true := hw _ (List.mem_of_getElem? (i := 19) rfl)
theorem wd_21 {Z : State} {a0 : Array Value} (hw : ∀ d ∈ tables_1, d.before a0 Z = true) : (Jvm.Cond.laysStatic "com/example/knit_theories/knittheories/model/Builtin" "DIVIDE" "Lcom/example/knit_theories/knittheories/model/Builtin;").before a0 Z = true := hw _ (List.mem_of_getElem? (i := 21) rfl)
theorem wd_23 {Z : State} {a0 : Array Value} (hw : ∀ d ∈ tables_1, d.before a0 Z = true) : (Jvm.Cond.laysStatic "com/example/knit_theories/knittheories/model/Builtin" "QUOTIENT" "Lcom/example/knit_theories/knittheories/model/Builtin;").before a0 Z = true := hw _ (List.mem_of_getElem? (i := 23) rfl)
theorem wd_25 {Z : State} {a0 : Array Value} (hw : ∀ d ∈ tables_1, d.before a0 Z = true) : (Jvm.Cond.laysStatic "com/example/knit_theories/knittheories/model/Builtin" "REMAINDER" "Lcom/example/knit_theories/knittheories/model/Builtin;").before a0 Z = true := hw _ (List.mem_of_getElem? (i := 25) rfl)
theorem wd_27 {Z : State} {a0 : Array Value} (hw : ∀ d ∈ tables_1, d.before a0 Z = true) : (Jvm.Cond.laysStatic "com/example/knit_theories/knittheories/model/Builtin" "DISTANCE" "Lcom/example/knit_theories/knittheories/model/Builtin;").before a0 Z = true := hw _ (List.mem_of_getElem? (i := 27) rfl)
theorem wd_29 {Z : State} {a0 : Array Value} (hw : ∀ d ∈ tables_1, d.before a0 Z = true) : (Jvm.Cond.laysStatic "com/example/knit_theories/knittheories/model/Builtin" "MAX" "Lcom/example/knit_theories/knittheories/model/Builtin;").before a0 Z = true := hw _ (List.mem_of_getElem? (i := 29) rfl)
theorem wd_31 {Z : State} {a0 : Array Value} (hw : ∀ d ∈ tables_1, d.before a0 Z = true) : (Jvm.Cond.laysStatic "com/example/knit_theories/knittheories/model/Builtin" "MIN" "Lcom/example/knit_theories/knittheories/model/Builtin;").before a0 Z = true := hw _ (List.mem_of_getElem? (i := 31) rfl)
theorem wd_33 {Z : State} {a0 : Array Value} (hw : ∀ d ∈ tables_1, d.before a0 Z = true) : (Jvm.Cond.laysStatic "com/example/knit_theories/knittheories/model/Builtin" "ABS" "Lcom/example/knit_theories/knittheories/model/Builtin;").before a0 Z = true := hw _ (List.mem_of_getElem? (i := 33) rfl)
theorem wd_35 {Z : State} {a0 : Array Value} (hw : ∀ d ∈ tables_1, d.before a0 Z = true) : (Jvm.Cond.laysStatic "com/example/knit_theories/knittheories/model/Builtin" "LESS" "Lcom/example/knit_theories/knittheories/model/Builtin;").before a0 Z = true := hw _ (List.mem_of_getElem? (i := 35) rfl)
theorem wd_37 {Z : State} {a0 : Array Value} (hw : ∀ d ∈ tables_1, d.before a0 Z = true) : (Jvm.Cond.laysStatic "com/example/knit_theories/knittheories/model/Builtin" "LESS_OR_EQUAL" "Lcom/example/knit_theories/knittheories/model/Builtin;").before a0 Z = true := hw _ (List.mem_of_getElem? (i := 37) rfl)
theorem wd_39 {Z : State} {a0 : Array Value} (hw : ∀ d ∈ tables_1, d.before a0 Z = true) : (Jvm.Cond.laysStatic "com/example/knit_theories/knittheories/model/Builtin" "GREATER" "Lcom/example/knit_theories/knittheories/model/Builtin;").before a0 Z = true := hw _ (List.mem_of_getElem? (i := 39) rfl)
theorem wd_41 {Z : State} {a0 : Array Value} (hw : ∀ d ∈ tables_1, d.before a0 Z = true) : (Jvm.Cond.laysStatic "com/example/knit_theories/knittheories/model/Builtin" "GREATER_OR_EQUAL" "Lcom/example/knit_theories/knittheories/model/Builtin;").before a0 Z = true := hw _ (List.mem_of_getElem? (i := 41) rfl)
theorem wd_43 {Z : State} {a0 : Array Value} (hw : ∀ d ∈ tables_1, d.before a0 Z = true) : (Jvm.Cond.laysStatic "com/example/knit_theories/knittheories/model/Builtin" "MODEL_CHECK" "Lcom/example/knit_theories/knittheories/model/Builtin;").before a0 Z = true := hw _ (List.mem_of_getElem? (i := 43) rfl)
theorem d0_0 : decode prog_57_method_4_code 0 = .ok (.aload_n 0, 1) := by decide +kernel
theorem d0_1 : decode prog_57_method_4_code 1 = .ok (.getstatic 13, 3) := by decide +kernel
theorem wd_51 {Z : State} {a0 : Array Value} (hw : ∀ d ∈ tables_1, d.before a0 Z = true) : (Jvm.Cond.fieldLink "com/example/knit_theories/knittheories/model/Builtin" (13 : Nat) "com/example/knit_theories/knittheories/model/Builtin" "SUCCESSOR" "Lcom/example/knit_theories/knittheories/model/Builtin;").before a0 Z = true := hw _ (List.mem_of_getElem? (i := 51) rfl)
theorem d0_4 : decode prog_57_method_4_code 4 = .ok (.if_acmp .eq 10, 3) := by decide +kernel
theorem d0_7 : decode prog_57_method_4_code 7 = .ok (.aload_n 0, 1) := by decide +kernel
theorem d0_8 : decode prog_57_method_4_code 8 = .ok (.getstatic 16, 3) := by decide +kernel
theorem wd_52 {Z : State} {a0 : Array Value} (hw : ∀ d ∈ tables_1, d.before a0 Z = true) : (Jvm.Cond.fieldLink "com/example/knit_theories/knittheories/model/Builtin" (16 : Nat) "com/example/knit_theories/knittheories/model/Builtin" "NEGATION" "Lcom/example/knit_theories/knittheories/model/Builtin;").before a0 Z = true := hw _ (List.mem_of_getElem? (i := 52) rfl)
theorem d0_11 : decode prog_57_method_4_code 11 = .ok (.if_acmp .ne 7, 3) := by decide +kernel
theorem d0_18 : decode prog_57_method_4_code 18 = .ok (.iconst 0, 1) := by decide +kernel
theorem d0_19 : decode prog_57_method_4_code 19 = .ok (.ireturn, 1) := by decide +kernel
theorem pn_com_example_knit_theories_knittheories_model_Builtin : plainName "com/example/knit_theories/knittheories/model/Builtin" = true := by first | (simp [plainName, overriddenIn]; done) | decide +kernel
theorem ef_mn_0 (m : MethodId) (ro0 : Addr) (ro1 : Addr) (ro2 : Addr) (ro3 : Addr) (ro4 : Addr) (ro5 : Addr) (ro6 : Addr) (ro7 : Addr) (ro8 : Addr) (ro9 : Addr) (ro10 : Addr) (ro11 : Addr) (ro12 : Addr) (ro13 : Addr) (ro14 : Addr) (ro15 : Addr) (ro16 : Addr) (ro17 : Addr) (ro18 : Addr) (ro19 : Addr) : entryFrame m #[(.ref ro0)] 1 = mkF m 0 #[.val (.ref ro0)] [] := by first | rfl | (simp [entryFrame, mkF, argsToLocals, Value.category]; done)
set_option maxRecDepth 65536 in
set_option maxHeartbeats 40000000 in
theorem mn_0 (l : Launch) (Z : State) (a0 : Array Value) (hw : ∀ d ∈ tables_1, d.before a0 Z = true) (ro0 : Addr) (ro1 : Addr) (ro2 : Addr) (ro3 : Addr) (ro4 : Addr) (ro5 : Addr) (ro6 : Addr) (ro7 : Addr) (ro8 : Addr) (ro9 : Addr) (ro10 : Addr) (ro11 : Addr) (ro12 : Addr) (ro13 : Addr) (ro14 : Addr) (ro15 : Addr) (ro16 : Addr) (ro17 : Addr) (ro18 : Addr) (ro19 : Addr) (h0 : Heap) (n0 : Nat) (Z0 : n0 ≤ h0.size) (O0 : Old Z n0 h0) (G : Olds Z ro0 ro1 ro2 ro3 ro4 ro5 ro6 ro7 ro8 ro9 ro10 ro11 ro12 ro13 ro14 ro15 ro16 ro17 ro18 ro19) :
    Ctr l Z [] (⟨"com/example/knit_theories/knittheories/model/Builtin", "makesNumerals", "()Z"⟩ : MethodName) prog_57_method_4_code 1 (some .boolean) #[(.ref ro0)] h0 ({ frames := 0, cells := 0, slots := 0, locals := 0 } : Room) (fun v h L => v = some (.int (0 : Int32)) ∧ Fr n0 L ∧ h = h0) := by
  refine Ctr.of (plainFor_of_name pn_com_example_knit_theories_knittheories_model_Builtin) (fun m => ef_mn_0 m ro0 ro1 ro2 ro3 ro4 ro5 ro6 ro7 ro8 ro9 ro10 ro11 ro12 ro13 ro14 ro15 ro16 ro17 ro18 ro19) ?_
  intro p e s m below meth c T0 hx hZ hby hml hown hnm hret hlk X0 e0
  have N0 := Fr.nil n0
  show Rch p e below _ (T0.setTop (mkF m 0 #[.val (.ref ro0)] []))
  refine Rch.go (fun t k => XS.aloadN X0.here hx rfl (hb hby d0_0) rfl rfl k) ?_
  show Rch p e below _ (T0.setTop (mkF m 1 #[.val (.ref ro0)] [(.ref ro0)]))
  obtain ⟨T1, X1, e1, st1⟩ := getS2 X0 hx hZ hown (host := "") (Or.inl (wd_51 hw)) Via.refl e0 (G.2.2.2.2.2.2.1.ext O0.2) (g := (mkF m 1 #[.val (.ref ro0)] [(.ref ro0)])) rfl (hb hby d0_1)
  refine Rch.go st1 ?_
  show Rch p e below _ (T1.setTop (mkF m 4 #[.val (.ref ro0)] [(.ref ro3), (.ref ro0)]))
  refine Rch.go (fun t k => acmp X1 hx (g := (mkF m 4 #[.val (.ref ro0)] [(.ref ro3), (.ref ro0)])) rfl (x := (.ref ro0)) (y := (.ref ro3)) rfl rfl (pc0 := 4) (pc' := 7) (same := false) rfl (hb hby d0_4) rfl (decide_eq_false (fun q => absurd (Value.ref.inj q) (Fld.ne G.2.2.2.2.2.2.2.2.2.2.2.2.2.2.2.2.2.2.2.2.2.2.2.2.2.2.2.2.2.2.2.2.2.2.2.2.2.2.2.2.1 G.2.2.2.2.2.2.2.2.2.2.2.2.2.2.2.2.2.2.2.2.2.2.2.2.2.2.2.2.2.2.2.2.2.2.2.2.2.2.2.2.2.1 (by simp)))) (by decide) (by decide) k) ?_
  show Rch p e below _ (T1.setTop (mkF m 7 #[.val (.ref ro0)] []))
  refine Rch.go (fun t k => XS.aloadN X1.here hx rfl (hb hby d0_7) rfl rfl k) ?_
  show Rch p e below _ (T1.setTop (mkF m 8 #[.val (.ref ro0)] [(.ref ro0)]))
  obtain ⟨T2, X2, e2, st2⟩ := getS2 X1 hx hZ hown (host := "") (Or.inl (wd_52 hw)) Via.refl e1 (G.2.2.2.2.2.2.2.2.1.ext O0.2) (g := (mkF m 8 #[.val (.ref ro0)] [(.ref ro0)])) rfl (hb hby d0_8)
  refine Rch.go st2 ?_
  show Rch p e below _ (T2.setTop (mkF m 11 #[.val (.ref ro0)] [(.ref ro4), (.ref ro0)]))
  refine Rch.go (fun t k => acmp X2 hx (g := (mkF m 11 #[.val (.ref ro0)] [(.ref ro4), (.ref ro0)])) rfl (x := (.ref ro0)) (y := (.ref ro4)) rfl rfl (pc0 := 11) (pc' := 18) (same := false) rfl (hb hby d0_11) rfl (decide_eq_false (fun q => absurd (Value.ref.inj q) (Fld.ne G.2.2.2.2.2.2.2.2.2.2.2.2.2.2.2.2.2.2.2.2.2.2.2.2.2.2.2.2.2.2.2.2.2.2.2.2.2.2.2.2.1 G.2.2.2.2.2.2.2.2.2.2.2.2.2.2.2.2.2.2.2.2.2.2.2.2.2.2.2.2.2.2.2.2.2.2.2.2.2.2.2.2.2.2.1 (by simp)))) (by decide) (by decide) k) ?_
  show Rch p e below _ (T2.setTop (mkF m 18 #[.val (.ref ro0)] []))
  refine Rch.go (fun t k => XS.iconst X2.here hx rfl (hb hby d0_18) k) ?_
  show Rch p e below _ (T2.setTop (mkF m 19 #[.val (.ref ro0)] [(.int (0 : Int32))]))
  refine Rch.val X2 hx (t := .boolean) hret hlk rfl (mayI (by simp)) (hb hby d0_19) (by decide) (by decide) ?_
  try rw [e2]
  exact ⟨rfl, N0, rfl⟩
theorem ef_mn_1 (m : MethodId) (ro0 : Addr) (ro1 : Addr) (ro2 : Addr) (ro3 : Addr) (ro4 : Addr) (ro5 : Addr) (ro6 : Addr) (ro7 : Addr) (ro8 : Addr) (ro9 : Addr) (ro10 : Addr) (ro11 : Addr) (ro12 : Addr) (ro13 : Addr) (ro14 : Addr) (ro15 : Addr) (ro16 : Addr) (ro17 : Addr) (ro18 : Addr) (ro19 : Addr) : entryFrame m #[(.ref ro1)] 1 = mkF m 0 #[.val (.ref ro1)] [] := by first | rfl | (simp [entryFrame, mkF, argsToLocals, Value.category]; done)
set_option maxRecDepth 65536 in
set_option maxHeartbeats 40000000 in
theorem mn_1 (l : Launch) (Z : State) (a0 : Array Value) (hw : ∀ d ∈ tables_1, d.before a0 Z = true) (ro0 : Addr) (ro1 : Addr) (ro2 : Addr) (ro3 : Addr) (ro4 : Addr) (ro5 : Addr) (ro6 : Addr) (ro7 : Addr) (ro8 : Addr) (ro9 : Addr) (ro10 : Addr) (ro11 : Addr) (ro12 : Addr) (ro13 : Addr) (ro14 : Addr) (ro15 : Addr) (ro16 : Addr) (ro17 : Addr) (ro18 : Addr) (ro19 : Addr) (h0 : Heap) (n0 : Nat) (Z0 : n0 ≤ h0.size) (O0 : Old Z n0 h0) (G : Olds Z ro0 ro1 ro2 ro3 ro4 ro5 ro6 ro7 ro8 ro9 ro10 ro11 ro12 ro13 ro14 ro15 ro16 ro17 ro18 ro19) :
    Ctr l Z [] (⟨"com/example/knit_theories/knittheories/model/Builtin", "makesNumerals", "()Z"⟩ : MethodName) prog_57_method_4_code 1 (some .boolean) #[(.ref ro1)] h0 ({ frames := 0, cells := 0, slots := 0, locals := 0 } : Room) (fun v h L => v = some (.int (0 : Int32)) ∧ Fr n0 L ∧ h = h0) := by
  refine Ctr.of (plainFor_of_name pn_com_example_knit_theories_knittheories_model_Builtin) (fun m => ef_mn_1 m ro0 ro1 ro2 ro3 ro4 ro5 ro6 ro7 ro8 ro9 ro10 ro11 ro12 ro13 ro14 ro15 ro16 ro17 ro18 ro19) ?_
  intro p e s m below meth c T0 hx hZ hby hml hown hnm hret hlk X0 e0
  have N0 := Fr.nil n0
  show Rch p e below _ (T0.setTop (mkF m 0 #[.val (.ref ro1)] []))
  refine Rch.go (fun t k => XS.aloadN X0.here hx rfl (hb hby d0_0) rfl rfl k) ?_
  show Rch p e below _ (T0.setTop (mkF m 1 #[.val (.ref ro1)] [(.ref ro1)]))
  obtain ⟨T1, X1, e1, st1⟩ := getS2 X0 hx hZ hown (host := "") (Or.inl (wd_51 hw)) Via.refl e0 (G.2.2.2.2.2.2.1.ext O0.2) (g := (mkF m 1 #[.val (.ref ro1)] [(.ref ro1)])) rfl (hb hby d0_1)
  refine Rch.go st1 ?_
  show Rch p e below _ (T1.setTop (mkF m 4 #[.val (.ref ro1)] [(.ref ro3), (.ref ro1)]))
  refine Rch.go (fun t k => acmp X1 hx (g := (mkF m 4 #[.val (.ref ro1)] [(.ref ro3), (.ref ro1)])) rfl (x := (.ref ro1)) (y := (.ref ro3)) rfl rfl (pc0 := 4) (pc' := 7) (same := false) rfl (hb hby d0_4) rfl (decide_eq_false (fun q => absurd (Value.ref.inj q) (Fld.ne G.2.2.2.2.2.2.2.2.2.2.2.2.2.2.2.2.2.2.2.2.2.2.2.2.2.2.2.2.2.2.2.2.2.2.2.2.2.2.2.2.2.2.2.2.2.2.2.2.2.1 G.2.2.2.2.2.2.2.2.2.2.2.2.2.2.2.2.2.2.2.2.2.2.2.2.2.2.2.2.2.2.2.2.2.2.2.2.2.2.2.2.2.1 (by simp)))) (by decide) (by decide) k) ?_
  show Rch p e below _ (T1.setTop (mkF m 7 #[.val (.ref ro1)] []))
  refine Rch.go (fun t k => XS.aloadN X1.here hx rfl (hb hby d0_7) rfl rfl k) ?_
  show Rch p e below _ (T1.setTop (mkF m 8 #[.val (.ref ro1)] [(.ref ro1)]))
  obtain ⟨T2, X2, e2, st2⟩ := getS2 X1 hx hZ hown (host := "") (Or.inl (wd_52 hw)) Via.refl e1 (G.2.2.2.2.2.2.2.2.1.ext O0.2) (g := (mkF m 8 #[.val (.ref ro1)] [(.ref ro1)])) rfl (hb hby d0_8)
  refine Rch.go st2 ?_
  show Rch p e below _ (T2.setTop (mkF m 11 #[.val (.ref ro1)] [(.ref ro4), (.ref ro1)]))
  refine Rch.go (fun t k => acmp X2 hx (g := (mkF m 11 #[.val (.ref ro1)] [(.ref ro4), (.ref ro1)])) rfl (x := (.ref ro1)) (y := (.ref ro4)) rfl rfl (pc0 := 11) (pc' := 18) (same := false) rfl (hb hby d0_11) rfl (decide_eq_false (fun q => absurd (Value.ref.inj q) (Fld.ne G.2.2.2.2.2.2.2.2.2.2.2.2.2.2.2.2.2.2.2.2.2.2.2.2.2.2.2.2.2.2.2.2.2.2.2.2.2.2.2.2.2.2.2.2.2.2.2.2.2.1 G.2.2.2.2.2.2.2.2.2.2.2.2.2.2.2.2.2.2.2.2.2.2.2.2.2.2.2.2.2.2.2.2.2.2.2.2.2.2.2.2.2.2.1 (by simp)))) (by decide) (by decide) k) ?_
  show Rch p e below _ (T2.setTop (mkF m 18 #[.val (.ref ro1)] []))
  refine Rch.go (fun t k => XS.iconst X2.here hx rfl (hb hby d0_18) k) ?_
  show Rch p e below _ (T2.setTop (mkF m 19 #[.val (.ref ro1)] [(.int (0 : Int32))]))
  refine Rch.val X2 hx (t := .boolean) hret hlk rfl (mayI (by simp)) (hb hby d0_19) (by decide) (by decide) ?_
  try rw [e2]
  exact ⟨rfl, N0, rfl⟩
theorem ef_mn_2 (m : MethodId) (ro0 : Addr) (ro1 : Addr) (ro2 : Addr) (ro3 : Addr) (ro4 : Addr) (ro5 : Addr) (ro6 : Addr) (ro7 : Addr) (ro8 : Addr) (ro9 : Addr) (ro10 : Addr) (ro11 : Addr) (ro12 : Addr) (ro13 : Addr) (ro14 : Addr) (ro15 : Addr) (ro16 : Addr) (ro17 : Addr) (ro18 : Addr) (ro19 : Addr) : entryFrame m #[(.ref ro2)] 1 = mkF m 0 #[.val (.ref ro2)] [] := by first | rfl | (simp [entryFrame, mkF, argsToLocals, Value.category]; done)
set_option maxRecDepth 65536 in
set_option maxHeartbeats 40000000 in
theorem mn_2 (l : Launch) (Z : State) (a0 : Array Value) (hw : ∀ d ∈ tables_1, d.before a0 Z = true) (ro0 : Addr) (ro1 : Addr) (ro2 : Addr) (ro3 : Addr) (ro4 : Addr) (ro5 : Addr) (ro6 : Addr) (ro7 : Addr) (ro8 : Addr) (ro9 : Addr) (ro10 : Addr) (ro11 : Addr) (ro12 : Addr) (ro13 : Addr) (ro14 : Addr) (ro15 : Addr) (ro16 : Addr) (ro17 : Addr) (ro18 : Addr) (ro19 : Addr) (h0 : Heap) (n0 : Nat) (Z0 : n0 ≤ h0.size) (O0 : Old Z n0 h0) (G : Olds Z ro0 ro1 ro2 ro3 ro4 ro5 ro6 ro7 ro8 ro9 ro10 ro11 ro12 ro13 ro14 ro15 ro16 ro17 ro18 ro19) :
    Ctr l Z [] (⟨"com/example/knit_theories/knittheories/model/Builtin", "makesNumerals", "()Z"⟩ : MethodName) prog_57_method_4_code 1 (some .boolean) #[(.ref ro2)] h0 ({ frames := 0, cells := 0, slots := 0, locals := 0 } : Room) (fun v h L => v = some (.int (0 : Int32)) ∧ Fr n0 L ∧ h = h0) := by
  refine Ctr.of (plainFor_of_name pn_com_example_knit_theories_knittheories_model_Builtin) (fun m => ef_mn_2 m ro0 ro1 ro2 ro3 ro4 ro5 ro6 ro7 ro8 ro9 ro10 ro11 ro12 ro13 ro14 ro15 ro16 ro17 ro18 ro19) ?_
  intro p e s m below meth c T0 hx hZ hby hml hown hnm hret hlk X0 e0
  have N0 := Fr.nil n0
  show Rch p e below _ (T0.setTop (mkF m 0 #[.val (.ref ro2)] []))
  refine Rch.go (fun t k => XS.aloadN X0.here hx rfl (hb hby d0_0) rfl rfl k) ?_
  show Rch p e below _ (T0.setTop (mkF m 1 #[.val (.ref ro2)] [(.ref ro2)]))
  obtain ⟨T1, X1, e1, st1⟩ := getS2 X0 hx hZ hown (host := "") (Or.inl (wd_51 hw)) Via.refl e0 (G.2.2.2.2.2.2.1.ext O0.2) (g := (mkF m 1 #[.val (.ref ro2)] [(.ref ro2)])) rfl (hb hby d0_1)
  refine Rch.go st1 ?_
  show Rch p e below _ (T1.setTop (mkF m 4 #[.val (.ref ro2)] [(.ref ro3), (.ref ro2)]))
  refine Rch.go (fun t k => acmp X1 hx (g := (mkF m 4 #[.val (.ref ro2)] [(.ref ro3), (.ref ro2)])) rfl (x := (.ref ro2)) (y := (.ref ro3)) rfl rfl (pc0 := 4) (pc' := 7) (same := false) rfl (hb hby d0_4) rfl (decide_eq_false (fun q => absurd (Value.ref.inj q) (Fld.ne G.2.2.2.2.2.2.2.2.2.2.2.2.2.2.2.2.2.2.2.2.2.2.2.2.2.2.2.2.2.2.2.2.2.2.2.2.2.2.2.2.2.2.2.2.2.2.2.1 G.2.2.2.2.2.2.2.2.2.2.2.2.2.2.2.2.2.2.2.2.2.2.2.2.2.2.2.2.2.2.2.2.2.2.2.2.2.2.2.2.2.1 (by simp)))) (by decide) (by decide) k) ?_
  show Rch p e below _ (T1.setTop (mkF m 7 #[.val (.ref ro2)] []))
  refine Rch.go (fun t k => XS.aloadN X1.here hx rfl (hb hby d0_7) rfl rfl k) ?_
  show Rch p e below _ (T1.setTop (mkF m 8 #[.val (.ref ro2)] [(.ref ro2)]))
  obtain ⟨T2, X2, e2, st2⟩ := getS2 X1 hx hZ hown (host := "") (Or.inl (wd_52 hw)) Via.refl e1 (G.2.2.2.2.2.2.2.2.1.ext O0.2) (g := (mkF m 8 #[.val (.ref ro2)] [(.ref ro2)])) rfl (hb hby d0_8)
  refine Rch.go st2 ?_
  show Rch p e below _ (T2.setTop (mkF m 11 #[.val (.ref ro2)] [(.ref ro4), (.ref ro2)]))
  refine Rch.go (fun t k => acmp X2 hx (g := (mkF m 11 #[.val (.ref ro2)] [(.ref ro4), (.ref ro2)])) rfl (x := (.ref ro2)) (y := (.ref ro4)) rfl rfl (pc0 := 11) (pc' := 18) (same := false) rfl (hb hby d0_11) rfl (decide_eq_false (fun q => absurd (Value.ref.inj q) (Fld.ne G.2.2.2.2.2.2.2.2.2.2.2.2.2.2.2.2.2.2.2.2.2.2.2.2.2.2.2.2.2.2.2.2.2.2.2.2.2.2.2.2.2.2.2.2.2.2.2.1 G.2.2.2.2.2.2.2.2.2.2.2.2.2.2.2.2.2.2.2.2.2.2.2.2.2.2.2.2.2.2.2.2.2.2.2.2.2.2.2.2.2.2.1 (by simp)))) (by decide) (by decide) k) ?_
  show Rch p e below _ (T2.setTop (mkF m 18 #[.val (.ref ro2)] []))
  refine Rch.go (fun t k => XS.iconst X2.here hx rfl (hb hby d0_18) k) ?_
  show Rch p e below _ (T2.setTop (mkF m 19 #[.val (.ref ro2)] [(.int (0 : Int32))]))
  refine Rch.val X2 hx (t := .boolean) hret hlk rfl (mayI (by simp)) (hb hby d0_19) (by decide) (by decide) ?_
  try rw [e2]
  exact ⟨rfl, N0, rfl⟩
theorem d0_14 : decode prog_57_method_4_code 14 = .ok (.iconst 1, 1) := by decide +kernel
theorem d0_15 : decode prog_57_method_4_code 15 = .ok (.goto 4, 3) := by decide +kernel
theorem ef_mn_3 (m : MethodId) (ro0 : Addr) (ro1 : Addr) (ro2 : Addr) (ro3 : Addr) (ro4 : Addr) (ro5 : Addr) (ro6 : Addr) (ro7 : Addr) (ro8 : Addr) (ro9 : Addr) (ro10 : Addr) (ro11 : Addr) (ro12 : Addr) (ro13 : Addr) (ro14 : Addr) (ro15 : Addr) (ro16 : Addr) (ro17 : Addr) (ro18 : Addr) (ro19 : Addr) : entryFrame m #[(.ref ro3)] 1 = mkF m 0 #[.val (.ref ro3)] [] := by first | rfl | (simp [entryFrame, mkF, argsToLocals, Value.category]; done)
set_option maxRecDepth 65536 in
set_option maxHeartbeats 40000000 in
theorem mn_3 (l : Launch) (Z : State) (a0 : Array Value) (hw : ∀ d ∈ tables_1, d.before a0 Z = true) (ro0 : Addr) (ro1 : Addr) (ro2 : Addr) (ro3 : Addr) (ro4 : Addr) (ro5 : Addr) (ro6 : Addr) (ro7 : Addr) (ro8 : Addr) (ro9 : Addr) (ro10 : Addr) (ro11 : Addr) (ro12 : Addr) (ro13 : Addr) (ro14 : Addr) (ro15 : Addr) (ro16 : Addr) (ro17 : Addr) (ro18 : Addr) (ro19 : Addr) (h0 : Heap) (n0 : Nat) (Z0 : n0 ≤ h0.size) (O0 : Old Z n0 h0) (G : Olds Z ro0 ro1 ro2 ro3 ro4 ro5 ro6 ro7 ro8 ro9 ro10 ro11 ro12 ro13 ro14 ro15 ro16 ro17 ro18 ro19) :
    Ctr l Z [] (⟨"com/example/knit_theories/knittheories/model/Builtin", "makesNumerals", "()Z"⟩ : MethodName) prog_57_method_4_code 1 (some .boolean) #[(.ref ro3)] h0 ({ frames := 0, cells := 0, slots := 0, locals := 0 } : Room) (fun v h L => v = some (.int (1 : Int32)) ∧ Fr n0 L ∧ h = h0) := by
  refine Ctr.of (plainFor_of_name pn_com_example_knit_theories_knittheories_model_Builtin) (fun m => ef_mn_3 m ro0 ro1 ro2 ro3 ro4 ro5 ro6 ro7 ro8 ro9 ro10 ro11 ro12 ro13 ro14 ro15 ro16 ro17 ro18 ro19) ?_
  intro p e s m below meth c T0 hx hZ hby hml hown hnm hret hlk X0 e0
  have N0 := Fr.nil n0
  show Rch p e below _ (T0.setTop (mkF m 0 #[.val (.ref ro3)] []))
  refine Rch.go (fun t k => XS.aloadN X0.here hx rfl (hb hby d0_0) rfl rfl k) ?_
  show Rch p e below _ (T0.setTop (mkF m 1 #[.val (.ref ro3)] [(.ref ro3)]))
  obtain ⟨T1, X1, e1, st1⟩ := getS2 X0 hx hZ hown (host := "") (Or.inl (wd_51 hw)) Via.refl e0 (G.2.2.2.2.2.2.1.ext O0.2) (g := (mkF m 1 #[.val (.ref ro3)] [(.ref ro3)])) rfl (hb hby d0_1)
  refine Rch.go st1 ?_
  show Rch p e below _ (T1.setTop (mkF m 4 #[.val (.ref ro3)] [(.ref ro3), (.ref ro3)]))
  refine Rch.go (fun t k => acmp X1 hx (g := (mkF m 4 #[.val (.ref ro3)] [(.ref ro3), (.ref ro3)])) rfl (x := (.ref ro3)) (y := (.ref ro3)) rfl rfl (pc0 := 4) (pc' := 14) (same := true) rfl (hb hby d0_4) rfl (decide_eq_true rfl) (by decide) (by decide) k) ?_
  show Rch p e below _ (T1.setTop (mkF m 14 #[.val (.ref ro3)] []))
  refine Rch.go (fun t k => XS.iconst X1.here hx rfl (hb hby d0_14) k) ?_
  show Rch p e below _ (T1.setTop (mkF m 15 #[.val (.ref ro3)] [(.int (1 : Int32))]))
  refine Rch.go (fun t k => XS.goto X1.here hx rfl (pc0 := 15) (pc' := 19) rfl (hb hby d0_15) (by decide) (by decide) k) ?_
  show Rch p e below _ (T1.setTop (mkF m 19 #[.val (.ref ro3)] [(.int (1 : Int32))]))
  refine Rch.val X1 hx (t := .boolean) hret hlk rfl (mayI (by simp)) (hb hby d0_19) (by decide) (by decide) ?_
  try rw [e1]
  exact ⟨rfl, N0, rfl⟩
theorem ef_mn_4 (m : MethodId) (ro0 : Addr) (ro1 : Addr) (ro2 : Addr) (ro3 : Addr) (ro4 : Addr) (ro5 : Addr) (ro6 : Addr) (ro7 : Addr) (ro8 : Addr) (ro9 : Addr) (ro10 : Addr) (ro11 : Addr) (ro12 : Addr) (ro13 : Addr) (ro14 : Addr) (ro15 : Addr) (ro16 : Addr) (ro17 : Addr) (ro18 : Addr) (ro19 : Addr) : entryFrame m #[(.ref ro4)] 1 = mkF m 0 #[.val (.ref ro4)] [] := by first | rfl | (simp [entryFrame, mkF, argsToLocals, Value.category]; done)
set_option maxRecDepth 65536 in
set_option maxHeartbeats 40000000 in
theorem mn_4 (l : Launch) (Z : State) (a0 : Array Value) (hw : ∀ d ∈ tables_1, d.before a0 Z = true) (ro0 : Addr) (ro1 : Addr) (ro2 : Addr) (ro3 : Addr) (ro4 : Addr) (ro5 : Addr) (ro6 : Addr) (ro7 : Addr) (ro8 : Addr) (ro9 : Addr) (ro10 : Addr) (ro11 : Addr) (ro12 : Addr) (ro13 : Addr) (ro14 : Addr) (ro15 : Addr) (ro16 : Addr) (ro17 : Addr) (ro18 : Addr) (ro19 : Addr) (h0 : Heap) (n0 : Nat) (Z0 : n0 ≤ h0.size) (O0 : Old Z n0 h0) (G : Olds Z ro0 ro1 ro2 ro3 ro4 ro5 ro6 ro7 ro8 ro9 ro10 ro11 ro12 ro13 ro14 ro15 ro16 ro17 ro18 ro19) :
    Ctr l Z [] (⟨"com/example/knit_theories/knittheories/model/Builtin", "makesNumerals", "()Z"⟩ : MethodName) prog_57_method_4_code 1 (some .boolean) #[(.ref ro4)] h0 ({ frames := 0, cells := 0, slots := 0, locals := 0 } : Room) (fun v h L => v = some (.int (1 : Int32)) ∧ Fr n0 L ∧ h = h0) := by
  refine Ctr.of (plainFor_of_name pn_com_example_knit_theories_knittheories_model_Builtin) (fun m => ef_mn_4 m ro0 ro1 ro2 ro3 ro4 ro5 ro6 ro7 ro8 ro9 ro10 ro11 ro12 ro13 ro14 ro15 ro16 ro17 ro18 ro19) ?_
  intro p e s m below meth c T0 hx hZ hby hml hown hnm hret hlk X0 e0
  have N0 := Fr.nil n0
  show Rch p e below _ (T0.setTop (mkF m 0 #[.val (.ref ro4)] []))
  refine Rch.go (fun t k => XS.aloadN X0.here hx rfl (hb hby d0_0) rfl rfl k) ?_
  show Rch p e below _ (T0.setTop (mkF m 1 #[.val (.ref ro4)] [(.ref ro4)]))
  obtain ⟨T1, X1, e1, st1⟩ := getS2 X0 hx hZ hown (host := "") (Or.inl (wd_51 hw)) Via.refl e0 (G.2.2.2.2.2.2.1.ext O0.2) (g := (mkF m 1 #[.val (.ref ro4)] [(.ref ro4)])) rfl (hb hby d0_1)
  refine Rch.go st1 ?_
  show Rch p e below _ (T1.setTop (mkF m 4 #[.val (.ref ro4)] [(.ref ro3), (.ref ro4)]))
  refine Rch.go (fun t k => acmp X1 hx (g := (mkF m 4 #[.val (.ref ro4)] [(.ref ro3), (.ref ro4)])) rfl (x := (.ref ro4)) (y := (.ref ro3)) rfl rfl (pc0 := 4) (pc' := 7) (same := false) rfl (hb hby d0_4) rfl (decide_eq_false (fun q => absurd (Value.ref.inj q) (Fld.ne G.2.2.2.2.2.2.2.2.2.2.2.2.2.2.2.2.2.2.2.2.2.2.2.2.2.2.2.2.2.2.2.2.2.2.2.2.2.2.2.2.2.2.1 G.2.2.2.2.2.2.2.2.2.2.2.2.2.2.2.2.2.2.2.2.2.2.2.2.2.2.2.2.2.2.2.2.2.2.2.2.2.2.2.2.2.1 (by simp)))) (by decide) (by decide) k) ?_
  show Rch p e below _ (T1.setTop (mkF m 7 #[.val (.ref ro4)] []))
  refine Rch.go (fun t k => XS.aloadN X1.here hx rfl (hb hby d0_7) rfl rfl k) ?_
  show Rch p e below _ (T1.setTop (mkF m 8 #[.val (.ref ro4)] [(.ref ro4)]))
  obtain ⟨T2, X2, e2, st2⟩ := getS2 X1 hx hZ hown (host := "") (Or.inl (wd_52 hw)) Via.refl e1 (G.2.2.2.2.2.2.2.2.1.ext O0.2) (g := (mkF m 8 #[.val (.ref ro4)] [(.ref ro4)])) rfl (hb hby d0_8)
  refine Rch.go st2 ?_
  show Rch p e below _ (T2.setTop (mkF m 11 #[.val (.ref ro4)] [(.ref ro4), (.ref ro4)]))
  refine Rch.go (fun t k => acmp X2 hx (g := (mkF m 11 #[.val (.ref ro4)] [(.ref ro4), (.ref ro4)])) rfl (x := (.ref ro4)) (y := (.ref ro4)) rfl rfl (pc0 := 11) (pc' := 14) (same := true) rfl (hb hby d0_11) rfl (decide_eq_true rfl) (by decide) (by decide) k) ?_
  show Rch p e below _ (T2.setTop (mkF m 14 #[.val (.ref ro4)] []))
  refine Rch.go (fun t k => XS.iconst X2.here hx rfl (hb hby d0_14) k) ?_
  show Rch p e below _ (T2.setTop (mkF m 15 #[.val (.ref ro4)] [(.int (1 : Int32))]))
  refine Rch.go (fun t k => XS.goto X2.here hx rfl (pc0 := 15) (pc' := 19) rfl (hb hby d0_15) (by decide) (by decide) k) ?_
  show Rch p e below _ (T2.setTop (mkF m 19 #[.val (.ref ro4)] [(.int (1 : Int32))]))
  refine Rch.val X2 hx (t := .boolean) hret hlk rfl (mayI (by simp)) (hb hby d0_19) (by decide) (by decide) ?_
  try rw [e2]
  exact ⟨rfl, N0, rfl⟩
theorem ef_mn_5 (m : MethodId) (ro0 : Addr) (ro1 : Addr) (ro2 : Addr) (ro3 : Addr) (ro4 : Addr) (ro5 : Addr) (ro6 : Addr) (ro7 : Addr) (ro8 : Addr) (ro9 : Addr) (ro10 : Addr) (ro11 : Addr) (ro12 : Addr) (ro13 : Addr) (ro14 : Addr) (ro15 : Addr) (ro16 : Addr) (ro17 : Addr) (ro18 : Addr) (ro19 : Addr) : entryFrame m #[(.ref ro5)] 1 = mkF m 0 #[.val (.ref ro5)] [] := by first | rfl | (simp [entryFrame, mkF, argsToLocals, Value.category]; done)
set_option maxRecDepth 65536 in
set_option maxHeartbeats 40000000 in
theorem mn_5 (l : Launch) (Z : State) (a0 : Array Value) (hw : ∀ d ∈ tables_1, d.before a0 Z = true) (ro0 : Addr) (ro1 : Addr) (ro2 : Addr) (ro3 : Addr) (ro4 : Addr) (ro5 : Addr) (ro6 : Addr) (ro7 : Addr) (ro8 : Addr) (ro9 : Addr) (ro10 : Addr) (ro11 : Addr) (ro12 : Addr) (ro13 : Addr) (ro14 : Addr) (ro15 : Addr) (ro16 : Addr) (ro17 : Addr) (ro18 : Addr) (ro19 : Addr) (h0 : Heap) (n0 : Nat) (Z0 : n0 ≤ h0.size) (O0 : Old Z n0 h0) (G : Olds Z ro0 ro1 ro2 ro3 ro4 ro5 ro6 ro7 ro8 ro9 ro10 ro11 ro12 ro13 ro14 ro15 ro16 ro17 ro18 ro19) :
    Ctr l Z [] (⟨"com/example/knit_theories/knittheories/model/Builtin", "makesNumerals", "()Z"⟩ : MethodName) prog_57_method_4_code 1 (some .boolean) #[(.ref ro5)] h0 ({ frames := 0, cells := 0, slots := 0, locals := 0 } : Room) (fun v h L => v = some (.int (0 : Int32)) ∧ Fr n0 L ∧ h = h0) := by
  refine Ctr.of (plainFor_of_name pn_com_example_knit_theories_knittheories_model_Builtin) (fun m => ef_mn_5 m ro0 ro1 ro2 ro3 ro4 ro5 ro6 ro7 ro8 ro9 ro10 ro11 ro12 ro13 ro14 ro15 ro16 ro17 ro18 ro19) ?_
  intro p e s m below meth c T0 hx hZ hby hml hown hnm hret hlk X0 e0
  have N0 := Fr.nil n0
  show Rch p e below _ (T0.setTop (mkF m 0 #[.val (.ref ro5)] []))
  refine Rch.go (fun t k => XS.aloadN X0.here hx rfl (hb hby d0_0) rfl rfl k) ?_
  show Rch p e below _ (T0.setTop (mkF m 1 #[.val (.ref ro5)] [(.ref ro5)]))
  obtain ⟨T1, X1, e1, st1⟩ := getS2 X0 hx hZ hown (host := "") (Or.inl (wd_51 hw)) Via.refl e0 (G.2.2.2.2.2.2.1.ext O0.2) (g := (mkF m 1 #[.val (.ref ro5)] [(.ref ro5)])) rfl (hb hby d0_1)
  refine Rch.go st1 ?_
  show Rch p e below _ (T1.setTop (mkF m 4 #[.val (.ref ro5)] [(.ref ro3), (.ref ro5)]))
  refine Rch.go (fun t k => acmp X1 hx (g := (mkF m 4 #[.val (.ref ro5)] [(.ref ro3), (.ref ro5)])) rfl (x := (.ref ro5)) (y := (.ref ro3)) rfl rfl (pc0 := 4) (pc' := 7) (same := false) rfl (hb hby d0_4) rfl (decide_eq_false (fun q => absurd (Value.ref.inj q) (Fld.ne G.2.2.2.2.2.2.2.2.2.2.2.2.2.2.2.2.2.2.2.2.2.2.2.2.2.2.2.2.2.2.2.2.2.2.2.2.2.2.2.2.2.2.2.2.2.2.2.2.2.2.2.2.2.2.2.2.1 G.2.2.2.2.2.2.2.2.2.2.2.2.2.2.2.2.2.2.2.2.2.2.2.2.2.2.2.2.2.2.2.2.2.2.2.2.2.2.2.2.2.1 (by simp)))) (by decide) (by decide) k) ?_
  show Rch p e below _ (T1.setTop (mkF m 7 #[.val (.ref ro5)] []))
  refine Rch.go (fun t k => XS.aloadN X1.here hx rfl (hb hby d0_7) rfl rfl k) ?_
  show Rch p e below _ (T1.setTop (mkF m 8 #[.val (.ref ro5)] [(.ref ro5)]))
  obtain ⟨T2, X2, e2, st2⟩ := getS2 X1 hx hZ hown (host := "") (Or.inl (wd_52 hw)) Via.refl e1 (G.2.2.2.2.2.2.2.2.1.ext O0.2) (g := (mkF m 8 #[.val (.ref ro5)] [(.ref ro5)])) rfl (hb hby d0_8)
  refine Rch.go st2 ?_
  show Rch p e below _ (T2.setTop (mkF m 11 #[.val (.ref ro5)] [(.ref ro4), (.ref ro5)]))
  refine Rch.go (fun t k => acmp X2 hx (g := (mkF m 11 #[.val (.ref ro5)] [(.ref ro4), (.ref ro5)])) rfl (x := (.ref ro5)) (y := (.ref ro4)) rfl rfl (pc0 := 11) (pc' := 18) (same := false) rfl (hb hby d0_11) rfl (decide_eq_false (fun q => absurd (Value.ref.inj q) (Fld.ne G.2.2.2.2.2.2.2.2.2.2.2.2.2.2.2.2.2.2.2.2.2.2.2.2.2.2.2.2.2.2.2.2.2.2.2.2.2.2.2.2.2.2.2.2.2.2.2.2.2.2.2.2.2.2.2.2.1 G.2.2.2.2.2.2.2.2.2.2.2.2.2.2.2.2.2.2.2.2.2.2.2.2.2.2.2.2.2.2.2.2.2.2.2.2.2.2.2.2.2.2.1 (by simp)))) (by decide) (by decide) k) ?_
  show Rch p e below _ (T2.setTop (mkF m 18 #[.val (.ref ro5)] []))
  refine Rch.go (fun t k => XS.iconst X2.here hx rfl (hb hby d0_18) k) ?_
  show Rch p e below _ (T2.setTop (mkF m 19 #[.val (.ref ro5)] [(.int (0 : Int32))]))
  refine Rch.val X2 hx (t := .boolean) hret hlk rfl (mayI (by simp)) (hb hby d0_19) (by decide) (by decide) ?_
  try rw [e2]
  exact ⟨rfl, N0, rfl⟩
theorem ef_mn_6 (m : MethodId) (ro0 : Addr) (ro1 : Addr) (ro2 : Addr) (ro3 : Addr) (ro4 : Addr) (ro5 : Addr) (ro6 : Addr) (ro7 : Addr) (ro8 : Addr) (ro9 : Addr) (ro10 : Addr) (ro11 : Addr) (ro12 : Addr) (ro13 : Addr) (ro14 : Addr) (ro15 : Addr) (ro16 : Addr) (ro17 : Addr) (ro18 : Addr) (ro19 : Addr) : entryFrame m #[(.ref ro6)] 1 = mkF m 0 #[.val (.ref ro6)] [] := by first | rfl | (simp [entryFrame, mkF, argsToLocals, Value.category]; done)
set_option maxRecDepth 65536 in
set_option maxHeartbeats 40000000 in
theorem mn_6 (l : Launch) (Z : State) (a0 : Array Value) (hw : ∀ d ∈ tables_1, d.before a0 Z = true) (ro0 : Addr) (ro1 : Addr) (ro2 : Addr) (ro3 : Addr) (ro4 : Addr) (ro5 : Addr) (ro6 : Addr) (ro7 : Addr) (ro8 : Addr) (ro9 : Addr) (ro10 : Addr) (ro11 : Addr) (ro12 : Addr) (ro13 : Addr) (ro14 : Addr) (ro15 : Addr) (ro16 : Addr) (ro17 : Addr) (ro18 : Addr) (ro19 : Addr) (h0 : Heap) (n0 : Nat) (Z0 : n0 ≤ h0.size) (O0 : Old Z n0 h0) (G : Olds Z ro0 ro1 ro2 ro3 ro4 ro5 ro6 ro7 ro8 ro9 ro10 ro11 ro12 ro13 ro14 ro15 ro16 ro17 ro18 ro19) :
    Ctr l Z [] (⟨"com/example/knit_theories/knittheories/model/Builtin", "makesNumerals", "()Z"⟩ : MethodName) prog_57_method_4_code 1 (some .boolean) #[(.ref ro6)] h0 ({ frames := 0, cells := 0, slots := 0, locals := 0 } : Room) (fun v h L => v = some (.int (0 : Int32)) ∧ Fr n0 L ∧ h = h0) := by
  refine Ctr.of (plainFor_of_name pn_com_example_knit_theories_knittheories_model_Builtin) (fun m => ef_mn_6 m ro0 ro1 ro2 ro3 ro4 ro5 ro6 ro7 ro8 ro9 ro10 ro11 ro12 ro13 ro14 ro15 ro16 ro17 ro18 ro19) ?_
  intro p e s m below meth c T0 hx hZ hby hml hown hnm hret hlk X0 e0
  have N0 := Fr.nil n0
  show Rch p e below _ (T0.setTop (mkF m 0 #[.val (.ref ro6)] []))
  refine Rch.go (fun t k => XS.aloadN X0.here hx rfl (hb hby d0_0) rfl rfl k) ?_
  show Rch p e below _ (T0.setTop (mkF m 1 #[.val (.ref ro6)] [(.ref ro6)]))
  obtain ⟨T1, X1, e1, st1⟩ := getS2 X0 hx hZ hown (host := "") (Or.inl (wd_51 hw)) Via.refl e0 (G.2.2.2.2.2.2.1.ext O0.2) (g := (mkF m 1 #[.val (.ref ro6)] [(.ref ro6)])) rfl (hb hby d0_1)
  refine Rch.go st1 ?_
  show Rch p e below _ (T1.setTop (mkF m 4 #[.val (.ref ro6)] [(.ref ro3), (.ref ro6)]))
  refine Rch.go (fun t k => acmp X1 hx (g := (mkF m 4 #[.val (.ref ro6)] [(.ref ro3), (.ref ro6)])) rfl (x := (.ref ro6)) (y := (.ref ro3)) rfl rfl (pc0 := 4) (pc' := 7) (same := false) rfl (hb hby d0_4) rfl (decide_eq_false (fun q => absurd (Value.ref.inj q) (Fld.ne G.2.2.2.2.2.2.2.2.2.2.2.2.2.2.2.2.2.2.2.2.2.2.2.2.2.2.2.2.2.2.2.2.2.2.2.2.2.2.2.2.2.2.2.2.2.2.2.2.2.2.2.2.1 G.2.2.2.2.2.2.2.2.2.2.2.2.2.2.2.2.2.2.2.2.2.2.2.2.2.2.2.2.2.2.2.2.2.2.2.2.2.2.2.2.2.1 (by simp)))) (by decide) (by decide) k) ?_
  show Rch p e below _ (T1.setTop (mkF m 7 #[.val (.ref ro6)] []))
  refine Rch.go (fun t k => XS.aloadN X1.here hx rfl (hb hby d0_7) rfl rfl k) ?_
  show Rch p e below _ (T1.setTop (mkF m 8 #[.val (.ref ro6)] [(.ref ro6)]))
  obtain ⟨T2, X2, e2, st2⟩ := getS2 X1 hx hZ hown (host := "") (Or.inl (wd_52 hw)) Via.refl e1 (G.2.2.2.2.2.2.2.2.1.ext O0.2) (g := (mkF m 8 #[.val (.ref ro6)] [(.ref ro6)])) rfl (hb hby d0_8)
  refine Rch.go st2 ?_
  show Rch p e below _ (T2.setTop (mkF m 11 #[.val (.ref ro6)] [(.ref ro4), (.ref ro6)]))
  refine Rch.go (fun t k => acmp X2 hx (g := (mkF m 11 #[.val (.ref ro6)] [(.ref ro4), (.ref ro6)])) rfl (x := (.ref ro6)) (y := (.ref ro4)) rfl rfl (pc0 := 11) (pc' := 18) (same := false) rfl (hb hby d0_11) rfl (decide_eq_false (fun q => absurd (Value.ref.inj q) (Fld.ne G.2.2.2.2.2.2.2.2.2.2.2.2.2.2.2.2.2.2.2.2.2.2.2.2.2.2.2.2.2.2.2.2.2.2.2.2.2.2.2.2.2.2.2.2.2.2.2.2.2.2.2.2.1 G.2.2.2.2.2.2.2.2.2.2.2.2.2.2.2.2.2.2.2.2.2.2.2.2.2.2.2.2.2.2.2.2.2.2.2.2.2.2.2.2.2.2.1 (by simp)))) (by decide) (by decide) k) ?_
  show Rch p e below _ (T2.setTop (mkF m 18 #[.val (.ref ro6)] []))
  refine Rch.go (fun t k => XS.iconst X2.here hx rfl (hb hby d0_18) k) ?_
  show Rch p e below _ (T2.setTop (mkF m 19 #[.val (.ref ro6)] [(.int (0 : Int32))]))
  refine Rch.val X2 hx (t := .boolean) hret hlk rfl (mayI (by simp)) (hb hby d0_19) (by decide) (by decide) ?_
  try rw [e2]
  exact ⟨rfl, N0, rfl⟩
theorem ef_mn_7 (m : MethodId) (ro0 : Addr) (ro1 : Addr) (ro2 : Addr) (ro3 : Addr) (ro4 : Addr) (ro5 : Addr) (ro6 : Addr) (ro7 : Addr) (ro8 : Addr) (ro9 : Addr) (ro10 : Addr) (ro11 : Addr) (ro12 : Addr) (ro13 : Addr) (ro14 : Addr) (ro15 : Addr) (ro16 : Addr) (ro17 : Addr) (ro18 : Addr) (ro19 : Addr) : entryFrame m #[(.ref ro7)] 1 = mkF m 0 #[.val (.ref ro7)] [] := by first | rfl | (simp [entryFrame, mkF, argsToLocals, Value.category]; done)
set_option maxRecDepth 65536 in
set_option maxHeartbeats 40000000 in
theorem mn_7 (l : Launch) (Z : State) (a0 : Array Value) (hw : ∀ d ∈ tables_1, d.before a0 Z = true) (ro0 : Addr) (ro1 : Addr) (ro2 : Addr) (ro3 : Addr) (ro4 : Addr) (ro5 : Addr) (ro6 : Addr) (ro7 : Addr) (ro8 : Addr) (ro9 : Addr) (ro10 : Addr) (ro11 : Addr) (ro12 : Addr) (ro13 : Addr) (ro14 : Addr) (ro15 : Addr) (ro16 : Addr) (ro17 : Addr) (ro18 : Addr) (ro19 : Addr) (h0 : Heap) (n0 : Nat) (Z0 : n0 ≤ h0.size) (O0 : Old Z n0 h0) (G : Olds Z ro0 ro1 ro2 ro3 ro4 ro5 ro6 ro7 ro8 ro9 ro10 ro11 ro12 ro13 ro14 ro15 ro16 ro17 ro18 ro19) :
    Ctr l Z [] (⟨"com/example/knit_theories/knittheories/model/Builtin", "makesNumerals", "()Z"⟩ : MethodName) prog_57_method_4_code 1 (some .boolean) #[(.ref ro7)] h0 ({ frames := 0, cells := 0, slots := 0, locals := 0 } : Room) (fun v h L => v = some (.int (0 : Int32)) ∧ Fr n0 L ∧ h = h0) := by
  refine Ctr.of (plainFor_of_name pn_com_example_knit_theories_knittheories_model_Builtin) (fun m => ef_mn_7 m ro0 ro1 ro2 ro3 ro4 ro5 ro6 ro7 ro8 ro9 ro10 ro11 ro12 ro13 ro14 ro15 ro16 ro17 ro18 ro19) ?_
  intro p e s m below meth c T0 hx hZ hby hml hown hnm hret hlk X0 e0
  have N0 := Fr.nil n0
  show Rch p e below _ (T0.setTop (mkF m 0 #[.val (.ref ro7)] []))
  refine Rch.go (fun t k => XS.aloadN X0.here hx rfl (hb hby d0_0) rfl rfl k) ?_
  show Rch p e below _ (T0.setTop (mkF m 1 #[.val (.ref ro7)] [(.ref ro7)]))
  obtain ⟨T1, X1, e1, st1⟩ := getS2 X0 hx hZ hown (host := "") (Or.inl (wd_51 hw)) Via.refl e0 (G.2.2.2.2.2.2.1.ext O0.2) (g := (mkF m 1 #[.val (.ref ro7)] [(.ref ro7)])) rfl (hb hby d0_1)
  refine Rch.go st1 ?_
  show Rch p e below _ (T1.setTop (mkF m 4 #[.val (.ref ro7)] [(.ref ro3), (.ref ro7)]))
  refine Rch.go (fun t k => acmp X1 hx (g := (mkF m 4 #[.val (.ref ro7)] [(.ref ro3), (.ref ro7)])) rfl (x := (.ref ro7)) (y := (.ref ro3)) rfl rfl (pc0 := 4) (pc' := 7) (same := false) rfl (hb hby d0_4) rfl (decide_eq_false (fun q => absurd (Value.ref.inj q) (Fld.ne G.2.2.2.2.2.2.2.2.2.2.2.2.2.2.2.2.2.2.2.2.2.2.2.2.2.2.2.2.2.2.2.2.2.2.2.2.2.2.2.2.2.2.2.2.2.2.1 G.2.2.2.2.2.2.2.2.2.2.2.2.2.2.2.2.2.2.2.2.2.2.2.2.2.2.2.2.2.2.2.2.2.2.2.2.2.2.2.2.2.1 (by simp)))) (by decide) (by decide) k) ?_
  show Rch p e below _ (T1.setTop (mkF m 7 #[.val (.ref ro7)] []))
  refine Rch.go (fun t k => XS.aloadN X1.here hx rfl (hb hby d0_7) rfl rfl k) ?_
  show Rch p e below _ (T1.setTop (mkF m 8 #[.val (.ref ro7)] [(.ref ro7)]))
  obtain ⟨T2, X2, e2, st2⟩ := getS2 X1 hx hZ hown (host := "") (Or.inl (wd_52 hw)) Via.refl e1 (G.2.2.2.2.2.2.2.2.1.ext O0.2) (g := (mkF m 8 #[.val (.ref ro7)] [(.ref ro7)])) rfl (hb hby d0_8)
  refine Rch.go st2 ?_
  show Rch p e below _ (T2.setTop (mkF m 11 #[.val (.ref ro7)] [(.ref ro4), (.ref ro7)]))
  refine Rch.go (fun t k => acmp X2 hx (g := (mkF m 11 #[.val (.ref ro7)] [(.ref ro4), (.ref ro7)])) rfl (x := (.ref ro7)) (y := (.ref ro4)) rfl rfl (pc0 := 11) (pc' := 18) (same := false) rfl (hb hby d0_11) rfl (decide_eq_false (fun q => absurd (Value.ref.inj q) (Fld.ne G.2.2.2.2.2.2.2.2.2.2.2.2.2.2.2.2.2.2.2.2.2.2.2.2.2.2.2.2.2.2.2.2.2.2.2.2.2.2.2.2.2.2.2.2.2.2.1 G.2.2.2.2.2.2.2.2.2.2.2.2.2.2.2.2.2.2.2.2.2.2.2.2.2.2.2.2.2.2.2.2.2.2.2.2.2.2.2.2.2.2.1 (by simp)))) (by decide) (by decide) k) ?_
  show Rch p e below _ (T2.setTop (mkF m 18 #[.val (.ref ro7)] []))
  refine Rch.go (fun t k => XS.iconst X2.here hx rfl (hb hby d0_18) k) ?_
  show Rch p e below _ (T2.setTop (mkF m 19 #[.val (.ref ro7)] [(.int (0 : Int32))]))
  refine Rch.val X2 hx (t := .boolean) hret hlk rfl (mayI (by simp)) (hb hby d0_19) (by decide) (by decide) ?_
  try rw [e2]
  exact ⟨rfl, N0, rfl⟩
theorem ef_mn_8 (m : MethodId) (ro0 : Addr) (ro1 : Addr) (ro2 : Addr) (ro3 : Addr) (ro4 : Addr) (ro5 : Addr) (ro6 : Addr) (ro7 : Addr) (ro8 : Addr) (ro9 : Addr) (ro10 : Addr) (ro11 : Addr) (ro12 : Addr) (ro13 : Addr) (ro14 : Addr) (ro15 : Addr) (ro16 : Addr) (ro17 : Addr) (ro18 : Addr) (ro19 : Addr) : entryFrame m #[(.ref ro8)] 1 = mkF m 0 #[.val (.ref ro8)] [] := by first | rfl | (simp [entryFrame, mkF, argsToLocals, Value.category]; done)
set_option maxRecDepth 65536 in
set_option maxHeartbeats 40000000 in
theorem mn_8 (l : Launch) (Z : State) (a0 : Array Value) (hw : ∀ d ∈ tables_1, d.before a0 Z = true) (ro0 : Addr) (ro1 : Addr) (ro2 : Addr) (ro3 : Addr) (ro4 : Addr) (ro5 : Addr) (ro6 : Addr) (ro7 : Addr) (ro8 : Addr) (ro9 : Addr) (ro10 : Addr) (ro11 : Addr) (ro12 : Addr) (ro13 : Addr) (ro14 : Addr) (ro15 : Addr) (ro16 : Addr) (ro17 : Addr) (ro18 : Addr) (ro19 : Addr) (h0 : Heap) (n0 : Nat) (Z0 : n0 ≤ h0.size) (O0 : Old Z n0 h0) (G : Olds Z ro0 ro1 ro2 ro3 ro4 ro5 ro6 ro7 ro8 ro9 ro10 ro11 ro12 ro13 ro14 ro15 ro16 ro17 ro18 ro19) :
    Ctr l Z [] (⟨"com/example/knit_theories/knittheories/model/Builtin", "makesNumerals", "()Z"⟩ : MethodName) prog_57_method_4_code 1 (some .boolean) #[(.ref ro8)] h0 ({ frames := 0, cells := 0, slots := 0, locals := 0 } : Room) (fun v h L => v = some (.int (0 : Int32)) ∧ Fr n0 L ∧ h = h0) := by
  refine Ctr.of (plainFor_of_name pn_com_example_knit_theories_knittheories_model_Builtin) (fun m => ef_mn_8 m ro0 ro1 ro2 ro3 ro4 ro5 ro6 ro7 ro8 ro9 ro10 ro11 ro12 ro13 ro14 ro15 ro16 ro17 ro18 ro19) ?_
  intro p e s m below meth c T0 hx hZ hby hml hown hnm hret hlk X0 e0
  have N0 := Fr.nil n0
  show Rch p e below _ (T0.setTop (mkF m 0 #[.val (.ref ro8)] []))
  refine Rch.go (fun t k => XS.aloadN X0.here hx rfl (hb hby d0_0) rfl rfl k) ?_
  show Rch p e below _ (T0.setTop (mkF m 1 #[.val (.ref ro8)] [(.ref ro8)]))
  obtain ⟨T1, X1, e1, st1⟩ := getS2 X0 hx hZ hown (host := "") (Or.inl (wd_51 hw)) Via.refl e0 (G.2.2.2.2.2.2.1.ext O0.2) (g := (mkF m 1 #[.val (.ref ro8)] [(.ref ro8)])) rfl (hb hby d0_1)
  refine Rch.go st1 ?_
  show Rch p e below _ (T1.setTop (mkF m 4 #[.val (.ref ro8)] [(.ref ro3), (.ref ro8)]))
  refine Rch.go (fun t k => acmp X1 hx (g := (mkF m 4 #[.val (.ref ro8)] [(.ref ro3), (.ref ro8)])) rfl (x := (.ref ro8)) (y := (.ref ro3)) rfl rfl (pc0 := 4) (pc' := 7) (same := false) rfl (hb hby d0_4) rfl (decide_eq_false (fun q => absurd (Value.ref.inj q) (Fld.ne G.2.2.2.2.2.2.2.2.2.2.2.2.2.2.2.2.2.2.2.2.2.2.2.2.2.2.2.2.2.2.2.2.2.2.2.2.2.2.2.2.2.2.2.2.2.2.2.2.1 G.2.2.2.2.2.2.2.2.2.2.2.2.2.2.2.2.2.2.2.2.2.2.2.2.2.2.2.2.2.2.2.2.2.2.2.2.2.2.2.2.2.1 (by simp)))) (by decide) (by decide) k) ?_
  show Rch p e below _ (T1.setTop (mkF m 7 #[.val (.ref ro8)] []))
  refine Rch.go (fun t k => XS.aloadN X1.here hx rfl (hb hby d0_7) rfl rfl k) ?_
  show Rch p e below _ (T1.setTop (mkF m 8 #[.val (.ref ro8)] [(.ref ro8)]))
  obtain ⟨T2, X2, e2, st2⟩ := getS2 X1 hx hZ hown (host := "") (Or.inl (wd_52 hw)) Via.refl e1 (G.2.2.2.2.2.2.2.2.1.ext O0.2) (g := (mkF m 8 #[.val (.ref ro8)] [(.ref ro8)])) rfl (hb hby d0_8)
  refine Rch.go st2 ?_
  show Rch p e below _ (T2.setTop (mkF m 11 #[.val (.ref ro8)] [(.ref ro4), (.ref ro8)]))
  refine Rch.go (fun t k => acmp X2 hx (g := (mkF m 11 #[.val (.ref ro8)] [(.ref ro4), (.ref ro8)])) rfl (x := (.ref ro8)) (y := (.ref ro4)) rfl rfl (pc0 := 11) (pc' := 18) (same := false) rfl (hb hby d0_11) rfl (decide_eq_false (fun q => absurd (Value.ref.inj q) (Fld.ne G.2.2.2.2.2.2.2.2.2.2.2.2.2.2.2.2.2.2.2.2.2.2.2.2.2.2.2.2.2.2.2.2.2.2.2.2.2.2.2.2.2.2.2.2.2.2.2.2.1 G.2.2.2.2.2.2.2.2.2.2.2.2.2.2.2.2.2.2.2.2.2.2.2.2.2.2.2.2.2.2.2.2.2.2.2.2.2.2.2.2.2.2.1 (by simp)))) (by decide) (by decide) k) ?_
  show Rch p e below _ (T2.setTop (mkF m 18 #[.val (.ref ro8)] []))
  refine Rch.go (fun t k => XS.iconst X2.here hx rfl (hb hby d0_18) k) ?_
  show Rch p e below _ (T2.setTop (mkF m 19 #[.val (.ref ro8)] [(.int (0 : Int32))]))
  refine Rch.val X2 hx (t := .boolean) hret hlk rfl (mayI (by simp)) (hb hby d0_19) (by decide) (by decide) ?_
  try rw [e2]
  exact ⟨rfl, N0, rfl⟩
theorem ef_mn_9 (m : MethodId) (ro0 : Addr) (ro1 : Addr) (ro2 : Addr) (ro3 : Addr) (ro4 : Addr) (ro5 : Addr) (ro6 : Addr) (ro7 : Addr) (ro8 : Addr) (ro9 : Addr) (ro10 : Addr) (ro11 : Addr) (ro12 : Addr) (ro13 : Addr) (ro14 : Addr) (ro15 : Addr) (ro16 : Addr) (ro17 : Addr) (ro18 : Addr) (ro19 : Addr) : entryFrame m #[(.ref ro9)] 1 = mkF m 0 #[.val (.ref ro9)] [] := by first | rfl | (simp [entryFrame, mkF, argsToLocals, Value.category]; done)
set_option maxRecDepth 65536 in
set_option maxHeartbeats 40000000 in
theorem mn_9 (l : Launch) (Z : State) (a0 : Array Value) (hw : ∀ d ∈ tables_1, d.before a0 Z = true) (ro0 : Addr) (ro1 : Addr) (ro2 : Addr) (ro3 : Addr) (ro4 : Addr) (ro5 : Addr) (ro6 : Addr) (ro7 : Addr) (ro8 : Addr) (ro9 : Addr) (ro10 : Addr) (ro11 : Addr) (ro12 : Addr) (ro13 : Addr) (ro14 : Addr) (ro15 : Addr) (ro16 : Addr) (ro17 : Addr) (ro18 : Addr) (ro19 : Addr) (h0 : Heap) (n0 : Nat) (Z0 : n0 ≤ h0.size) (O0 : Old Z n0 h0) (G : Olds Z ro0 ro1 ro2 ro3 ro4 ro5 ro6 ro7 ro8 ro9 ro10 ro11 ro12 ro13 ro14 ro15 ro16 ro17 ro18 ro19) :
    Ctr l Z [] (⟨"com/example/knit_theories/knittheories/model/Builtin", "makesNumerals", "()Z"⟩ : MethodName) prog_57_method_4_code 1 (some .boolean) #[(.ref ro9)] h0 ({ frames := 0, cells := 0, slots := 0, locals := 0 } : Room) (fun v h L => v = some (.int (0 : Int32)) ∧ Fr n0 L ∧ h = h0) := by
  refine Ctr.of (plainFor_of_name pn_com_example_knit_theories_knittheories_model_Builtin) (fun m => ef_mn_9 m ro0 ro1 ro2 ro3 ro4 ro5 ro6 ro7 ro8 ro9 ro10 ro11 ro12 ro13 ro14 ro15 ro16 ro17 ro18 ro19) ?_
  intro p e s m below meth c T0 hx hZ hby hml hown hnm hret hlk X0 e0
  have N0 := Fr.nil n0
  show Rch p e below _ (T0.setTop (mkF m 0 #[.val (.ref ro9)] []))
  refine Rch.go (fun t k => XS.aloadN X0.here hx rfl (hb hby d0_0) rfl rfl k) ?_
  show Rch p e below _ (T0.setTop (mkF m 1 #[.val (.ref ro9)] [(.ref ro9)]))
  obtain ⟨T1, X1, e1, st1⟩ := getS2 X0 hx hZ hown (host := "") (Or.inl (wd_51 hw)) Via.refl e0 (G.2.2.2.2.2.2.1.ext O0.2) (g := (mkF m 1 #[.val (.ref ro9)] [(.ref ro9)])) rfl (hb hby d0_1)
  refine Rch.go st1 ?_
  show Rch p e below _ (T1.setTop (mkF m 4 #[.val (.ref ro9)] [(.ref ro3), (.ref ro9)]))
  refine Rch.go (fun t k => acmp X1 hx (g := (mkF m 4 #[.val (.ref ro9)] [(.ref ro3), (.ref ro9)])) rfl (x := (.ref ro9)) (y := (.ref ro3)) rfl rfl (pc0 := 4) (pc' := 7) (same := false) rfl (hb hby d0_4) rfl (decide_eq_false (fun q => absurd (Value.ref.inj q) (Fld.ne G.2.2.2.2.2.2.2.2.2.2.2.2.2.2.2.2.2.2.2.2.2.2.2.2.2.2.2.2.2.2.2.2.2.2.2.2.2.2.2.2.2.2.2.2.2.2.2.2.2.2.2.2.2.2.2.2.2.1 G.2.2.2.2.2.2.2.2.2.2.2.2.2.2.2.2.2.2.2.2.2.2.2.2.2.2.2.2.2.2.2.2.2.2.2.2.2.2.2.2.2.1 (by simp)))) (by decide) (by decide) k) ?_
  show Rch p e below _ (T1.setTop (mkF m 7 #[.val (.ref ro9)] []))
  refine Rch.go (fun t k => XS.aloadN X1.here hx rfl (hb hby d0_7) rfl rfl k) ?_
  show Rch p e below _ (T1.setTop (mkF m 8 #[.val (.ref ro9)] [(.ref ro9)]))
  obtain ⟨T2, X2, e2, st2⟩ := getS2 X1 hx hZ hown (host := "") (Or.inl (wd_52 hw)) Via.refl e1 (G.2.2.2.2.2.2.2.2.1.ext O0.2) (g := (mkF m 8 #[.val (.ref ro9)] [(.ref ro9)])) rfl (hb hby d0_8)
  refine Rch.go st2 ?_
  show Rch p e below _ (T2.setTop (mkF m 11 #[.val (.ref ro9)] [(.ref ro4), (.ref ro9)]))
  refine Rch.go (fun t k => acmp X2 hx (g := (mkF m 11 #[.val (.ref ro9)] [(.ref ro4), (.ref ro9)])) rfl (x := (.ref ro9)) (y := (.ref ro4)) rfl rfl (pc0 := 11) (pc' := 18) (same := false) rfl (hb hby d0_11) rfl (decide_eq_false (fun q => absurd (Value.ref.inj q) (Fld.ne G.2.2.2.2.2.2.2.2.2.2.2.2.2.2.2.2.2.2.2.2.2.2.2.2.2.2.2.2.2.2.2.2.2.2.2.2.2.2.2.2.2.2.2.2.2.2.2.2.2.2.2.2.2.2.2.2.2.1 G.2.2.2.2.2.2.2.2.2.2.2.2.2.2.2.2.2.2.2.2.2.2.2.2.2.2.2.2.2.2.2.2.2.2.2.2.2.2.2.2.2.2.1 (by simp)))) (by decide) (by decide) k) ?_
  show Rch p e below _ (T2.setTop (mkF m 18 #[.val (.ref ro9)] []))
  refine Rch.go (fun t k => XS.iconst X2.here hx rfl (hb hby d0_18) k) ?_
  show Rch p e below _ (T2.setTop (mkF m 19 #[.val (.ref ro9)] [(.int (0 : Int32))]))
  refine Rch.val X2 hx (t := .boolean) hret hlk rfl (mayI (by simp)) (hb hby d0_19) (by decide) (by decide) ?_
  try rw [e2]
  exact ⟨rfl, N0, rfl⟩
theorem ef_mn_10 (m : MethodId) (ro0 : Addr) (ro1 : Addr) (ro2 : Addr) (ro3 : Addr) (ro4 : Addr) (ro5 : Addr) (ro6 : Addr) (ro7 : Addr) (ro8 : Addr) (ro9 : Addr) (ro10 : Addr) (ro11 : Addr) (ro12 : Addr) (ro13 : Addr) (ro14 : Addr) (ro15 : Addr) (ro16 : Addr) (ro17 : Addr) (ro18 : Addr) (ro19 : Addr) : entryFrame m #[(.ref ro10)] 1 = mkF m 0 #[.val (.ref ro10)] [] := by first | rfl | (simp [entryFrame, mkF, argsToLocals, Value.category]; done)
set_option maxRecDepth 65536 in
set_option maxHeartbeats 40000000 in
theorem mn_10 (l : Launch) (Z : State) (a0 : Array Value) (hw : ∀ d ∈ tables_1, d.before a0 Z = true) (ro0 : Addr) (ro1 : Addr) (ro2 : Addr) (ro3 : Addr) (ro4 : Addr) (ro5 : Addr) (ro6 : Addr) (ro7 : Addr) (ro8 : Addr) (ro9 : Addr) (ro10 : Addr) (ro11 : Addr) (ro12 : Addr) (ro13 : Addr) (ro14 : Addr) (ro15 : Addr) (ro16 : Addr) (ro17 : Addr) (ro18 : Addr) (ro19 : Addr) (h0 : Heap) (n0 : Nat) (Z0 : n0 ≤ h0.size) (O0 : Old Z n0 h0) (G : Olds Z ro0 ro1 ro2 ro3 ro4 ro5 ro6 ro7 ro8 ro9 ro10 ro11 ro12 ro13 ro14 ro15 ro16 ro17 ro18 ro19) :
    Ctr l Z [] (⟨"com/example/knit_theories/knittheories/model/Builtin", "makesNumerals", "()Z"⟩ : MethodName) prog_57_method_4_code 1 (some .boolean) #[(.ref ro10)] h0 ({ frames := 0, cells := 0, slots := 0, locals := 0 } : Room) (fun v h L => v = some (.int (0 : Int32)) ∧ Fr n0 L ∧ h = h0) := by
  refine Ctr.of (plainFor_of_name pn_com_example_knit_theories_knittheories_model_Builtin) (fun m => ef_mn_10 m ro0 ro1 ro2 ro3 ro4 ro5 ro6 ro7 ro8 ro9 ro10 ro11 ro12 ro13 ro14 ro15 ro16 ro17 ro18 ro19) ?_
  intro p e s m below meth c T0 hx hZ hby hml hown hnm hret hlk X0 e0
  have N0 := Fr.nil n0
  show Rch p e below _ (T0.setTop (mkF m 0 #[.val (.ref ro10)] []))
  refine Rch.go (fun t k => XS.aloadN X0.here hx rfl (hb hby d0_0) rfl rfl k) ?_
  show Rch p e below _ (T0.setTop (mkF m 1 #[.val (.ref ro10)] [(.ref ro10)]))
  obtain ⟨T1, X1, e1, st1⟩ := getS2 X0 hx hZ hown (host := "") (Or.inl (wd_51 hw)) Via.refl e0 (G.2.2.2.2.2.2.1.ext O0.2) (g := (mkF m 1 #[.val (.ref ro10)] [(.ref ro10)])) rfl (hb hby d0_1)
  refine Rch.go st1 ?_
  show Rch p e below _ (T1.setTop (mkF m 4 #[.val (.ref ro10)] [(.ref ro3), (.ref ro10)]))
  refine Rch.go (fun t k => acmp X1 hx (g := (mkF m 4 #[.val (.ref ro10)] [(.ref ro3), (.ref ro10)])) rfl (x := (.ref ro10)) (y := (.ref ro3)) rfl rfl (pc0 := 4) (pc' := 7) (same := false) rfl (hb hby d0_4) rfl (decide_eq_false (fun q => absurd (Value.ref.inj q) (Fld.ne G.2.2.2.2.2.2.2.2.2.2.2.2.2.2.2.2.2.2.2.2.2.2.2.2.2.2.2.2.2.2.2.2.2.2.2.2.2.2.2.2.2.2.2.1 G.2.2.2.2.2.2.2.2.2.2.2.2.2.2.2.2.2.2.2.2.2.2.2.2.2.2.2.2.2.2.2.2.2.2.2.2.2.2.2.2.2.1 (by simp)))) (by decide) (by decide) k) ?_
  show Rch p e below _ (T1.setTop (mkF m 7 #[.val (.ref ro10)] []))
  refine Rch.go (fun t k => XS.aloadN X1.here hx rfl (hb hby d0_7) rfl rfl k) ?_
  show Rch p e below _ (T1.setTop (mkF m 8 #[.val (.ref ro10)] [(.ref ro10)]))
  obtain ⟨T2, X2, e2, st2⟩ := getS2 X1 hx hZ hown (host := "") (Or.inl (wd_52 hw)) Via.refl e1 (G.2.2.2.2.2.2.2.2.1.ext O0.2) (g := (mkF m 8 #[.val (.ref ro10)] [(.ref ro10)])) rfl (hb hby d0_8)
  refine Rch.go st2 ?_
  show Rch p e below _ (T2.setTop (mkF m 11 #[.val (.ref ro10)] [(.ref ro4), (.ref ro10)]))
  refine Rch.go (fun t k => acmp X2 hx (g := (mkF m 11 #[.val (.ref ro10)] [(.ref ro4), (.ref ro10)])) rfl (x := (.ref ro10)) (y := (.ref ro4)) rfl rfl (pc0 := 11) (pc' := 18) (same := false) rfl (hb hby d0_11) rfl (decide_eq_false (fun q => absurd (Value.ref.inj q) (Fld.ne G.2.2.2.2.2.2.2.2.2.2.2.2.2.2.2.2.2.2.2.2.2.2.2.2.2.2.2.2.2.2.2.2.2.2.2.2.2.2.2.2.2.2.2.1 G.2.2.2.2.2.2.2.2.2.2.2.2.2.2.2.2.2.2.2.2.2.2.2.2.2.2.2.2.2.2.2.2.2.2.2.2.2.2.2.2.2.2.1 (by simp)))) (by decide) (by decide) k) ?_
  show Rch p e below _ (T2.setTop (mkF m 18 #[.val (.ref ro10)] []))
  refine Rch.go (fun t k => XS.iconst X2.here hx rfl (hb hby d0_18) k) ?_
  show Rch p e below _ (T2.setTop (mkF m 19 #[.val (.ref ro10)] [(.int (0 : Int32))]))
  refine Rch.val X2 hx (t := .boolean) hret hlk rfl (mayI (by simp)) (hb hby d0_19) (by decide) (by decide) ?_
  try rw [e2]
  exact ⟨rfl, N0, rfl⟩
theorem ef_mn_11 (m : MethodId) (ro0 : Addr) (ro1 : Addr) (ro2 : Addr) (ro3 : Addr) (ro4 : Addr) (ro5 : Addr) (ro6 : Addr) (ro7 : Addr) (ro8 : Addr) (ro9 : Addr) (ro10 : Addr) (ro11 : Addr) (ro12 : Addr) (ro13 : Addr) (ro14 : Addr) (ro15 : Addr) (ro16 : Addr) (ro17 : Addr) (ro18 : Addr) (ro19 : Addr) : entryFrame m #[(.ref ro11)] 1 = mkF m 0 #[.val (.ref ro11)] [] := by first | rfl | (simp [entryFrame, mkF, argsToLocals, Value.category]; done)
set_option maxRecDepth 65536 in
set_option maxHeartbeats 40000000 in
theorem mn_11 (l : Launch) (Z : State) (a0 : Array Value) (hw : ∀ d ∈ tables_1, d.before a0 Z = true) (ro0 : Addr) (ro1 : Addr) (ro2 : Addr) (ro3 : Addr) (ro4 : Addr) (ro5 : Addr) (ro6 : Addr) (ro7 : Addr) (ro8 : Addr) (ro9 : Addr) (ro10 : Addr) (ro11 : Addr) (ro12 : Addr) (ro13 : Addr) (ro14 : Addr) (ro15 : Addr) (ro16 : Addr) (ro17 : Addr) (ro18 : Addr) (ro19 : Addr) (h0 : Heap) (n0 : Nat) (Z0 : n0 ≤ h0.size) (O0 : Old Z n0 h0) (G : Olds Z ro0 ro1 ro2 ro3 ro4 ro5 ro6 ro7 ro8 ro9 ro10 ro11 ro12 ro13 ro14 ro15 ro16 ro17 ro18 ro19) :
    Ctr l Z [] (⟨"com/example/knit_theories/knittheories/model/Builtin", "makesNumerals", "()Z"⟩ : MethodName) prog_57_method_4_code 1 (some .boolean) #[(.ref ro11)] h0 ({ frames := 0, cells := 0, slots := 0, locals := 0 } : Room) (fun v h L => v = some (.int (0 : Int32)) ∧ Fr n0 L ∧ h = h0) := by
  refine Ctr.of (plainFor_of_name pn_com_example_knit_theories_knittheories_model_Builtin) (fun m => ef_mn_11 m ro0 ro1 ro2 ro3 ro4 ro5 ro6 ro7 ro8 ro9 ro10 ro11 ro12 ro13 ro14 ro15 ro16 ro17 ro18 ro19) ?_
  intro p e s m below meth c T0 hx hZ hby hml hown hnm hret hlk X0 e0
  have N0 := Fr.nil n0
  show Rch p e below _ (T0.setTop (mkF m 0 #[.val (.ref ro11)] []))
  refine Rch.go (fun t k => XS.aloadN X0.here hx rfl (hb hby d0_0) rfl rfl k) ?_
  show Rch p e below _ (T0.setTop (mkF m 1 #[.val (.ref ro11)] [(.ref ro11)]))
  obtain ⟨T1, X1, e1, st1⟩ := getS2 X0 hx hZ hown (host := "") (Or.inl (wd_51 hw)) Via.refl e0 (G.2.2.2.2.2.2.1.ext O0.2) (g := (mkF m 1 #[.val (.ref ro11)] [(.ref ro11)])) rfl (hb hby d0_1)
  refine Rch.go st1 ?_
  show Rch p e below _ (T1.setTop (mkF m 4 #[.val (.ref ro11)] [(.ref ro3), (.ref ro11)]))
  refine Rch.go (fun t k => acmp X1 hx (g := (mkF m 4 #[.val (.ref ro11)] [(.ref ro3), (.ref ro11)])) rfl (x := (.ref ro11)) (y := (.ref ro3)) rfl rfl (pc0 := 4) (pc' := 7) (same := false) rfl (hb hby d0_4) rfl (decide_eq_false (fun q => absurd (Value.ref.inj q) (Fld.ne G.2.2.2.2.2.2.2.2.2.2.2.2.2.2.2.2.2.2.2.2.2.2.2.2.2.2.2.2.2.2.2.2.2.2.2.2.2.2.2.2.2.2.2.2.1 G.2.2.2.2.2.2.2.2.2.2.2.2.2.2.2.2.2.2.2.2.2.2.2.2.2.2.2.2.2.2.2.2.2.2.2.2.2.2.2.2.2.1 (by simp)))) (by decide) (by decide) k) ?_
  show Rch p e below _ (T1.setTop (mkF m 7 #[.val (.ref ro11)] []))
  refine Rch.go (fun t k => XS.aloadN X1.here hx rfl (hb hby d0_7) rfl rfl k) ?_
  show Rch p e below _ (T1.setTop (mkF m 8 #[.val (.ref ro11)] [(.ref ro11)]))
  obtain ⟨T2, X2, e2, st2⟩ := getS2 X1 hx hZ hown (host := "") (Or.inl (wd_52 hw)) Via.refl e1 (G.2.2.2.2.2.2.2.2.1.ext O0.2) (g := (mkF m 8 #[.val (.ref ro11)] [(.ref ro11)])) rfl (hb hby d0_8)
  refine Rch.go st2 ?_
  show Rch p e below _ (T2.setTop (mkF m 11 #[.val (.ref ro11)] [(.ref ro4), (.ref ro11)]))
  refine Rch.go (fun t k => acmp X2 hx (g := (mkF m 11 #[.val (.ref ro11)] [(.ref ro4), (.ref ro11)])) rfl (x := (.ref ro11)) (y := (.ref ro4)) rfl rfl (pc0 := 11) (pc' := 18) (same := false) rfl (hb hby d0_11) rfl (decide_eq_false (fun q => absurd (Value.ref.inj q) (Fld.ne G.2.2.2.2.2.2.2.2.2.2.2.2.2.2.2.2.2.2.2.2.2.2.2.2.2.2.2.2.2.2.2.2.2.2.2.2.2.2.2.2.2.2.2.2.1 G.2.2.2.2.2.2.2.2.2.2.2.2.2.2.2.2.2.2.2.2.2.2.2.2.2.2.2.2.2.2.2.2.2.2.2.2.2.2.2.2.2.2.1 (by simp)))) (by decide) (by decide) k) ?_
  show Rch p e below _ (T2.setTop (mkF m 18 #[.val (.ref ro11)] []))
  refine Rch.go (fun t k => XS.iconst X2.here hx rfl (hb hby d0_18) k) ?_
  show Rch p e below _ (T2.setTop (mkF m 19 #[.val (.ref ro11)] [(.int (0 : Int32))]))
  refine Rch.val X2 hx (t := .boolean) hret hlk rfl (mayI (by simp)) (hb hby d0_19) (by decide) (by decide) ?_
  try rw [e2]
  exact ⟨rfl, N0, rfl⟩
theorem ef_mn_12 (m : MethodId) (ro0 : Addr) (ro1 : Addr) (ro2 : Addr) (ro3 : Addr) (ro4 : Addr) (ro5 : Addr) (ro6 : Addr) (ro7 : Addr) (ro8 : Addr) (ro9 : Addr) (ro10 : Addr) (ro11 : Addr) (ro12 : Addr) (ro13 : Addr) (ro14 : Addr) (ro15 : Addr) (ro16 : Addr) (ro17 : Addr) (ro18 : Addr) (ro19 : Addr) : entryFrame m #[(.ref ro12)] 1 = mkF m 0 #[.val (.ref ro12)] [] := by first | rfl | (simp [entryFrame, mkF, argsToLocals, Value.category]; done)
set_option maxRecDepth 65536 in
set_option maxHeartbeats 40000000 in
theorem mn_12 (l : Launch) (Z : State) (a0 : Array Value) (hw : ∀ d ∈ tables_1, d.before a0 Z = true) (ro0 : Addr) (ro1 : Addr) (ro2 : Addr) (ro3 : Addr) (ro4 : Addr) (ro5 : Addr) (ro6 : Addr) (ro7 : Addr) (ro8 : Addr) (ro9 : Addr) (ro10 : Addr) (ro11 : Addr) (ro12 : Addr) (ro13 : Addr) (ro14 : Addr) (ro15 : Addr) (ro16 : Addr) (ro17 : Addr) (ro18 : Addr) (ro19 : Addr) (h0 : Heap) (n0 : Nat) (Z0 : n0 ≤ h0.size) (O0 : Old Z n0 h0) (G : Olds Z ro0 ro1 ro2 ro3 ro4 ro5 ro6 ro7 ro8 ro9 ro10 ro11 ro12 ro13 ro14 ro15 ro16 ro17 ro18 ro19) :
    Ctr l Z [] (⟨"com/example/knit_theories/knittheories/model/Builtin", "makesNumerals", "()Z"⟩ : MethodName) prog_57_method_4_code 1 (some .boolean) #[(.ref ro12)] h0 ({ frames := 0, cells := 0, slots := 0, locals := 0 } : Room) (fun v h L => v = some (.int (0 : Int32)) ∧ Fr n0 L ∧ h = h0) := by
  refine Ctr.of (plainFor_of_name pn_com_example_knit_theories_knittheories_model_Builtin) (fun m => ef_mn_12 m ro0 ro1 ro2 ro3 ro4 ro5 ro6 ro7 ro8 ro9 ro10 ro11 ro12 ro13 ro14 ro15 ro16 ro17 ro18 ro19) ?_
  intro p e s m below meth c T0 hx hZ hby hml hown hnm hret hlk X0 e0
  have N0 := Fr.nil n0
  show Rch p e below _ (T0.setTop (mkF m 0 #[.val (.ref ro12)] []))
  refine Rch.go (fun t k => XS.aloadN X0.here hx rfl (hb hby d0_0) rfl rfl k) ?_
  show Rch p e below _ (T0.setTop (mkF m 1 #[.val (.ref ro12)] [(.ref ro12)]))
  obtain ⟨T1, X1, e1, st1⟩ := getS2 X0 hx hZ hown (host := "") (Or.inl (wd_51 hw)) Via.refl e0 (G.2.2.2.2.2.2.1.ext O0.2) (g := (mkF m 1 #[.val (.ref ro12)] [(.ref ro12)])) rfl (hb hby d0_1)
  refine Rch.go st1 ?_
  show Rch p e below _ (T1.setTop (mkF m 4 #[.val (.ref ro12)] [(.ref ro3), (.ref ro12)]))
  refine Rch.go (fun t k => acmp X1 hx (g := (mkF m 4 #[.val (.ref ro12)] [(.ref ro3), (.ref ro12)])) rfl (x := (.ref ro12)) (y := (.ref ro3)) rfl rfl (pc0 := 4) (pc' := 7) (same := false) rfl (hb hby d0_4) rfl (decide_eq_false (fun q => absurd (Value.ref.inj q) (Fld.ne G.2.2.2.2.2.2.2.2.2.2.2.2.2.2.2.2.2.2.2.2.2.2.2.2.2.2.2.2.2.2.2.2.2.2.2.2.2.2.2.2.2.2.2.2.2.2.2.2.2.2.2.2.2.2.2.1 G.2.2.2.2.2.2.2.2.2.2.2.2.2.2.2.2.2.2.2.2.2.2.2.2.2.2.2.2.2.2.2.2.2.2.2.2.2.2.2.2.2.1 (by simp)))) (by decide) (by decide) k) ?_
  show Rch p e below _ (T1.setTop (mkF m 7 #[.val (.ref ro12)] []))
  refine Rch.go (fun t k => XS.aloadN X1.here hx rfl (hb hby d0_7) rfl rfl k) ?_
  show Rch p e below _ (T1.setTop (mkF m 8 #[.val (.ref ro12)] [(.ref ro12)]))
  obtain ⟨T2, X2, e2, st2⟩ := getS2 X1 hx hZ hown (host := "") (Or.inl (wd_52 hw)) Via.refl e1 (G.2.2.2.2.2.2.2.2.1.ext O0.2) (g := (mkF m 8 #[.val (.ref ro12)] [(.ref ro12)])) rfl (hb hby d0_8)
  refine Rch.go st2 ?_
  show Rch p e below _ (T2.setTop (mkF m 11 #[.val (.ref ro12)] [(.ref ro4), (.ref ro12)]))
  refine Rch.go (fun t k => acmp X2 hx (g := (mkF m 11 #[.val (.ref ro12)] [(.ref ro4), (.ref ro12)])) rfl (x := (.ref ro12)) (y := (.ref ro4)) rfl rfl (pc0 := 11) (pc' := 18) (same := false) rfl (hb hby d0_11) rfl (decide_eq_false (fun q => absurd (Value.ref.inj q) (Fld.ne G.2.2.2.2.2.2.2.2.2.2.2.2.2.2.2.2.2.2.2.2.2.2.2.2.2.2.2.2.2.2.2.2.2.2.2.2.2.2.2.2.2.2.2.2.2.2.2.2.2.2.2.2.2.2.2.1 G.2.2.2.2.2.2.2.2.2.2.2.2.2.2.2.2.2.2.2.2.2.2.2.2.2.2.2.2.2.2.2.2.2.2.2.2.2.2.2.2.2.2.1 (by simp)))) (by decide) (by decide) k) ?_
  show Rch p e below _ (T2.setTop (mkF m 18 #[.val (.ref ro12)] []))
  refine Rch.go (fun t k => XS.iconst X2.here hx rfl (hb hby d0_18) k) ?_
  show Rch p e below _ (T2.setTop (mkF m 19 #[.val (.ref ro12)] [(.int (0 : Int32))]))
  refine Rch.val X2 hx (t := .boolean) hret hlk rfl (mayI (by simp)) (hb hby d0_19) (by decide) (by decide) ?_
  try rw [e2]
  exact ⟨rfl, N0, rfl⟩
theorem ef_mn_13 (m : MethodId) (ro0 : Addr) (ro1 : Addr) (ro2 : Addr) (ro3 : Addr) (ro4 : Addr) (ro5 : Addr) (ro6 : Addr) (ro7 : Addr) (ro8 : Addr) (ro9 : Addr) (ro10 : Addr) (ro11 : Addr) (ro12 : Addr) (ro13 : Addr) (ro14 : Addr) (ro15 : Addr) (ro16 : Addr) (ro17 : Addr) (ro18 : Addr) (ro19 : Addr) : entryFrame m #[(.ref ro13)] 1 = mkF m 0 #[.val (.ref ro13)] [] := by first | rfl | (simp [entryFrame, mkF, argsToLocals, Value.category]; done)
set_option maxRecDepth 65536 in
set_option maxHeartbeats 40000000 in
theorem mn_13 (l : Launch) (Z : State) (a0 : Array Value) (hw : ∀ d ∈ tables_1, d.before a0 Z = true) (ro0 : Addr) (ro1 : Addr) (ro2 : Addr) (ro3 : Addr) (ro4 : Addr) (ro5 : Addr) (ro6 : Addr) (ro7 : Addr) (ro8 : Addr) (ro9 : Addr) (ro10 : Addr) (ro11 : Addr) (ro12 : Addr) (ro13 : Addr) (ro14 : Addr) (ro15 : Addr) (ro16 : Addr) (ro17 : Addr) (ro18 : Addr) (ro19 : Addr) (h0 : Heap) (n0 : Nat) (Z0 : n0 ≤ h0.size) (O0 : Old Z n0 h0) (G : Olds Z ro0 ro1 ro2 ro3 ro4 ro5 ro6 ro7 ro8 ro9 ro10 ro11 ro12 ro13 ro14 ro15 ro16 ro17 ro18 ro19) :
    Ctr l Z [] (⟨"com/example/knit_theories/knittheories/model/Builtin", "makesNumerals", "()Z"⟩ : MethodName) prog_57_method_4_code 1 (some .boolean) #[(.ref ro13)] h0 ({ frames := 0, cells := 0, slots := 0, locals := 0 } : Room) (fun v h L => v = some (.int (0 : Int32)) ∧ Fr n0 L ∧ h = h0) := by
  refine Ctr.of (plainFor_of_name pn_com_example_knit_theories_knittheories_model_Builtin) (fun m => ef_mn_13 m ro0 ro1 ro2 ro3 ro4 ro5 ro6 ro7 ro8 ro9 ro10 ro11 ro12 ro13 ro14 ro15 ro16 ro17 ro18 ro19) ?_
  intro p e s m below meth c T0 hx hZ hby hml hown hnm hret hlk X0 e0
  have N0 := Fr.nil n0
  show Rch p e below _ (T0.setTop (mkF m 0 #[.val (.ref ro13)] []))
  refine Rch.go (fun t k => XS.aloadN X0.here hx rfl (hb hby d0_0) rfl rfl k) ?_
  show Rch p e below _ (T0.setTop (mkF m 1 #[.val (.ref ro13)] [(.ref ro13)]))
  obtain ⟨T1, X1, e1, st1⟩ := getS2 X0 hx hZ hown (host := "") (Or.inl (wd_51 hw)) Via.refl e0 (G.2.2.2.2.2.2.1.ext O0.2) (g := (mkF m 1 #[.val (.ref ro13)] [(.ref ro13)])) rfl (hb hby d0_1)
  refine Rch.go st1 ?_
  show Rch p e below _ (T1.setTop (mkF m 4 #[.val (.ref ro13)] [(.ref ro3), (.ref ro13)]))
  refine Rch.go (fun t k => acmp X1 hx (g := (mkF m 4 #[.val (.ref ro13)] [(.ref ro3), (.ref ro13)])) rfl (x := (.ref ro13)) (y := (.ref ro3)) rfl rfl (pc0 := 4) (pc' := 7) (same := false) rfl (hb hby d0_4) rfl (decide_eq_false (fun q => absurd (Value.ref.inj q) (Fld.ne G.2.2.2.2.2.2.2.2.2.2.2.2.2.2.2.2.2.2.2.2.2.2.2.2.2.2.2.2.2.2.2.2.2.2.2.2.2.2.2.2.2.2.2.2.2.2.2.2.2.2.2.2.2.2.2.2.2.2.1 G.2.2.2.2.2.2.2.2.2.2.2.2.2.2.2.2.2.2.2.2.2.2.2.2.2.2.2.2.2.2.2.2.2.2.2.2.2.2.2.2.2.1 (by simp)))) (by decide) (by decide) k) ?_
  show Rch p e below _ (T1.setTop (mkF m 7 #[.val (.ref ro13)] []))
  refine Rch.go (fun t k => XS.aloadN X1.here hx rfl (hb hby d0_7) rfl rfl k) ?_
  show Rch p e below _ (T1.setTop (mkF m 8 #[.val (.ref ro13)] [(.ref ro13)]))
  obtain ⟨T2, X2, e2, st2⟩ := getS2 X1 hx hZ hown (host := "") (Or.inl (wd_52 hw)) Via.refl e1 (G.2.2.2.2.2.2.2.2.1.ext O0.2) (g := (mkF m 8 #[.val (.ref ro13)] [(.ref ro13)])) rfl (hb hby d0_8)
  refine Rch.go st2 ?_
  show Rch p e below _ (T2.setTop (mkF m 11 #[.val (.ref ro13)] [(.ref ro4), (.ref ro13)]))
  refine Rch.go (fun t k => acmp X2 hx (g := (mkF m 11 #[.val (.ref ro13)] [(.ref ro4), (.ref ro13)])) rfl (x := (.ref ro13)) (y := (.ref ro4)) rfl rfl (pc0 := 11) (pc' := 18) (same := false) rfl (hb hby d0_11) rfl (decide_eq_false (fun q => absurd (Value.ref.inj q) (Fld.ne G.2.2.2.2.2.2.2.2.2.2.2.2.2.2.2.2.2.2.2.2.2.2.2.2.2.2.2.2.2.2.2.2.2.2.2.2.2.2.2.2.2.2.2.2.2.2.2.2.2.2.2.2.2.2.2.2.2.2.1 G.2.2.2.2.2.2.2.2.2.2.2.2.2.2.2.2.2.2.2.2.2.2.2.2.2.2.2.2.2.2.2.2.2.2.2.2.2.2.2.2.2.2.1 (by simp)))) (by decide) (by decide) k) ?_
  show Rch p e below _ (T2.setTop (mkF m 18 #[.val (.ref ro13)] []))
  refine Rch.go (fun t k => XS.iconst X2.here hx rfl (hb hby d0_18) k) ?_
  show Rch p e below _ (T2.setTop (mkF m 19 #[.val (.ref ro13)] [(.int (0 : Int32))]))
  refine Rch.val X2 hx (t := .boolean) hret hlk rfl (mayI (by simp)) (hb hby d0_19) (by decide) (by decide) ?_
  try rw [e2]
  exact ⟨rfl, N0, rfl⟩
theorem ef_mn_14 (m : MethodId) (ro0 : Addr) (ro1 : Addr) (ro2 : Addr) (ro3 : Addr) (ro4 : Addr) (ro5 : Addr) (ro6 : Addr) (ro7 : Addr) (ro8 : Addr) (ro9 : Addr) (ro10 : Addr) (ro11 : Addr) (ro12 : Addr) (ro13 : Addr) (ro14 : Addr) (ro15 : Addr) (ro16 : Addr) (ro17 : Addr) (ro18 : Addr) (ro19 : Addr) : entryFrame m #[(.ref ro14)] 1 = mkF m 0 #[.val (.ref ro14)] [] := by first | rfl | (simp [entryFrame, mkF, argsToLocals, Value.category]; done)
set_option maxRecDepth 65536 in
set_option maxHeartbeats 40000000 in
theorem mn_14 (l : Launch) (Z : State) (a0 : Array Value) (hw : ∀ d ∈ tables_1, d.before a0 Z = true) (ro0 : Addr) (ro1 : Addr) (ro2 : Addr) (ro3 : Addr) (ro4 : Addr) (ro5 : Addr) (ro6 : Addr) (ro7 : Addr) (ro8 : Addr) (ro9 : Addr) (ro10 : Addr) (ro11 : Addr) (ro12 : Addr) (ro13 : Addr) (ro14 : Addr) (ro15 : Addr) (ro16 : Addr) (ro17 : Addr) (ro18 : Addr) (ro19 : Addr) (h0 : Heap) (n0 : Nat) (Z0 : n0 ≤ h0.size) (O0 : Old Z n0 h0) (G : Olds Z ro0 ro1 ro2 ro3 ro4 ro5 ro6 ro7 ro8 ro9 ro10 ro11 ro12 ro13 ro14 ro15 ro16 ro17 ro18 ro19) :
    Ctr l Z [] (⟨"com/example/knit_theories/knittheories/model/Builtin", "makesNumerals", "()Z"⟩ : MethodName) prog_57_method_4_code 1 (some .boolean) #[(.ref ro14)] h0 ({ frames := 0, cells := 0, slots := 0, locals := 0 } : Room) (fun v h L => v = some (.int (0 : Int32)) ∧ Fr n0 L ∧ h = h0) := by
  refine Ctr.of (plainFor_of_name pn_com_example_knit_theories_knittheories_model_Builtin) (fun m => ef_mn_14 m ro0 ro1 ro2 ro3 ro4 ro5 ro6 ro7 ro8 ro9 ro10 ro11 ro12 ro13 ro14 ro15 ro16 ro17 ro18 ro19) ?_
  intro p e s m below meth c T0 hx hZ hby hml hown hnm hret hlk X0 e0
  have N0 := Fr.nil n0
  show Rch p e below _ (T0.setTop (mkF m 0 #[.val (.ref ro14)] []))
  refine Rch.go (fun t k => XS.aloadN X0.here hx rfl (hb hby d0_0) rfl rfl k) ?_
  show Rch p e below _ (T0.setTop (mkF m 1 #[.val (.ref ro14)] [(.ref ro14)]))
  obtain ⟨T1, X1, e1, st1⟩ := getS2 X0 hx hZ hown (host := "") (Or.inl (wd_51 hw)) Via.refl e0 (G.2.2.2.2.2.2.1.ext O0.2) (g := (mkF m 1 #[.val (.ref ro14)] [(.ref ro14)])) rfl (hb hby d0_1)
  refine Rch.go st1 ?_
  show Rch p e below _ (T1.setTop (mkF m 4 #[.val (.ref ro14)] [(.ref ro3), (.ref ro14)]))
  refine Rch.go (fun t k => acmp X1 hx (g := (mkF m 4 #[.val (.ref ro14)] [(.ref ro3), (.ref ro14)])) rfl (x := (.ref ro14)) (y := (.ref ro3)) rfl rfl (pc0 := 4) (pc' := 7) (same := false) rfl (hb hby d0_4) rfl (decide_eq_false (fun q => absurd (Value.ref.inj q) (Fld.ne G.2.2.2.2.2.2.2.2.2.2.2.2.2.2.2.2.2.2.2.2.2.2.2.2.2.2.2.2.2.2.2.2.2.2.2.2.2.2.2.2.2.2.2.2.2.1 G.2.2.2.2.2.2.2.2.2.2.2.2.2.2.2.2.2.2.2.2.2.2.2.2.2.2.2.2.2.2.2.2.2.2.2.2.2.2.2.2.2.1 (by simp)))) (by decide) (by decide) k) ?_
  show Rch p e below _ (T1.setTop (mkF m 7 #[.val (.ref ro14)] []))
  refine Rch.go (fun t k => XS.aloadN X1.here hx rfl (hb hby d0_7) rfl rfl k) ?_
  show Rch p e below _ (T1.setTop (mkF m 8 #[.val (.ref ro14)] [(.ref ro14)]))
  obtain ⟨T2, X2, e2, st2⟩ := getS2 X1 hx hZ hown (host := "") (Or.inl (wd_52 hw)) Via.refl e1 (G.2.2.2.2.2.2.2.2.1.ext O0.2) (g := (mkF m 8 #[.val (.ref ro14)] [(.ref ro14)])) rfl (hb hby d0_8)
  refine Rch.go st2 ?_
  show Rch p e below _ (T2.setTop (mkF m 11 #[.val (.ref ro14)] [(.ref ro4), (.ref ro14)]))
  refine Rch.go (fun t k => acmp X2 hx (g := (mkF m 11 #[.val (.ref ro14)] [(.ref ro4), (.ref ro14)])) rfl (x := (.ref ro14)) (y := (.ref ro4)) rfl rfl (pc0 := 11) (pc' := 18) (same := false) rfl (hb hby d0_11) rfl (decide_eq_false (fun q => absurd (Value.ref.inj q) (Fld.ne G.2.2.2.2.2.2.2.2.2.2.2.2.2.2.2.2.2.2.2.2.2.2.2.2.2.2.2.2.2.2.2.2.2.2.2.2.2.2.2.2.2.2.2.2.2.1 G.2.2.2.2.2.2.2.2.2.2.2.2.2.2.2.2.2.2.2.2.2.2.2.2.2.2.2.2.2.2.2.2.2.2.2.2.2.2.2.2.2.2.1 (by simp)))) (by decide) (by decide) k) ?_
  show Rch p e below _ (T2.setTop (mkF m 18 #[.val (.ref ro14)] []))
  refine Rch.go (fun t k => XS.iconst X2.here hx rfl (hb hby d0_18) k) ?_
  show Rch p e below _ (T2.setTop (mkF m 19 #[.val (.ref ro14)] [(.int (0 : Int32))]))
  refine Rch.val X2 hx (t := .boolean) hret hlk rfl (mayI (by simp)) (hb hby d0_19) (by decide) (by decide) ?_
  try rw [e2]
  exact ⟨rfl, N0, rfl⟩
theorem ef_mn_15 (m : MethodId) (ro0 : Addr) (ro1 : Addr) (ro2 : Addr) (ro3 : Addr) (ro4 : Addr) (ro5 : Addr) (ro6 : Addr) (ro7 : Addr) (ro8 : Addr) (ro9 : Addr) (ro10 : Addr) (ro11 : Addr) (ro12 : Addr) (ro13 : Addr) (ro14 : Addr) (ro15 : Addr) (ro16 : Addr) (ro17 : Addr) (ro18 : Addr) (ro19 : Addr) : entryFrame m #[(.ref ro15)] 1 = mkF m 0 #[.val (.ref ro15)] [] := by first | rfl | (simp [entryFrame, mkF, argsToLocals, Value.category]; done)
set_option maxRecDepth 65536 in
set_option maxHeartbeats 40000000 in
theorem mn_15 (l : Launch) (Z : State) (a0 : Array Value) (hw : ∀ d ∈ tables_1, d.before a0 Z = true) (ro0 : Addr) (ro1 : Addr) (ro2 : Addr) (ro3 : Addr) (ro4 : Addr) (ro5 : Addr) (ro6 : Addr) (ro7 : Addr) (ro8 : Addr) (ro9 : Addr) (ro10 : Addr) (ro11 : Addr) (ro12 : Addr) (ro13 : Addr) (ro14 : Addr) (ro15 : Addr) (ro16 : Addr) (ro17 : Addr) (ro18 : Addr) (ro19 : Addr) (h0 : Heap) (n0 : Nat) (Z0 : n0 ≤ h0.size) (O0 : Old Z n0 h0) (G : Olds Z ro0 ro1 ro2 ro3 ro4 ro5 ro6 ro7 ro8 ro9 ro10 ro11 ro12 ro13 ro14 ro15 ro16 ro17 ro18 ro19) :
    Ctr l Z [] (⟨"com/example/knit_theories/knittheories/model/Builtin", "makesNumerals", "()Z"⟩ : MethodName) prog_57_method_4_code 1 (some .boolean) #[(.ref ro15)] h0 ({ frames := 0, cells := 0, slots := 0, locals := 0 } : Room) (fun v h L => v = some (.int (0 : Int32)) ∧ Fr n0 L ∧ h = h0) := by
  refine Ctr.of (plainFor_of_name pn_com_example_knit_theories_knittheories_model_Builtin) (fun m => ef_mn_15 m ro0 ro1 ro2 ro3 ro4 ro5 ro6 ro7 ro8 ro9 ro10 ro11 ro12 ro13 ro14 ro15 ro16 ro17 ro18 ro19) ?_
  intro p e s m below meth c T0 hx hZ hby hml hown hnm hret hlk X0 e0
  have N0 := Fr.nil n0
  show Rch p e below _ (T0.setTop (mkF m 0 #[.val (.ref ro15)] []))
  refine Rch.go (fun t k => XS.aloadN X0.here hx rfl (hb hby d0_0) rfl rfl k) ?_
  show Rch p e below _ (T0.setTop (mkF m 1 #[.val (.ref ro15)] [(.ref ro15)]))
  obtain ⟨T1, X1, e1, st1⟩ := getS2 X0 hx hZ hown (host := "") (Or.inl (wd_51 hw)) Via.refl e0 (G.2.2.2.2.2.2.1.ext O0.2) (g := (mkF m 1 #[.val (.ref ro15)] [(.ref ro15)])) rfl (hb hby d0_1)
  refine Rch.go st1 ?_
  show Rch p e below _ (T1.setTop (mkF m 4 #[.val (.ref ro15)] [(.ref ro3), (.ref ro15)]))
  refine Rch.go (fun t k => acmp X1 hx (g := (mkF m 4 #[.val (.ref ro15)] [(.ref ro3), (.ref ro15)])) rfl (x := (.ref ro15)) (y := (.ref ro3)) rfl rfl (pc0 := 4) (pc' := 7) (same := false) rfl (hb hby d0_4) rfl (decide_eq_false (fun q => absurd (Value.ref.inj q) (Fld.ne G.2.2.2.2.2.2.2.2.2.2.2.2.2.2.2.2.2.2.2.2.2.2.2.2.2.2.2.2.2.2.2.2.2.2.2.2.2.2.2.2.2.2.2.2.2.2.2.2.2.2.2.1 G.2.2.2.2.2.2.2.2.2.2.2.2.2.2.2.2.2.2.2.2.2.2.2.2.2.2.2.2.2.2.2.2.2.2.2.2.2.2.2.2.2.1 (by simp)))) (by decide) (by decide) k) ?_
  show Rch p e below _ (T1.setTop (mkF m 7 #[.val (.ref ro15)] []))
  refine Rch.go (fun t k => XS.aloadN X1.here hx rfl (hb hby d0_7) rfl rfl k) ?_
  show Rch p e below _ (T1.setTop (mkF m 8 #[.val (.ref ro15)] [(.ref ro15)]))
  obtain ⟨T2, X2, e2, st2⟩ := getS2 X1 hx hZ hown (host := "") (Or.inl (wd_52 hw)) Via.refl e1 (G.2.2.2.2.2.2.2.2.1.ext O0.2) (g := (mkF m 8 #[.val (.ref ro15)] [(.ref ro15)])) rfl (hb hby d0_8)
  refine Rch.go st2 ?_
  show Rch p e below _ (T2.setTop (mkF m 11 #[.val (.ref ro15)] [(.ref ro4), (.ref ro15)]))
  refine Rch.go (fun t k => acmp X2 hx (g := (mkF m 11 #[.val (.ref ro15)] [(.ref ro4), (.ref ro15)])) rfl (x := (.ref ro15)) (y := (.ref ro4)) rfl rfl (pc0 := 11) (pc' := 18) (same := false) rfl (hb hby d0_11) rfl (decide_eq_false (fun q => absurd (Value.ref.inj q) (Fld.ne G.2.2.2.2.2.2.2.2.2.2.2.2.2.2.2.2.2.2.2.2.2.2.2.2.2.2.2.2.2.2.2.2.2.2.2.2.2.2.2.2.2.2.2.2.2.2.2.2.2.2.2.1 G.2.2.2.2.2.2.2.2.2.2.2.2.2.2.2.2.2.2.2.2.2.2.2.2.2.2.2.2.2.2.2.2.2.2.2.2.2.2.2.2.2.2.1 (by simp)))) (by decide) (by decide) k) ?_
  show Rch p e below _ (T2.setTop (mkF m 18 #[.val (.ref ro15)] []))
  refine Rch.go (fun t k => XS.iconst X2.here hx rfl (hb hby d0_18) k) ?_
  show Rch p e below _ (T2.setTop (mkF m 19 #[.val (.ref ro15)] [(.int (0 : Int32))]))
  refine Rch.val X2 hx (t := .boolean) hret hlk rfl (mayI (by simp)) (hb hby d0_19) (by decide) (by decide) ?_
  try rw [e2]
  exact ⟨rfl, N0, rfl⟩
theorem ef_mn_16 (m : MethodId) (ro0 : Addr) (ro1 : Addr) (ro2 : Addr) (ro3 : Addr) (ro4 : Addr) (ro5 : Addr) (ro6 : Addr) (ro7 : Addr) (ro8 : Addr) (ro9 : Addr) (ro10 : Addr) (ro11 : Addr) (ro12 : Addr) (ro13 : Addr) (ro14 : Addr) (ro15 : Addr) (ro16 : Addr) (ro17 : Addr) (ro18 : Addr) (ro19 : Addr) : entryFrame m #[(.ref ro16)] 1 = mkF m 0 #[.val (.ref ro16)] [] := by first | rfl | (simp [entryFrame, mkF, argsToLocals, Value.category]; done)
set_option maxRecDepth 65536 in
set_option maxHeartbeats 40000000 in
theorem mn_16 (l : Launch) (Z : State) (a0 : Array Value) (hw : ∀ d ∈ tables_1, d.before a0 Z = true) (ro0 : Addr) (ro1 : Addr) (ro2 : Addr) (ro3 : Addr) (ro4 : Addr) (ro5 : Addr) (ro6 : Addr) (ro7 : Addr) (ro8 : Addr) (ro9 : Addr) (ro10 : Addr) (ro11 : Addr) (ro12 : Addr) (ro13 : Addr) (ro14 : Addr) (ro15 : Addr) (ro16 : Addr) (ro17 : Addr) (ro18 : Addr) (ro19 : Addr) (h0 : Heap) (n0 : Nat) (Z0 : n0 ≤ h0.size) (O0 : Old Z n0 h0) (G : Olds Z ro0 ro1 ro2 ro3 ro4 ro5 ro6 ro7 ro8 ro9 ro10 ro11 ro12 ro13 ro14 ro15 ro16 ro17 ro18 ro19) :
    Ctr l Z [] (⟨"com/example/knit_theories/knittheories/model/Builtin", "makesNumerals", "()Z"⟩ : MethodName) prog_57_method_4_code 1 (some .boolean) #[(.ref ro16)] h0 ({ frames := 0, cells := 0, slots := 0, locals := 0 } : Room) (fun v h L => v = some (.int (0 : Int32)) ∧ Fr n0 L ∧ h = h0) := by
  refine Ctr.of (plainFor_of_name pn_com_example_knit_theories_knittheories_model_Builtin) (fun m => ef_mn_16 m ro0 ro1 ro2 ro3 ro4 ro5 ro6 ro7 ro8 ro9 ro10 ro11 ro12 ro13 ro14 ro15 ro16 ro17 ro18 ro19) ?_
  intro p e s m below meth c T0 hx hZ hby hml hown hnm hret hlk X0 e0
  have N0 := Fr.nil n0
  show Rch p e below _ (T0.setTop (mkF m 0 #[.val (.ref ro16)] []))
  refine Rch.go (fun t k => XS.aloadN X0.here hx rfl (hb hby d0_0) rfl rfl k) ?_
  show Rch p e below _ (T0.setTop (mkF m 1 #[.val (.ref ro16)] [(.ref ro16)]))
  obtain ⟨T1, X1, e1, st1⟩ := getS2 X0 hx hZ hown (host := "") (Or.inl (wd_51 hw)) Via.refl e0 (G.2.2.2.2.2.2.1.ext O0.2) (g := (mkF m 1 #[.val (.ref ro16)] [(.ref ro16)])) rfl (hb hby d0_1)
  refine Rch.go st1 ?_
  show Rch p e below _ (T1.setTop (mkF m 4 #[.val (.ref ro16)] [(.ref ro3), (.ref ro16)]))
  refine Rch.go (fun t k => acmp X1 hx (g := (mkF m 4 #[.val (.ref ro16)] [(.ref ro3), (.ref ro16)])) rfl (x := (.ref ro16)) (y := (.ref ro3)) rfl rfl (pc0 := 4) (pc' := 7) (same := false) rfl (hb hby d0_4) rfl (decide_eq_false (fun q => absurd (Value.ref.inj q) (Fld.ne G.2.2.2.2.2.2.2.2.2.2.2.2.2.2.2.2.2.2.2.2.2.2.2.2.2.2.2.2.2.2.2.2.2.2.2.2.2.2.2.2.2.2.2.2.2.2.2.2.2.2.2.2.2.2.1 G.2.2.2.2.2.2.2.2.2.2.2.2.2.2.2.2.2.2.2.2.2.2.2.2.2.2.2.2.2.2.2.2.2.2.2.2.2.2.2.2.2.1 (by simp)))) (by decide) (by decide) k) ?_
  show Rch p e below _ (T1.setTop (mkF m 7 #[.val (.ref ro16)] []))
  refine Rch.go (fun t k => XS.aloadN X1.here hx rfl (hb hby d0_7) rfl rfl k) ?_
  show Rch p e below _ (T1.setTop (mkF m 8 #[.val (.ref ro16)] [(.ref ro16)]))
  obtain ⟨T2, X2, e2, st2⟩ := getS2 X1 hx hZ hown (host := "") (Or.inl (wd_52 hw)) Via.refl e1 (G.2.2.2.2.2.2.2.2.1.ext O0.2) (g := (mkF m 8 #[.val (.ref ro16)] [(.ref ro16)])) rfl (hb hby d0_8)
  refine Rch.go st2 ?_
  show Rch p e below _ (T2.setTop (mkF m 11 #[.val (.ref ro16)] [(.ref ro4), (.ref ro16)]))
  refine Rch.go (fun t k => acmp X2 hx (g := (mkF m 11 #[.val (.ref ro16)] [(.ref ro4), (.ref ro16)])) rfl (x := (.ref ro16)) (y := (.ref ro4)) rfl rfl (pc0 := 11) (pc' := 18) (same := false) rfl (hb hby d0_11) rfl (decide_eq_false (fun q => absurd (Value.ref.inj q) (Fld.ne G.2.2.2.2.2.2.2.2.2.2.2.2.2.2.2.2.2.2.2.2.2.2.2.2.2.2.2.2.2.2.2.2.2.2.2.2.2.2.2.2.2.2.2.2.2.2.2.2.2.2.2.2.2.2.1 G.2.2.2.2.2.2.2.2.2.2.2.2.2.2.2.2.2.2.2.2.2.2.2.2.2.2.2.2.2.2.2.2.2.2.2.2.2.2.2.2.2.2.1 (by simp)))) (by decide) (by decide) k) ?_
  show Rch p e below _ (T2.setTop (mkF m 18 #[.val (.ref ro16)] []))
  refine Rch.go (fun t k => XS.iconst X2.here hx rfl (hb hby d0_18) k) ?_
  show Rch p e below _ (T2.setTop (mkF m 19 #[.val (.ref ro16)] [(.int (0 : Int32))]))
  refine Rch.val X2 hx (t := .boolean) hret hlk rfl (mayI (by simp)) (hb hby d0_19) (by decide) (by decide) ?_
  try rw [e2]
  exact ⟨rfl, N0, rfl⟩
theorem ef_mn_17 (m : MethodId) (ro0 : Addr) (ro1 : Addr) (ro2 : Addr) (ro3 : Addr) (ro4 : Addr) (ro5 : Addr) (ro6 : Addr) (ro7 : Addr) (ro8 : Addr) (ro9 : Addr) (ro10 : Addr) (ro11 : Addr) (ro12 : Addr) (ro13 : Addr) (ro14 : Addr) (ro15 : Addr) (ro16 : Addr) (ro17 : Addr) (ro18 : Addr) (ro19 : Addr) : entryFrame m #[(.ref ro17)] 1 = mkF m 0 #[.val (.ref ro17)] [] := by first | rfl | (simp [entryFrame, mkF, argsToLocals, Value.category]; done)
set_option maxRecDepth 65536 in
set_option maxHeartbeats 40000000 in
theorem mn_17 (l : Launch) (Z : State) (a0 : Array Value) (hw : ∀ d ∈ tables_1, d.before a0 Z = true) (ro0 : Addr) (ro1 : Addr) (ro2 : Addr) (ro3 : Addr) (ro4 : Addr) (ro5 : Addr) (ro6 : Addr) (ro7 : Addr) (ro8 : Addr) (ro9 : Addr) (ro10 : Addr) (ro11 : Addr) (ro12 : Addr) (ro13 : Addr) (ro14 : Addr) (ro15 : Addr) (ro16 : Addr) (ro17 : Addr) (ro18 : Addr) (ro19 : Addr) (h0 : Heap) (n0 : Nat) (Z0 : n0 ≤ h0.size) (O0 : Old Z n0 h0) (G : Olds Z ro0 ro1 ro2 ro3 ro4 ro5 ro6 ro7 ro8 ro9 ro10 ro11 ro12 ro13 ro14 ro15 ro16 ro17 ro18 ro19) :
    Ctr l Z [] (⟨"com/example/knit_theories/knittheories/model/Builtin", "makesNumerals", "()Z"⟩ : MethodName) prog_57_method_4_code 1 (some .boolean) #[(.ref ro17)] h0 ({ frames := 0, cells := 0, slots := 0, locals := 0 } : Room) (fun v h L => v = some (.int (0 : Int32)) ∧ Fr n0 L ∧ h = h0) := by
  refine Ctr.of (plainFor_of_name pn_com_example_knit_theories_knittheories_model_Builtin) (fun m => ef_mn_17 m ro0 ro1 ro2 ro3 ro4 ro5 ro6 ro7 ro8 ro9 ro10 ro11 ro12 ro13 ro14 ro15 ro16 ro17 ro18 ro19) ?_
  intro p e s m below meth c T0 hx hZ hby hml hown hnm hret hlk X0 e0
  have N0 := Fr.nil n0
  show Rch p e below _ (T0.setTop (mkF m 0 #[.val (.ref ro17)] []))
  refine Rch.go (fun t k => XS.aloadN X0.here hx rfl (hb hby d0_0) rfl rfl k) ?_
  show Rch p e below _ (T0.setTop (mkF m 1 #[.val (.ref ro17)] [(.ref ro17)]))
  obtain ⟨T1, X1, e1, st1⟩ := getS2 X0 hx hZ hown (host := "") (Or.inl (wd_51 hw)) Via.refl e0 (G.2.2.2.2.2.2.1.ext O0.2) (g := (mkF m 1 #[.val (.ref ro17)] [(.ref ro17)])) rfl (hb hby d0_1)
  refine Rch.go st1 ?_
  show Rch p e below _ (T1.setTop (mkF m 4 #[.val (.ref ro17)] [(.ref ro3), (.ref ro17)]))
  refine Rch.go (fun t k => acmp X1 hx (g := (mkF m 4 #[.val (.ref ro17)] [(.ref ro3), (.ref ro17)])) rfl (x := (.ref ro17)) (y := (.ref ro3)) rfl rfl (pc0 := 4) (pc' := 7) (same := false) rfl (hb hby d0_4) rfl (decide_eq_false (fun q => absurd (Value.ref.inj q) (Fld.ne G.2.2.2.2.2.2.2.2.2.2.2.2.2.2.2.2.2.2.2.2.2.2.2.2.2.2.2.2.2.2.2.2.2.2.2.2.2.2.2.2.2.2.2.2.2.2.2.2.2.2.2.2.2.1 G.2.2.2.2.2.2.2.2.2.2.2.2.2.2.2.2.2.2.2.2.2.2.2.2.2.2.2.2.2.2.2.2.2.2.2.2.2.2.2.2.2.1 (by simp)))) (by decide) (by decide) k) ?_
  show Rch p e below _ (T1.setTop (mkF m 7 #[.val (.ref ro17)] []))
  refine Rch.go (fun t k => XS.aloadN X1.here hx rfl (hb hby d0_7) rfl rfl k) ?_
  show Rch p e below _ (T1.setTop (mkF m 8 #[.val (.ref ro17)] [(.ref ro17)]))
  obtain ⟨T2, X2, e2, st2⟩ := getS2 X1 hx hZ hown (host := "") (Or.inl (wd_52 hw)) Via.refl e1 (G.2.2.2.2.2.2.2.2.1.ext O0.2) (g := (mkF m 8 #[.val (.ref ro17)] [(.ref ro17)])) rfl (hb hby d0_8)
  refine Rch.go st2 ?_
  show Rch p e below _ (T2.setTop (mkF m 11 #[.val (.ref ro17)] [(.ref ro4), (.ref ro17)]))
  refine Rch.go (fun t k => acmp X2 hx (g := (mkF m 11 #[.val (.ref ro17)] [(.ref ro4), (.ref ro17)])) rfl (x := (.ref ro17)) (y := (.ref ro4)) rfl rfl (pc0 := 11) (pc' := 18) (same := false) rfl (hb hby d0_11) rfl (decide_eq_false (fun q => absurd (Value.ref.inj q) (Fld.ne G.2.2.2.2.2.2.2.2.2.2.2.2.2.2.2.2.2.2.2.2.2.2.2.2.2.2.2.2.2.2.2.2.2.2.2.2.2.2.2.2.2.2.2.2.2.2.2.2.2.2.2.2.2.1 G.2.2.2.2.2.2.2.2.2.2.2.2.2.2.2.2.2.2.2.2.2.2.2.2.2.2.2.2.2.2.2.2.2.2.2.2.2.2.2.2.2.2.1 (by simp)))) (by decide) (by decide) k) ?_
  show Rch p e below _ (T2.setTop (mkF m 18 #[.val (.ref ro17)] []))
  refine Rch.go (fun t k => XS.iconst X2.here hx rfl (hb hby d0_18) k) ?_
  show Rch p e below _ (T2.setTop (mkF m 19 #[.val (.ref ro17)] [(.int (0 : Int32))]))
  refine Rch.val X2 hx (t := .boolean) hret hlk rfl (mayI (by simp)) (hb hby d0_19) (by decide) (by decide) ?_
  try rw [e2]
  exact ⟨rfl, N0, rfl⟩
theorem ef_mn_18 (m : MethodId) (ro0 : Addr) (ro1 : Addr) (ro2 : Addr) (ro3 : Addr) (ro4 : Addr) (ro5 : Addr) (ro6 : Addr) (ro7 : Addr) (ro8 : Addr) (ro9 : Addr) (ro10 : Addr) (ro11 : Addr) (ro12 : Addr) (ro13 : Addr) (ro14 : Addr) (ro15 : Addr) (ro16 : Addr) (ro17 : Addr) (ro18 : Addr) (ro19 : Addr) : entryFrame m #[(.ref ro18)] 1 = mkF m 0 #[.val (.ref ro18)] [] := by first | rfl | (simp [entryFrame, mkF, argsToLocals, Value.category]; done)
set_option maxRecDepth 65536 in
set_option maxHeartbeats 40000000 in
theorem mn_18 (l : Launch) (Z : State) (a0 : Array Value) (hw : ∀ d ∈ tables_1, d.before a0 Z = true) (ro0 : Addr) (ro1 : Addr) (ro2 : Addr) (ro3 : Addr) (ro4 : Addr) (ro5 : Addr) (ro6 : Addr) (ro7 : Addr) (ro8 : Addr) (ro9 : Addr) (ro10 : Addr) (ro11 : Addr) (ro12 : Addr) (ro13 : Addr) (ro14 : Addr) (ro15 : Addr) (ro16 : Addr) (ro17 : Addr) (ro18 : Addr) (ro19 : Addr) (h0 : Heap) (n0 : Nat) (Z0 : n0 ≤ h0.size) (O0 : Old Z n0 h0) (G : Olds Z ro0 ro1 ro2 ro3 ro4 ro5 ro6 ro7 ro8 ro9 ro10 ro11 ro12 ro13 ro14 ro15 ro16 ro17 ro18 ro19) :
    Ctr l Z [] (⟨"com/example/knit_theories/knittheories/model/Builtin", "makesNumerals", "()Z"⟩ : MethodName) prog_57_method_4_code 1 (some .boolean) #[(.ref ro18)] h0 ({ frames := 0, cells := 0, slots := 0, locals := 0 } : Room) (fun v h L => v = some (.int (0 : Int32)) ∧ Fr n0 L ∧ h = h0) := by
  refine Ctr.of (plainFor_of_name pn_com_example_knit_theories_knittheories_model_Builtin) (fun m => ef_mn_18 m ro0 ro1 ro2 ro3 ro4 ro5 ro6 ro7 ro8 ro9 ro10 ro11 ro12 ro13 ro14 ro15 ro16 ro17 ro18 ro19) ?_
  intro p e s m below meth c T0 hx hZ hby hml hown hnm hret hlk X0 e0
  have N0 := Fr.nil n0
  show Rch p e below _ (T0.setTop (mkF m 0 #[.val (.ref ro18)] []))
  refine Rch.go (fun t k => XS.aloadN X0.here hx rfl (hb hby d0_0) rfl rfl k) ?_
  show Rch p e below _ (T0.setTop (mkF m 1 #[.val (.ref ro18)] [(.ref ro18)]))
  obtain ⟨T1, X1, e1, st1⟩ := getS2 X0 hx hZ hown (host := "") (Or.inl (wd_51 hw)) Via.refl e0 (G.2.2.2.2.2.2.1.ext O0.2) (g := (mkF m 1 #[.val (.ref ro18)] [(.ref ro18)])) rfl (hb hby d0_1)
  refine Rch.go st1 ?_
  show Rch p e below _ (T1.setTop (mkF m 4 #[.val (.ref ro18)] [(.ref ro3), (.ref ro18)]))
  refine Rch.go (fun t k => acmp X1 hx (g := (mkF m 4 #[.val (.ref ro18)] [(.ref ro3), (.ref ro18)])) rfl (x := (.ref ro18)) (y := (.ref ro3)) rfl rfl (pc0 := 4) (pc' := 7) (same := false) rfl (hb hby d0_4) rfl (decide_eq_false (fun q => absurd (Value.ref.inj q) (Fld.ne G.2.2.2.2.2.2.2.2.2.2.2.2.2.2.2.2.2.2.2.2.2.2.2.2.2.2.2.2.2.2.2.2.2.2.2.2.2.2.2.2.2.2.2.2.2.2.2.2.2.2.2.2.2.2.2.2.2.2.2 G.2.2.2.2.2.2.2.2.2.2.2.2.2.2.2.2.2.2.2.2.2.2.2.2.2.2.2.2.2.2.2.2.2.2.2.2.2.2.2.2.2.1 (by simp)))) (by decide) (by decide) k) ?_
  show Rch p e below _ (T1.setTop (mkF m 7 #[.val (.ref ro18)] []))
  refine Rch.go (fun t k => XS.aloadN X1.here hx rfl (hb hby d0_7) rfl rfl k) ?_
  show Rch p e below _ (T1.setTop (mkF m 8 #[.val (.ref ro18)] [(.ref ro18)]))
  obtain ⟨T2, X2, e2, st2⟩ := getS2 X1 hx hZ hown (host := "") (Or.inl (wd_52 hw)) Via.refl e1 (G.2.2.2.2.2.2.2.2.1.ext O0.2) (g := (mkF m 8 #[.val (.ref ro18)] [(.ref ro18)])) rfl (hb hby d0_8)
  refine Rch.go st2 ?_
  show Rch p e below _ (T2.setTop (mkF m 11 #[.val (.ref ro18)] [(.ref ro4), (.ref ro18)]))
  refine Rch.go (fun t k => acmp X2 hx (g := (mkF m 11 #[.val (.ref ro18)] [(.ref ro4), (.ref ro18)])) rfl (x := (.ref ro18)) (y := (.ref ro4)) rfl rfl (pc0 := 11) (pc' := 18) (same := false) rfl (hb hby d0_11) rfl (decide_eq_false (fun q => absurd (Value.ref.inj q) (Fld.ne G.2.2.2.2.2.2.2.2.2.2.2.2.2.2.2.2.2.2.2.2.2.2.2.2.2.2.2.2.2.2.2.2.2.2.2.2.2.2.2.2.2.2.2.2.2.2.2.2.2.2.2.2.2.2.2.2.2.2.2 G.2.2.2.2.2.2.2.2.2.2.2.2.2.2.2.2.2.2.2.2.2.2.2.2.2.2.2.2.2.2.2.2.2.2.2.2.2.2.2.2.2.2.1 (by simp)))) (by decide) (by decide) k) ?_
  show Rch p e below _ (T2.setTop (mkF m 18 #[.val (.ref ro18)] []))
  refine Rch.go (fun t k => XS.iconst X2.here hx rfl (hb hby d0_18) k) ?_
  show Rch p e below _ (T2.setTop (mkF m 19 #[.val (.ref ro18)] [(.int (0 : Int32))]))
  refine Rch.val X2 hx (t := .boolean) hret hlk rfl (mayI (by simp)) (hb hby d0_19) (by decide) (by decide) ?_
  try rw [e2]
  exact ⟨rfl, N0, rfl⟩
theorem ef_mn_19 (m : MethodId) (ro0 : Addr) (ro1 : Addr) (ro2 : Addr) (ro3 : Addr) (ro4 : Addr) (ro5 : Addr) (ro6 : Addr) (ro7 : Addr) (ro8 : Addr) (ro9 : Addr) (ro10 : Addr) (ro11 : Addr) (ro12 : Addr) (ro13 : Addr) (ro14 : Addr) (ro15 : Addr) (ro16 : Addr) (ro17 : Addr) (ro18 : Addr) (ro19 : Addr) : entryFrame m #[(.ref ro19)] 1 = mkF m 0 #[.val (.ref ro19)] [] := by first | rfl | (simp [entryFrame, mkF, argsToLocals, Value.category]; done)
set_option maxRecDepth 65536 in
set_option maxHeartbeats 40000000 in
theorem mn_19 (l : Launch) (Z : State) (a0 : Array Value) (hw : ∀ d ∈ tables_1, d.before a0 Z = true) (ro0 : Addr) (ro1 : Addr) (ro2 : Addr) (ro3 : Addr) (ro4 : Addr) (ro5 : Addr) (ro6 : Addr) (ro7 : Addr) (ro8 : Addr) (ro9 : Addr) (ro10 : Addr) (ro11 : Addr) (ro12 : Addr) (ro13 : Addr) (ro14 : Addr) (ro15 : Addr) (ro16 : Addr) (ro17 : Addr) (ro18 : Addr) (ro19 : Addr) (h0 : Heap) (n0 : Nat) (Z0 : n0 ≤ h0.size) (O0 : Old Z n0 h0) (G : Olds Z ro0 ro1 ro2 ro3 ro4 ro5 ro6 ro7 ro8 ro9 ro10 ro11 ro12 ro13 ro14 ro15 ro16 ro17 ro18 ro19) :
    Ctr l Z [] (⟨"com/example/knit_theories/knittheories/model/Builtin", "makesNumerals", "()Z"⟩ : MethodName) prog_57_method_4_code 1 (some .boolean) #[(.ref ro19)] h0 ({ frames := 0, cells := 0, slots := 0, locals := 0 } : Room) (fun v h L => v = some (.int (0 : Int32)) ∧ Fr n0 L ∧ h = h0) := by
  refine Ctr.of (plainFor_of_name pn_com_example_knit_theories_knittheories_model_Builtin) (fun m => ef_mn_19 m ro0 ro1 ro2 ro3 ro4 ro5 ro6 ro7 ro8 ro9 ro10 ro11 ro12 ro13 ro14 ro15 ro16 ro17 ro18 ro19) ?_
  intro p e s m below meth c T0 hx hZ hby hml hown hnm hret hlk X0 e0
  have N0 := Fr.nil n0
  show Rch p e below _ (T0.setTop (mkF m 0 #[.val (.ref ro19)] []))
  refine Rch.go (fun t k => XS.aloadN X0.here hx rfl (hb hby d0_0) rfl rfl k) ?_
  show Rch p e below _ (T0.setTop (mkF m 1 #[.val (.ref ro19)] [(.ref ro19)]))
  obtain ⟨T1, X1, e1, st1⟩ := getS2 X0 hx hZ hown (host := "") (Or.inl (wd_51 hw)) Via.refl e0 (G.2.2.2.2.2.2.1.ext O0.2) (g := (mkF m 1 #[.val (.ref ro19)] [(.ref ro19)])) rfl (hb hby d0_1)
  refine Rch.go st1 ?_
  show Rch p e below _ (T1.setTop (mkF m 4 #[.val (.ref ro19)] [(.ref ro3), (.ref ro19)]))
  refine Rch.go (fun t k => acmp X1 hx (g := (mkF m 4 #[.val (.ref ro19)] [(.ref ro3), (.ref ro19)])) rfl (x := (.ref ro19)) (y := (.ref ro3)) rfl rfl (pc0 := 4) (pc' := 7) (same := false) rfl (hb hby d0_4) rfl (decide_eq_false (fun q => absurd (Value.ref.inj q) (Fld.ne G.2.2.2.2.2.2.2.2.2.2.2.2.2.2.2.2.2.2.2.2.2.2.2.2.2.2.2.2.2.2.2.2.2.2.2.2.2.2.2.2.2.2.2.2.2.2.2.2.2.2.1 G.2.2.2.2.2.2.2.2.2.2.2.2.2.2.2.2.2.2.2.2.2.2.2.2.2.2.2.2.2.2.2.2.2.2.2.2.2.2.2.2.2.1 (by simp)))) (by decide) (by decide) k) ?_
  show Rch p e below _ (T1.setTop (mkF m 7 #[.val (.ref ro19)] []))
  refine Rch.go (fun t k => XS.aloadN X1.here hx rfl (hb hby d0_7) rfl rfl k) ?_
  show Rch p e below _ (T1.setTop (mkF m 8 #[.val (.ref ro19)] [(.ref ro19)]))
  obtain ⟨T2, X2, e2, st2⟩ := getS2 X1 hx hZ hown (host := "") (Or.inl (wd_52 hw)) Via.refl e1 (G.2.2.2.2.2.2.2.2.1.ext O0.2) (g := (mkF m 8 #[.val (.ref ro19)] [(.ref ro19)])) rfl (hb hby d0_8)
  refine Rch.go st2 ?_
  show Rch p e below _ (T2.setTop (mkF m 11 #[.val (.ref ro19)] [(.ref ro4), (.ref ro19)]))
  refine Rch.go (fun t k => acmp X2 hx (g := (mkF m 11 #[.val (.ref ro19)] [(.ref ro4), (.ref ro19)])) rfl (x := (.ref ro19)) (y := (.ref ro4)) rfl rfl (pc0 := 11) (pc' := 18) (same := false) rfl (hb hby d0_11) rfl (decide_eq_false (fun q => absurd (Value.ref.inj q) (Fld.ne G.2.2.2.2.2.2.2.2.2.2.2.2.2.2.2.2.2.2.2.2.2.2.2.2.2.2.2.2.2.2.2.2.2.2.2.2.2.2.2.2.2.2.2.2.2.2.2.2.2.2.1 G.2.2.2.2.2.2.2.2.2.2.2.2.2.2.2.2.2.2.2.2.2.2.2.2.2.2.2.2.2.2.2.2.2.2.2.2.2.2.2.2.2.2.1 (by simp)))) (by decide) (by decide) k) ?_
  show Rch p e below _ (T2.setTop (mkF m 18 #[.val (.ref ro19)] []))
  refine Rch.go (fun t k => XS.iconst X2.here hx rfl (hb hby d0_18) k) ?_
  show Rch p e below _ (T2.setTop (mkF m 19 #[.val (.ref ro19)] [(.int (0 : Int32))]))
  refine Rch.val X2 hx (t := .boolean) hret hlk rfl (mayI (by simp)) (hb hby d0_19) (by decide) (by decide) ?_
  try rw [e2]
  exact ⟨rfl, N0, rfl⟩
theorem own_mod20 (x : Int32) : (x &&& 2147483647) % 20 = 0 ∨ (x &&& 2147483647) % 20 = 1 ∨ (x &&& 2147483647) % 20 = 2 ∨ (x &&& 2147483647) % 20 = 3 ∨ (x &&& 2147483647) % 20 = 4 ∨ (x &&& 2147483647) % 20 = 5 ∨ (x &&& 2147483647) % 20 = 6 ∨ (x &&& 2147483647) % 20 = 7 ∨ (x &&& 2147483647) % 20 = 8 ∨ (x &&& 2147483647) % 20 = 9 ∨ (x &&& 2147483647) % 20 = 10 ∨ (x &&& 2147483647) % 20 = 11 ∨ (x &&& 2147483647) % 20 = 12 ∨ (x &&& 2147483647) % 20 = 13 ∨ (x &&& 2147483647) % 20 = 14 ∨ (x &&& 2147483647) % 20 = 15 ∨ (x &&& 2147483647) % 20 = 16 ∨ (x &&& 2147483647) % 20 = 17 ∨ (x &&& 2147483647) % 20 = 18 ∨ (x &&& 2147483647) % 20 = 19 := by
  have h := own_rem (n := 20) (own_pos x) (by decide)
  simp only [← Int32.toInt_inj]
  have h10 : (20 : Int32).toInt = 20 := rfl
  rw [h10] at h
  generalize ((x &&& 2147483647) % 20).toInt = t at h
  show t = 0 ∨ t = 1 ∨ t = 2 ∨ t = 3 ∨ t = 4 ∨ t = 5 ∨ t = 6 ∨ t = 7 ∨ t = 8 ∨ t = 9 ∨ t = 10 ∨ t = 11 ∨ t = 12 ∨ t = 13 ∨ t = 14 ∨ t = 15 ∨ t = 16 ∨ t = 17 ∨ t = 18 ∨ t = 19
  omega
theorem wd_0 {Z : State} {a0 : Array Value} (hw : ∀ d ∈ tables_1, d.before a0 Z = true) : (Jvm.Cond.classLink "com/example/knit_theories/knittheories/model/BuiltinMakesNumeralsPinLaw" (7 : Nat) "com/example/knit_theories/knittheories/model/Builtin").before a0 Z = true := hw _ (List.mem_of_getElem? (i := 0) rfl)
theorem wd_1 {Z : State} {a0 : Array Value} (hw : ∀ d ∈ tables_1, d.before a0 Z = true) : (Jvm.Cond.arrayOver (Jvm.ClassFile.FieldType.object "com/example/knit_theories/knittheories/model/Builtin")).before a0 Z = true := hw _ (List.mem_of_getElem? (i := 1) rfl)
theorem wd_2 {Z : State} {a0 : Array Value} (hw : ∀ d ∈ tables_1, d.before a0 Z = true) : (Jvm.Cond.fieldLink "com/example/knit_theories/knittheories/model/BuiltinMakesNumeralsPinLaw" (9 : Nat) "com/example/knit_theories/knittheories/model/Builtin" "EQUAL" "Lcom/example/knit_theories/knittheories/model/Builtin;").before a0 Z = true := hw _ (List.mem_of_getElem? (i := 2) rfl)
theorem wd_6 {Z : State} {a0 : Array Value} (hw : ∀ d ∈ tables_1, d.before a0 Z = true) : (Jvm.Cond.fieldLink "com/example/knit_theories/knittheories/model/BuiltinMakesNumeralsPinLaw" (13 : Nat) "com/example/knit_theories/knittheories/model/Builtin" "UNEQUAL" "Lcom/example/knit_theories/knittheories/model/Builtin;").before a0 Z = true := hw _ (List.mem_of_getElem? (i := 6) rfl)
theorem wd_8 {Z : State} {a0 : Array Value} (hw : ∀ d ∈ tables_1, d.before a0 Z = true) : (Jvm.Cond.fieldLink "com/example/knit_theories/knittheories/model/BuiltinMakesNumeralsPinLaw" (16 : Nat) "com/example/knit_theories/knittheories/model/Builtin" "IF_THEN_ELSE" "Lcom/example/knit_theories/knittheories/model/Builtin;").before a0 Z = true := hw _ (List.mem_of_getElem? (i := 8) rfl)
theorem wd_10 {Z : State} {a0 : Array Value} (hw : ∀ d ∈ tables_1, d.before a0 Z = true) : (Jvm.Cond.fieldLink "com/example/knit_theories/knittheories/model/BuiltinMakesNumeralsPinLaw" (19 : Nat) "com/example/knit_theories/knittheories/model/Builtin" "SUCCESSOR" "Lcom/example/knit_theories/knittheories/model/Builtin;").before a0 Z = true := hw _ (List.mem_of_getElem? (i := 10) rfl)
theorem wd_12 {Z : State} {a0 : Array Value} (hw : ∀ d ∈ tables_1, d.before a0 Z = true) : (Jvm.Cond.fieldLink "com/example/knit_theories/knittheories/model/BuiltinMakesNumeralsPinLaw" (22 : Nat) "com/example/knit_theories/knittheories/model/Builtin" "NEGATION" "Lcom/example/knit_theories/knittheories/model/Builtin;").before a0 Z = true := hw _ (List.mem_of_getElem? (i := 12) rfl)
theorem wd_14 {Z : State} {a0 : Array Value} (hw : ∀ d ∈ tables_1, d.before a0 Z = true) : (Jvm.Cond.fieldLink "com/example/knit_theories/knittheories/model/BuiltinMakesNumeralsPinLaw" (25 : Nat) "com/example/knit_theories/knittheories/model/Builtin" "ADD" "Lcom/example/knit_theories/knittheories/model/Builtin;").before a0 Z = true := hw _ (List.mem_of_getElem? (i := 14) rfl)
theorem wd_16 {Z : State} {a0 : Array Value} (hw : ∀ d ∈ tables_1, d.before a0 Z = true) : (Jvm.Cond.fieldLink "com/example/knit_theories/knittheories/model/BuiltinMakesNumeralsPinLaw" (28 : Nat) "com/example/knit_theories/knittheories/model/Builtin" "SUBTRACT" "Lcom/example/knit_theories/knittheories/model/Builtin;").before a0 Z = true := hw _ (List.mem_of_getElem? (i := 16) rfl)
theorem wd_18 {Z : State} {a0 : Array Value} (hw : ∀ d ∈ tables_1, d.before a0 Z = true) : (Jvm.Cond.fieldLink "com/example/knit_theories/knittheories/model/BuiltinMakesNumeralsPinLaw" (31 : Nat) "com/example/knit_theories/knittheories/model/Builtin" "MULTIPLY" "Lcom/example/knit_theories/knittheories/model/Builtin;").before a0 Z = true := hw _ (List.mem_of_getElem? (i := 18) rfl)
theorem wd_20 {Z : State} {a0 : Array Value} (hw : ∀ d ∈ tables_1, d.before a0 Z = true) : (Jvm.Cond.fieldLink "com/example/knit_theories/knittheories/model/BuiltinMakesNumeralsPinLaw" (34 : Nat) "com/example/knit_theories/knittheories/model/Builtin" "DIVIDE" "Lcom/example/knit_theories/knittheories/model/Builtin;").before a0 Z = true := hw _ (List.mem_of_getElem? (i := 20) rfl)
theorem wd_22 {Z : State} {a0 : Array Value} (hw : ∀ d ∈ tables_1, d.before a0 Z = true) : (Jvm.Cond.fieldLink "com/example/knit_theories/knittheories/model/BuiltinMakesNumeralsPinLaw" (37 : Nat) "com/example/knit_theories/knittheories/model/Builtin" "QUOTIENT" "Lcom/example/knit_theories/knittheories/model/Builtin;").before a0 Z = true := hw _ (List.mem_of_getElem? (i := 22) rfl)
theorem wd_24 {Z : State} {a0 : Array Value} (hw : ∀ d ∈ tables_1, d.before a0 Z = true) : (Jvm.Cond.fieldLink "com/example/knit_theories/knittheories/model/BuiltinMakesNumeralsPinLaw" (40 : Nat) "com/example/knit_theories/knittheories/model/Builtin" "REMAINDER" "Lcom/example/knit_theories/knittheories/model/Builtin;").before a0 Z = true := hw _ (List.mem_of_getElem? (i := 24) rfl)
theorem wd_26 {Z : State} {a0 : Array Value} (hw : ∀ d ∈ tables_1, d.before a0 Z = true) : (Jvm.Cond.fieldLink "com/example/knit_theories/knittheories/model/BuiltinMakesNumeralsPinLaw" (43 : Nat) "com/example/knit_theories/knittheories/model/Builtin" "DISTANCE" "Lcom/example/knit_theories/knittheories/model/Builtin;").before a0 Z = true := hw _ (List.mem_of_getElem? (i := 26) rfl)
theorem wd_28 {Z : State} {a0 : Array Value} (hw : ∀ d ∈ tables_1, d.before a0 Z = true) : (Jvm.Cond.fieldLink "com/example/knit_theories/knittheories/model/BuiltinMakesNumeralsPinLaw" (46 : Nat) "com/example/knit_theories/knittheories/model/Builtin" "MAX" "Lcom/example/knit_theories/knittheories/model/Builtin;").before a0 Z = true := hw _ (List.mem_of_getElem? (i := 28) rfl)
theorem wd_30 {Z : State} {a0 : Array Value} (hw : ∀ d ∈ tables_1, d.before a0 Z = true) : (Jvm.Cond.fieldLink "com/example/knit_theories/knittheories/model/BuiltinMakesNumeralsPinLaw" (49 : Nat) "com/example/knit_theories/knittheories/model/Builtin" "MIN" "Lcom/example/knit_theories/knittheories/model/Builtin;").before a0 Z = true := hw _ (List.mem_of_getElem? (i := 30) rfl)
theorem wd_32 {Z : State} {a0 : Array Value} (hw : ∀ d ∈ tables_1, d.before a0 Z = true) : (Jvm.Cond.fieldLink "com/example/knit_theories/knittheories/model/BuiltinMakesNumeralsPinLaw" (52 : Nat) "com/example/knit_theories/knittheories/model/Builtin" "ABS" "Lcom/example/knit_theories/knittheories/model/Builtin;").before a0 Z = true := hw _ (List.mem_of_getElem? (i := 32) rfl)
theorem wd_34 {Z : State} {a0 : Array Value} (hw : ∀ d ∈ tables_1, d.before a0 Z = true) : (Jvm.Cond.fieldLink "com/example/knit_theories/knittheories/model/BuiltinMakesNumeralsPinLaw" (55 : Nat) "com/example/knit_theories/knittheories/model/Builtin" "LESS" "Lcom/example/knit_theories/knittheories/model/Builtin;").before a0 Z = true := hw _ (List.mem_of_getElem? (i := 34) rfl)
theorem wd_36 {Z : State} {a0 : Array Value} (hw : ∀ d ∈ tables_1, d.before a0 Z = true) : (Jvm.Cond.fieldLink "com/example/knit_theories/knittheories/model/BuiltinMakesNumeralsPinLaw" (58 : Nat) "com/example/knit_theories/knittheories/model/Builtin" "LESS_OR_EQUAL" "Lcom/example/knit_theories/knittheories/model/Builtin;").before a0 Z = true := hw _ (List.mem_of_getElem? (i := 36) rfl)
theorem wd_38 {Z : State} {a0 : Array Value} (hw : ∀ d ∈ tables_1, d.before a0 Z = true) : (Jvm.Cond.fieldLink "com/example/knit_theories/knittheories/model/BuiltinMakesNumeralsPinLaw" (61 : Nat) "com/example/knit_theories/knittheories/model/Builtin" "GREATER" "Lcom/example/knit_theories/knittheories/model/Builtin;").before a0 Z = true := hw _ (List.mem_of_getElem? (i := 38) rfl)
theorem wd_40 {Z : State} {a0 : Array Value} (hw : ∀ d ∈ tables_1, d.before a0 Z = true) : (Jvm.Cond.fieldLink "com/example/knit_theories/knittheories/model/BuiltinMakesNumeralsPinLaw" (64 : Nat) "com/example/knit_theories/knittheories/model/Builtin" "GREATER_OR_EQUAL" "Lcom/example/knit_theories/knittheories/model/Builtin;").before a0 Z = true := hw _ (List.mem_of_getElem? (i := 40) rfl)
theorem wd_42 {Z : State} {a0 : Array Value} (hw : ∀ d ∈ tables_1, d.before a0 Z = true) : (Jvm.Cond.fieldLink "com/example/knit_theories/knittheories/model/BuiltinMakesNumeralsPinLaw" (67 : Nat) "com/example/knit_theories/knittheories/model/Builtin" "MODEL_CHECK" "Lcom/example/knit_theories/knittheories/model/Builtin;").before a0 Z = true := hw _ (List.mem_of_getElem? (i := 42) rfl)
theorem wd_44 {Z : State} {a0 : Array Value} (hw : ∀ d ∈ tables_1, d.before a0 Z = true) : (Jvm.Cond.arrayClass Jvm.ClassFile.FieldType.boolean).before a0 Z = true := hw _ (List.mem_of_getElem? (i := 44) rfl)
theorem wd_45 {Z : State} {a0 : Array Value} (hw : ∀ d ∈ tables_1, d.before a0 Z = true) : (Jvm.Cond.constant "com/example/knit_theories/knittheories/model/BuiltinMakesNumeralsPinLaw" (70 : Nat) (2147483647 : Int32)).before a0 Z = true := hw _ (List.mem_of_getElem? (i := 45) rfl)
theorem wd_46 {Z : State} {a0 : Array Value} (hw : ∀ d ∈ tables_1, d.before a0 Z = true) : (Jvm.Cond.methodLink "com/example/knit_theories/knittheories/model/BuiltinMakesNumeralsPinLaw" (71 : Nat) ({ cls := "com/example/knit_theories/knittheories/model/Builtin", name := "makesNumerals", desc := "()Z" } : Jvm.MethodName)).before a0 Z = true := hw _ (List.mem_of_getElem? (i := 46) rfl)
theorem wd_50 {Z : State} {a0 : Array Value} (hw : ∀ d ∈ tables_1, d.before a0 Z = true) : (Jvm.Cond.code ({ cls := "com/example/knit_theories/knittheories/model/Builtin", name := "makesNumerals", desc := "()Z" } : Jvm.MethodName) prog_57_method_4_code (1 : Nat) (Option.some Jvm.ClassFile.FieldType.boolean)).before a0 Z = true := hw _ (List.mem_of_getElem? (i := 50) rfl)
theorem pd_0 : parseMethodDescriptor "()Z" = some ⟨[], some .boolean⟩ := by decide +kernel
theorem wd_49 {Z : State} {a0 : Array Value} (hw : ∀ d ∈ tables_1, d.before a0 Z = true) : (Jvm.Cond.selects "com/example/knit_theories/knittheories/model/Builtin" ({ cls := "com/example/knit_theories/knittheories/model/Builtin", name := "makesNumerals", desc := "()Z" } : Jvm.MethodName) ({ cls := "com/example/knit_theories/knittheories/model/Builtin", name := "makesNumerals", desc := "()Z" } : Jvm.MethodName)).before a0 Z = true := hw _ (List.mem_of_getElem? (i := 49) rfl)
theorem wd_47 {Z : State} {a0 : Array Value} (hw : ∀ d ∈ tables_1, d.before a0 Z = true) : (Jvm.Cond.declares ({ cls := "com/example/knit_theories/knittheories/model/Builtin", name := "makesNumerals", desc := "()Z" } : Jvm.MethodName)).before a0 Z = true := hw _ (List.mem_of_getElem? (i := 47) rfl)
theorem wd_48 {Z : State} {a0 : Array Value} (hw : ∀ d ∈ tables_1, d.before a0 Z = true) : (Jvm.Cond.instanceMethod ({ cls := "com/example/knit_theories/knittheories/model/Builtin", name := "makesNumerals", desc := "()Z" } : Jvm.MethodName)).before a0 Z = true := hw _ (List.mem_of_getElem? (i := 48) rfl)
theorem pn_com_example_knit_theories_knittheories_model_BuiltinMakesNumeralsPinLaw : plainName "com/example/knit_theories/knittheories/model/BuiltinMakesNumeralsPinLaw" = true := by first | (simp [plainName, overriddenIn]; done) | decide +kernel
theorem ef_law_1 (m : MethodId) (p0 : Int32) (ro0 : Addr) (ro1 : Addr) (ro2 : Addr) (ro3 : Addr) (ro4 : Addr) (ro5 : Addr) (ro6 : Addr) (ro7 : Addr) (ro8 : Addr) (ro9 : Addr) (ro10 : Addr) (ro11 : Addr) (ro12 : Addr) (ro13 : Addr) (ro14 : Addr) (ro15 : Addr) (ro16 : Addr) (ro17 : Addr) (ro18 : Addr) (ro19 : Addr) : entryFrame m #[(.int p0)] maxLocals = mkF m 0 #[.val (.int p0), .unset, .unset, .unset] [] := by first | rfl | (simp [entryFrame, mkF, argsToLocals, Value.category, maxLocals]; done)
set_option maxRecDepth 65536 in
set_option maxHeartbeats 40000000 in
theorem law_1 (l : Launch) (Z : State) (a0 : Array Value) (hw : ∀ d ∈ tables_1, d.before a0 Z = true) (p0 : Int32) (ro0 : Addr) (ro1 : Addr) (ro2 : Addr) (ro3 : Addr) (ro4 : Addr) (ro5 : Addr) (ro6 : Addr) (ro7 : Addr) (ro8 : Addr) (ro9 : Addr) (ro10 : Addr) (ro11 : Addr) (ro12 : Addr) (ro13 : Addr) (ro14 : Addr) (ro15 : Addr) (ro16 : Addr) (ro17 : Addr) (ro18 : Addr) (ro19 : Addr) (h0 : Heap) (n0 : Nat) (Z0 : n0 ≤ h0.size) (O0 : Old Z n0 h0) (G : Olds Z ro0 ro1 ro2 ro3 ro4 ro5 ro6 ro7 ro8 ro9 ro10 ro11 ro12 ro13 ro14 ro15 ro16 ro17 ro18 ro19) :
    Ctr l Z tables_1 x code maxLocals ret #[(.int p0)] h0 room_1 (fun v h L => v = some (.int (1 : Int32)) ∧ Fr n0 L) := by
  refine Ctr.of (plainFor_of_name pn_com_example_knit_theories_knittheories_model_BuiltinMakesNumeralsPinLaw) (fun m => ef_law_1 m p0 ro0 ro1 ro2 ro3 ro4 ro5 ro6 ro7 ro8 ro9 ro10 ro11 ro12 ro13 ro14 ro15 ro16 ro17 ro18 ro19) ?_
  intro p e s m below meth c T0 hx hZ hby hml hown hnm hret hlk X0 e0
  have N0 := Fr.nil n0
  have hret : meth.sig.returnType = some .boolean := hret
  show Rch p e below _ (T0.setTop (mkF m 0 #[.val (.int p0), .unset, .unset, .unset] []))
  refine Rch.go (fun t k => XS.bipush X0.here hx rfl (hb hby at_0) k) ?_
  show Rch p e below _ (T0.setTop (mkF m 2 #[.val (.int p0), .unset, .unset, .unset] [(.int (20 : Int32))]))
  obtain ⟨T1, h1, k1, X1, e1, E1, A1, B1, O1, st1⟩ := newRE X0 hx hZ hown (wd_0 hw) (wd_1 hw) e0 (g := (mkF m 2 #[.val (.int p0), .unset, .unset, .unset] [(.int (20 : Int32))])) rfl (hb hby at_2) rfl (by decide) (cap := 20) (by decide) (by decide) (by decide) (by decide) (ad := "[Lcom/example/knit_theories/knittheories/model/Builtin;") (by decide +kernel)
  obtain ⟨b1, g1⟩ : ∃ z, z = h0.size := ⟨_, rfl⟩
  rw [← g1] at A1 B1 st1
  refine Rch.go st1 ?_
  have z2 : n0 ≤ h1.size := (Nat.le_trans Z0 E1.1)
  have o3 := O0.ext E1
  have g_b1 : n0 ≤ b1 := Nat.le_trans Z0 (Nat.le_of_eq g1.symm)
  have V1 : Arv Z h1 b1 k1 (.object "com/example/knit_theories/knittheories/model/Builtin") (20 : Int32) [.null, .null, .null, .null, .null, .null, .null, .null, .null, .null, .null, .null, .null, .null, .null, .null, .null, .null, .null, .null] .null := (Arv.new A1 (by decide)).pad (pad_rep [] .null 20)
  show Rch p e below _ (T1.setTop (mkF m 5 #[.val (.int p0), .unset, .unset, .unset] [(.ref b1)]))
  refine Rch.go (fun t k => XS.dup X1.here hx rfl (hb hby at_5) rfl rfl k) ?_
  show Rch p e below _ (T1.setTop (mkF m 6 #[.val (.int p0), .unset, .unset, .unset] [(.ref b1), (.ref b1)]))
  refine Rch.go (fun t k => XS.iconst X1.here hx rfl (hb hby at_6) k) ?_
  show Rch p e below _ (T1.setTop (mkF m 7 #[.val (.int p0), .unset, .unset, .unset] [(.int (0 : Int32)), (.ref b1), (.ref b1)]))
  obtain ⟨T4, X4, e4, st4⟩ := getS2 X1 hx hZ hown (host := "") (Or.inl (wd_2 hw)) Via.refl e1 (G.1.ext o3.2) (g := (mkF m 7 #[.val (.int p0), .unset, .unset, .unset] [(.int (0 : Int32)), (.ref b1), (.ref b1)])) rfl (hb hby at_7)
  refine Rch.go st4 ?_
  show Rch p e below _ (T4.setTop (mkF m 10 #[.val (.int p0), .unset, .unset, .unset] [(.ref ro0), (.int (0 : Int32)), (.ref b1), (.ref b1)]))
  obtain ⟨c5, r5, q5, s5, u5, H5, G5⟩ := V1
  obtain ⟨T6, h6, X6, e6, W6, st6⟩ := stR X4 hx hZ e4 r5 (j := (0 : Int32)) (inb_of s5 (by decide)) rfl (Sto.ofV r5 q5 O1 (Ins.self (G.2.1.ext o3.2))) (g := (mkF m 10 #[.val (.int p0), .unset, .unset, .unset] [(.ref ro0), (.int (0 : Int32)), (.ref b1), (.ref b1)])) rfl rfl (hb hby at_10)
  refine Rch.go st6 ?_
  have V6 : Arv Z h6 b1 k1 (.object "com/example/knit_theories/knittheories/model/Builtin") (20 : Int32) [(.ref ro0), .null, .null, .null, .null, .null, .null, .null, .null, .null, .null, .null, .null, .null, .null, .null, .null, .null, .null, .null] .null := Arv.set r5 q5 s5 u5 H5 G5 rfl W6 0 rfl (Nat.le_of_ble_eq_true rfl)
  have z7 : n0 ≤ h6.size := (Nat.le_trans z2 (Nat.le_of_eq W6.size.symm))
  have o8 := o3.wr W6 g_b1
  have N6 := Fr.snoc X6 N0 g_b1
  show Rch p e below _ (T6.setTop (mkF m 11 #[.val (.int p0), .unset, .unset, .unset] [(.ref b1)]))
  refine Rch.go (fun t k => XS.dup X6.here hx rfl (hb hby at_11) rfl rfl k) ?_
  show Rch p e below _ (T6.setTop (mkF m 12 #[.val (.int p0), .unset, .unset, .unset] [(.ref b1), (.ref b1)]))
  refine Rch.go (fun t k => XS.iconst X6.here hx rfl (hb hby at_12) k) ?_
  show Rch p e below _ (T6.setTop (mkF m 13 #[.val (.int p0), .unset, .unset, .unset] [(.int (1 : Int32)), (.ref b1), (.ref b1)]))
  obtain ⟨T9, X9, e9, st9⟩ := getS2 X6 hx hZ hown (host := "") (Or.inl (wd_6 hw)) Via.refl e6 (G.2.2.1.ext o8.2) (g := (mkF m 13 #[.val (.int p0), .unset, .unset, .unset] [(.int (1 : Int32)), (.ref b1), (.ref b1)])) rfl (hb hby at_13)
  refine Rch.go st9 ?_
  show Rch p e below _ (T9.setTop (mkF m 16 #[.val (.int p0), .unset, .unset, .unset] [(.ref ro1), (.int (1 : Int32)), (.ref b1), (.ref b1)]))
  obtain ⟨c10, r10, q10, s10, u10, H10, G10⟩ := V6
  obtain ⟨T11, h11, X11, e11, W11, st11⟩ := stR X9 hx hZ e9 r10 (j := (1 : Int32)) (inb_of s10 (by decide)) rfl (Sto.ofV r10 q10 O1 (Ins.self (G.2.2.2.1.ext o8.2))) (g := (mkF m 16 #[.val (.int p0), .unset, .unset, .unset] [(.ref ro1), (.int (1 : Int32)), (.ref b1), (.ref b1)])) rfl rfl (hb hby at_16)
  refine Rch.go st11 ?_
  have V11 : Arv Z h11 b1 k1 (.object "com/example/knit_theories/knittheories/model/Builtin") (20 : Int32) [(.ref ro0), (.ref ro1), .null, .null, .null, .null, .null, .null, .null, .null, .null, .null, .null, .null, .null, .null, .null, .null, .null, .null] .null := Arv.set r10 q10 s10 u10 H10 G10 rfl W11 1 rfl (Nat.le_of_ble_eq_true rfl)
  have z12 : n0 ≤ h11.size := (Nat.le_trans z7 (Nat.le_of_eq W11.size.symm))
  have o13 := o8.wr W11 g_b1
  have N11 := Fr.snoc X11 N6 g_b1
  show Rch p e below _ (T11.setTop (mkF m 17 #[.val (.int p0), .unset, .unset, .unset] [(.ref b1)]))
  refine Rch.go (fun t k => XS.dup X11.here hx rfl (hb hby at_17) rfl rfl k) ?_
  show Rch p e below _ (T11.setTop (mkF m 18 #[.val (.int p0), .unset, .unset, .unset] [(.ref b1), (.ref b1)]))
  refine Rch.go (fun t k => XS.iconst X11.here hx rfl (hb hby at_18) k) ?_
  show Rch p e below _ (T11.setTop (mkF m 19 #[.val (.int p0), .unset, .unset, .unset] [(.int (2 : Int32)), (.ref b1), (.ref b1)]))
  obtain ⟨T14, X14, e14, st14⟩ := getS2 X11 hx hZ hown (host := "") (Or.inl (wd_8 hw)) Via.refl e11 (G.2.2.2.2.1.ext o13.2) (g := (mkF m 19 #[.val (.int p0), .unset, .unset, .unset] [(.int (2 : Int32)), (.ref b1), (.ref b1)])) rfl (hb hby at_19)
  refine Rch.go st14 ?_
  show Rch p e below _ (T14.setTop (mkF m 22 #[.val (.int p0), .unset, .unset, .unset] [(.ref ro2), (.int (2 : Int32)), (.ref b1), (.ref b1)]))
  obtain ⟨c15, r15, q15, s15, u15, H15, G15⟩ := V11
  obtain ⟨T16, h16, X16, e16, W16, st16⟩ := stR X14 hx hZ e14 r15 (j := (2 : Int32)) (inb_of s15 (by decide)) rfl (Sto.ofV r15 q15 O1 (Ins.self (G.2.2.2.2.2.1.ext o13.2))) (g := (mkF m 22 #[.val (.int p0), .unset, .unset, .unset] [(.ref ro2), (.int (2 : Int32)), (.ref b1), (.ref b1)])) rfl rfl (hb hby at_22)
  refine Rch.go st16 ?_
  have V16 : Arv Z h16 b1 k1 (.object "com/example/knit_theories/knittheories/model/Builtin") (20 : Int32) [(.ref ro0), (.ref ro1), (.ref ro2), .null, .null, .null, .null, .null, .null, .null, .null, .null, .null, .null, .null, .null, .null, .null, .null, .null] .null := Arv.set r15 q15 s15 u15 H15 G15 rfl W16 2 rfl (Nat.le_of_ble_eq_true rfl)
  have z17 : n0 ≤ h16.size := (Nat.le_trans z12 (Nat.le_of_eq W16.size.symm))
  have o18 := o13.wr W16 g_b1
  have N16 := Fr.snoc X16 N11 g_b1
  show Rch p e below _ (T16.setTop (mkF m 23 #[.val (.int p0), .unset, .unset, .unset] [(.ref b1)]))
  refine Rch.go (fun t k => XS.dup X16.here hx rfl (hb hby at_23) rfl rfl k) ?_
  show Rch p e below _ (T16.setTop (mkF m 24 #[.val (.int p0), .unset, .unset, .unset] [(.ref b1), (.ref b1)]))
  refine Rch.go (fun t k => XS.iconst X16.here hx rfl (hb hby at_24) k) ?_
  show Rch p e below _ (T16.setTop (mkF m 25 #[.val (.int p0), .unset, .unset, .unset] [(.int (3 : Int32)), (.ref b1), (.ref b1)]))
  obtain ⟨T19, X19, e19, st19⟩ := getS2 X16 hx hZ hown (host := "") (Or.inl (wd_10 hw)) Via.refl e16 (G.2.2.2.2.2.2.1.ext o18.2) (g := (mkF m 25 #[.val (.int p0), .unset, .unset, .unset] [(.int (3 : Int32)), (.ref b1), (.ref b1)])) rfl (hb hby at_25)
  refine Rch.go st19 ?_
  show Rch p e below _ (T19.setTop (mkF m 28 #[.val (.int p0), .unset, .unset, .unset] [(.ref ro3), (.int (3 : Int32)), (.ref b1), (.ref b1)]))
  obtain ⟨c20, r20, q20, s20, u20, H20, G20⟩ := V16
  obtain ⟨T21, h21, X21, e21, W21, st21⟩ := stR X19 hx hZ e19 r20 (j := (3 : Int32)) (inb_of s20 (by decide)) rfl (Sto.ofV r20 q20 O1 (Ins.self (G.2.2.2.2.2.2.2.1.ext o18.2))) (g := (mkF m 28 #[.val (.int p0), .unset, .unset, .unset] [(.ref ro3), (.int (3 : Int32)), (.ref b1), (.ref b1)])) rfl rfl (hb hby at_28)
  refine Rch.go st21 ?_
  have V21 : Arv Z h21 b1 k1 (.object "com/example/knit_theories/knittheories/model/Builtin") (20 : Int32) [(.ref ro0), (.ref ro1), (.ref ro2), (.ref ro3), .null, .null, .null, .null, .null, .null, .null, .null, .null, .null, .null, .null, .null, .null, .null, .null] .null := Arv.set r20 q20 s20 u20 H20 G20 rfl W21 3 rfl (Nat.le_of_ble_eq_true rfl)
  have z22 : n0 ≤ h21.size := (Nat.le_trans z17 (Nat.le_of_eq W21.size.symm))
  have o23 := o18.wr W21 g_b1
  have N21 := Fr.snoc X21 N16 g_b1
  show Rch p e below _ (T21.setTop (mkF m 29 #[.val (.int p0), .unset, .unset, .unset] [(.ref b1)]))
  refine Rch.go (fun t k => XS.dup X21.here hx rfl (hb hby at_29) rfl rfl k) ?_
  show Rch p e below _ (T21.setTop (mkF m 30 #[.val (.int p0), .unset, .unset, .unset] [(.ref b1), (.ref b1)]))
  refine Rch.go (fun t k => XS.iconst X21.here hx rfl (hb hby at_30) k) ?_
  show Rch p e below _ (T21.setTop (mkF m 31 #[.val (.int p0), .unset, .unset, .unset] [(.int (4 : Int32)), (.ref b1), (.ref b1)]))
  obtain ⟨T24, X24, e24, st24⟩ := getS2 X21 hx hZ hown (host := "") (Or.inl (wd_12 hw)) Via.refl e21 (G.2.2.2.2.2.2.2.2.1.ext o23.2) (g := (mkF m 31 #[.val (.int p0), .unset, .unset, .unset] [(.int (4 : Int32)), (.ref b1), (.ref b1)])) rfl (hb hby at_31)
  refine Rch.go st24 ?_
  show Rch p e below _ (T24.setTop (mkF m 34 #[.val (.int p0), .unset, .unset, .unset] [(.ref ro4), (.int (4 : Int32)), (.ref b1), (.ref b1)]))
  obtain ⟨c25, r25, q25, s25, u25, H25, G25⟩ := V21
  obtain ⟨T26, h26, X26, e26, W26, st26⟩ := stR X24 hx hZ e24 r25 (j := (4 : Int32)) (inb_of s25 (by decide)) rfl (Sto.ofV r25 q25 O1 (Ins.self (G.2.2.2.2.2.2.2.2.2.1.ext o23.2))) (g := (mkF m 34 #[.val (.int p0), .unset, .unset, .unset] [(.ref ro4), (.int (4 : Int32)), (.ref b1), (.ref b1)])) rfl rfl (hb hby at_34)
  refine Rch.go st26 ?_
  have V26 : Arv Z h26 b1 k1 (.object "com/example/knit_theories/knittheories/model/Builtin") (20 : Int32) [(.ref ro0), (.ref ro1), (.ref ro2), (.ref ro3), (.ref ro4), .null, .null, .null, .null, .null, .null, .null, .null, .null, .null, .null, .null, .null, .null, .null] .null := Arv.set r25 q25 s25 u25 H25 G25 rfl W26 4 rfl (Nat.le_of_ble_eq_true rfl)
  have z27 : n0 ≤ h26.size := (Nat.le_trans z22 (Nat.le_of_eq W26.size.symm))
  have o28 := o23.wr W26 g_b1
  have N26 := Fr.snoc X26 N21 g_b1
  show Rch p e below _ (T26.setTop (mkF m 35 #[.val (.int p0), .unset, .unset, .unset] [(.ref b1)]))
  refine Rch.go (fun t k => XS.dup X26.here hx rfl (hb hby at_35) rfl rfl k) ?_
  show Rch p e below _ (T26.setTop (mkF m 36 #[.val (.int p0), .unset, .unset, .unset] [(.ref b1), (.ref b1)]))
  refine Rch.go (fun t k => XS.iconst X26.here hx rfl (hb hby at_36) k) ?_
  show Rch p e below _ (T26.setTop (mkF m 37 #[.val (.int p0), .unset, .unset, .unset] [(.int (5 : Int32)), (.ref b1), (.ref b1)]))
  obtain ⟨T29, X29, e29, st29⟩ := getS2 X26 hx hZ hown (host := "") (Or.inl (wd_14 hw)) Via.refl e26 (G.2.2.2.2.2.2.2.2.2.2.1.ext o28.2) (g := (mkF m 37 #[.val (.int p0), .unset, .unset, .unset] [(.int (5 : Int32)), (.ref b1), (.ref b1)])) rfl (hb hby at_37)
  refine Rch.go st29 ?_
  show Rch p e below _ (T29.setTop (mkF m 40 #[.val (.int p0), .unset, .unset, .unset] [(.ref ro5), (.int (5 : Int32)), (.ref b1), (.ref b1)]))
  obtain ⟨c30, r30, q30, s30, u30, H30, G30⟩ := V26
  obtain ⟨T31, h31, X31, e31, W31, st31⟩ := stR X29 hx hZ e29 r30 (j := (5 : Int32)) (inb_of s30 (by decide)) rfl (Sto.ofV r30 q30 O1 (Ins.self (G.2.2.2.2.2.2.2.2.2.2.2.1.ext o28.2))) (g := (mkF m 40 #[.val (.int p0), .unset, .unset, .unset] [(.ref ro5), (.int (5 : Int32)), (.ref b1), (.ref b1)])) rfl rfl (hb hby at_40)
  refine Rch.go st31 ?_
  have V31 : Arv Z h31 b1 k1 (.object "com/example/knit_theories/knittheories/model/Builtin") (20 : Int32) [(.ref ro0), (.ref ro1), (.ref ro2), (.ref ro3), (.ref ro4), (.ref ro5), .null, .null, .null, .null, .null, .null, .null, .null, .null, .null, .null, .null, .null, .null] .null := Arv.set r30 q30 s30 u30 H30 G30 rfl W31 5 rfl (Nat.le_of_ble_eq_true rfl)
  have z32 : n0 ≤ h31.size := (Nat.le_trans z27 (Nat.le_of_eq W31.size.symm))
  have o33 := o28.wr W31 g_b1
  have N31 := Fr.snoc X31 N26 g_b1
  show Rch p e below _ (T31.setTop (mkF m 41 #[.val (.int p0), .unset, .unset, .unset] [(.ref b1)]))
  refine Rch.go (fun t k => XS.dup X31.here hx rfl (hb hby at_41) rfl rfl k) ?_
  show Rch p e below _ (T31.setTop (mkF m 42 #[.val (.int p0), .unset, .unset, .unset] [(.ref b1), (.ref b1)]))
  refine Rch.go (fun t k => XS.bipush X31.here hx rfl (hb hby at_42) k) ?_
  show Rch p e below _ (T31.setTop (mkF m 44 #[.val (.int p0), .unset, .unset, .unset] [(.int (6 : Int32)), (.ref b1), (.ref b1)]))
  obtain ⟨T34, X34, e34, st34⟩ := getS2 X31 hx hZ hown (host := "") (Or.inl (wd_16 hw)) Via.refl e31 (G.2.2.2.2.2.2.2.2.2.2.2.2.1.ext o33.2) (g := (mkF m 44 #[.val (.int p0), .unset, .unset, .unset] [(.int (6 : Int32)), (.ref b1), (.ref b1)])) rfl (hb hby at_44)
  refine Rch.go st34 ?_
  show Rch p e below _ (T34.setTop (mkF m 47 #[.val (.int p0), .unset, .unset, .unset] [(.ref ro6), (.int (6 : Int32)), (.ref b1), (.ref b1)]))
  obtain ⟨c35, r35, q35, s35, u35, H35, G35⟩ := V31
  obtain ⟨T36, h36, X36, e36, W36, st36⟩ := stR X34 hx hZ e34 r35 (j := (6 : Int32)) (inb_of s35 (by decide)) rfl (Sto.ofV r35 q35 O1 (Ins.self (G.2.2.2.2.2.2.2.2.2.2.2.2.2.1.ext o33.2))) (g := (mkF m 47 #[.val (.int p0), .unset, .unset, .unset] [(.ref ro6), (.int (6 : Int32)), (.ref b1), (.ref b1)])) rfl rfl (hb hby at_47)
  refine Rch.go st36 ?_
  have V36 : Arv Z h36 b1 k1 (.object "com/example/knit_theories/knittheories/model/Builtin") (20 : Int32) [(.ref ro0), (.ref ro1), (.ref ro2), (.ref ro3), (.ref ro4), (.ref ro5), (.ref ro6), .null, .null, .null, .null, .null, .null, .null, .null, .null, .null, .null, .null, .null] .null := Arv.set r35 q35 s35 u35 H35 G35 rfl W36 6 rfl (Nat.le_of_ble_eq_true rfl)
  have z37 : n0 ≤ h36.size := (Nat.le_trans z32 (Nat.le_of_eq W36.size.symm))
  have o38 := o33.wr W36 g_b1
  have N36 := Fr.snoc X36 N31 g_b1
  show Rch p e below _ (T36.setTop (mkF m 48 #[.val (.int p0), .unset, .unset, .unset] [(.ref b1)]))
  refine Rch.go (fun t k => XS.dup X36.here hx rfl (hb hby at_48) rfl rfl k) ?_
  show Rch p e below _ (T36.setTop (mkF m 49 #[.val (.int p0), .unset, .unset, .unset] [(.ref b1), (.ref b1)]))
  refine Rch.go (fun t k => XS.bipush X36.here hx rfl (hb hby at_49) k) ?_
  show Rch p e below _ (T36.setTop (mkF m 51 #[.val (.int p0), .unset, .unset, .unset] [(.int (7 : Int32)), (.ref b1), (.ref b1)]))
  obtain ⟨T39, X39, e39, st39⟩ := getS2 X36 hx hZ hown (host := "") (Or.inl (wd_18 hw)) Via.refl e36 (G.2.2.2.2.2.2.2.2.2.2.2.2.2.2.1.ext o38.2) (g := (mkF m 51 #[.val (.int p0), .unset, .unset, .unset] [(.int (7 : Int32)), (.ref b1), (.ref b1)])) rfl (hb hby at_51)
  refine Rch.go st39 ?_
  show Rch p e below _ (T39.setTop (mkF m 54 #[.val (.int p0), .unset, .unset, .unset] [(.ref ro7), (.int (7 : Int32)), (.ref b1), (.ref b1)]))
  obtain ⟨c40, r40, q40, s40, u40, H40, G40⟩ := V36
  obtain ⟨T41, h41, X41, e41, W41, st41⟩ := stR X39 hx hZ e39 r40 (j := (7 : Int32)) (inb_of s40 (by decide)) rfl (Sto.ofV r40 q40 O1 (Ins.self (G.2.2.2.2.2.2.2.2.2.2.2.2.2.2.2.1.ext o38.2))) (g := (mkF m 54 #[.val (.int p0), .unset, .unset, .unset] [(.ref ro7), (.int (7 : Int32)), (.ref b1), (.ref b1)])) rfl rfl (hb hby at_54)
  refine Rch.go st41 ?_
  have V41 : Arv Z h41 b1 k1 (.object "com/example/knit_theories/knittheories/model/Builtin") (20 : Int32) [(.ref ro0), (.ref ro1), (.ref ro2), (.ref ro3), (.ref ro4), (.ref ro5), (.ref ro6), (.ref ro7), .null, .null, .null, .null, .null, .null, .null, .null, .null, .null, .null, .null] .null := Arv.set r40 q40 s40 u40 H40 G40 rfl W41 7 rfl (Nat.le_of_ble_eq_true rfl)
  have z42 : n0 ≤ h41.size := (Nat.le_trans z37 (Nat.le_of_eq W41.size.symm))
  have o43 := o38.wr W41 g_b1
  have N41 := Fr.snoc X41 N36 g_b1
  show Rch p e below _ (T41.setTop (mkF m 55 #[.val (.int p0), .unset, .unset, .unset] [(.ref b1)]))
  refine Rch.go (fun t k => XS.dup X41.here hx rfl (hb hby at_55) rfl rfl k) ?_
  show Rch p e below _ (T41.setTop (mkF m 56 #[.val (.int p0), .unset, .unset, .unset] [(.ref b1), (.ref b1)]))
  refine Rch.go (fun t k => XS.bipush X41.here hx rfl (hb hby at_56) k) ?_
  show Rch p e below _ (T41.setTop (mkF m 58 #[.val (.int p0), .unset, .unset, .unset] [(.int (8 : Int32)), (.ref b1), (.ref b1)]))
  obtain ⟨T44, X44, e44, st44⟩ := getS2 X41 hx hZ hown (host := "") (Or.inl (wd_20 hw)) Via.refl e41 (G.2.2.2.2.2.2.2.2.2.2.2.2.2.2.2.2.1.ext o43.2) (g := (mkF m 58 #[.val (.int p0), .unset, .unset, .unset] [(.int (8 : Int32)), (.ref b1), (.ref b1)])) rfl (hb hby at_58)
  refine Rch.go st44 ?_
  show Rch p e below _ (T44.setTop (mkF m 61 #[.val (.int p0), .unset, .unset, .unset] [(.ref ro8), (.int (8 : Int32)), (.ref b1), (.ref b1)]))
  obtain ⟨c45, r45, q45, s45, u45, H45, G45⟩ := V41
  obtain ⟨T46, h46, X46, e46, W46, st46⟩ := stR X44 hx hZ e44 r45 (j := (8 : Int32)) (inb_of s45 (by decide)) rfl (Sto.ofV r45 q45 O1 (Ins.self (G.2.2.2.2.2.2.2.2.2.2.2.2.2.2.2.2.2.1.ext o43.2))) (g := (mkF m 61 #[.val (.int p0), .unset, .unset, .unset] [(.ref ro8), (.int (8 : Int32)), (.ref b1), (.ref b1)])) rfl rfl (hb hby at_61)
  refine Rch.go st46 ?_
  have V46 : Arv Z h46 b1 k1 (.object "com/example/knit_theories/knittheories/model/Builtin") (20 : Int32) [(.ref ro0), (.ref ro1), (.ref ro2), (.ref ro3), (.ref ro4), (.ref ro5), (.ref ro6), (.ref ro7), (.ref ro8), .null, .null, .null, .null, .null, .null, .null, .null, .null, .null, .null] .null := Arv.set r45 q45 s45 u45 H45 G45 rfl W46 8 rfl (Nat.le_of_ble_eq_true rfl)
  have z47 : n0 ≤ h46.size := (Nat.le_trans z42 (Nat.le_of_eq W46.size.symm))
  have o48 := o43.wr W46 g_b1
  have N46 := Fr.snoc X46 N41 g_b1
  show Rch p e below _ (T46.setTop (mkF m 62 #[.val (.int p0), .unset, .unset, .unset] [(.ref b1)]))
  refine Rch.go (fun t k => XS.dup X46.here hx rfl (hb hby at_62) rfl rfl k) ?_
  show Rch p e below _ (T46.setTop (mkF m 63 #[.val (.int p0), .unset, .unset, .unset] [(.ref b1), (.ref b1)]))
  refine Rch.go (fun t k => XS.bipush X46.here hx rfl (hb hby at_63) k) ?_
  show Rch p e below _ (T46.setTop (mkF m 65 #[.val (.int p0), .unset, .unset, .unset] [(.int (9 : Int32)), (.ref b1), (.ref b1)]))
  obtain ⟨T49, X49, e49, st49⟩ := getS2 X46 hx hZ hown (host := "") (Or.inl (wd_22 hw)) Via.refl e46 (G.2.2.2.2.2.2.2.2.2.2.2.2.2.2.2.2.2.2.1.ext o48.2) (g := (mkF m 65 #[.val (.int p0), .unset, .unset, .unset] [(.int (9 : Int32)), (.ref b1), (.ref b1)])) rfl (hb hby at_65)
  refine Rch.go st49 ?_
  show Rch p e below _ (T49.setTop (mkF m 68 #[.val (.int p0), .unset, .unset, .unset] [(.ref ro9), (.int (9 : Int32)), (.ref b1), (.ref b1)]))
  obtain ⟨c50, r50, q50, s50, u50, H50, G50⟩ := V46
  obtain ⟨T51, h51, X51, e51, W51, st51⟩ := stR X49 hx hZ e49 r50 (j := (9 : Int32)) (inb_of s50 (by decide)) rfl (Sto.ofV r50 q50 O1 (Ins.self (G.2.2.2.2.2.2.2.2.2.2.2.2.2.2.2.2.2.2.2.1.ext o48.2))) (g := (mkF m 68 #[.val (.int p0), .unset, .unset, .unset] [(.ref ro9), (.int (9 : Int32)), (.ref b1), (.ref b1)])) rfl rfl (hb hby at_68)
  refine Rch.go st51 ?_
  have V51 : Arv Z h51 b1 k1 (.object "com/example/knit_theories/knittheories/model/Builtin") (20 : Int32) [(.ref ro0), (.ref ro1), (.ref ro2), (.ref ro3), (.ref ro4), (.ref ro5), (.ref ro6), (.ref ro7), (.ref ro8), (.ref ro9), .null, .null, .null, .null, .null, .null, .null, .null, .null, .null] .null := Arv.set r50 q50 s50 u50 H50 G50 rfl W51 9 rfl (Nat.le_of_ble_eq_true rfl)
  have z52 : n0 ≤ h51.size := (Nat.le_trans z47 (Nat.le_of_eq W51.size.symm))
  have o53 := o48.wr W51 g_b1
  have N51 := Fr.snoc X51 N46 g_b1
  show Rch p e below _ (T51.setTop (mkF m 69 #[.val (.int p0), .unset, .unset, .unset] [(.ref b1)]))
  refine Rch.go (fun t k => XS.dup X51.here hx rfl (hb hby at_69) rfl rfl k) ?_
  show Rch p e below _ (T51.setTop (mkF m 70 #[.val (.int p0), .unset, .unset, .unset] [(.ref b1), (.ref b1)]))
  refine Rch.go (fun t k => XS.bipush X51.here hx rfl (hb hby at_70) k) ?_
  show Rch p e below _ (T51.setTop (mkF m 72 #[.val (.int p0), .unset, .unset, .unset] [(.int (10 : Int32)), (.ref b1), (.ref b1)]))
  obtain ⟨T54, X54, e54, st54⟩ := getS2 X51 hx hZ hown (host := "") (Or.inl (wd_24 hw)) Via.refl e51 (G.2.2.2.2.2.2.2.2.2.2.2.2.2.2.2.2.2.2.2.2.1.ext o53.2) (g := (mkF m 72 #[.val (.int p0), .unset, .unset, .unset] [(.int (10 : Int32)), (.ref b1), (.ref b1)])) rfl (hb hby at_72)
  refine Rch.go st54 ?_
  show Rch p e below _ (T54.setTop (mkF m 75 #[.val (.int p0), .unset, .unset, .unset] [(.ref ro10), (.int (10 : Int32)), (.ref b1), (.ref b1)]))
  obtain ⟨c55, r55, q55, s55, u55, H55, G55⟩ := V51
  obtain ⟨T56, h56, X56, e56, W56, st56⟩ := stR X54 hx hZ e54 r55 (j := (10 : Int32)) (inb_of s55 (by decide)) rfl (Sto.ofV r55 q55 O1 (Ins.self (G.2.2.2.2.2.2.2.2.2.2.2.2.2.2.2.2.2.2.2.2.2.1.ext o53.2))) (g := (mkF m 75 #[.val (.int p0), .unset, .unset, .unset] [(.ref ro10), (.int (10 : Int32)), (.ref b1), (.ref b1)])) rfl rfl (hb hby at_75)
  refine Rch.go st56 ?_
  have V56 : Arv Z h56 b1 k1 (.object "com/example/knit_theories/knittheories/model/Builtin") (20 : Int32) [(.ref ro0), (.ref ro1), (.ref ro2), (.ref ro3), (.ref ro4), (.ref ro5), (.ref ro6), (.ref ro7), (.ref ro8), (.ref ro9), (.ref ro10), .null, .null, .null, .null, .null, .null, .null, .null, .null] .null := Arv.set r55 q55 s55 u55 H55 G55 rfl W56 10 rfl (Nat.le_of_ble_eq_true rfl)
  have z57 : n0 ≤ h56.size := (Nat.le_trans z52 (Nat.le_of_eq W56.size.symm))
  have o58 := o53.wr W56 g_b1
  have N56 := Fr.snoc X56 N51 g_b1
  show Rch p e below _ (T56.setTop (mkF m 76 #[.val (.int p0), .unset, .unset, .unset] [(.ref b1)]))
  refine Rch.go (fun t k => XS.dup X56.here hx rfl (hb hby at_76) rfl rfl k) ?_
  show Rch p e below _ (T56.setTop (mkF m 77 #[.val (.int p0), .unset, .unset, .unset] [(.ref b1), (.ref b1)]))
  refine Rch.go (fun t k => XS.bipush X56.here hx rfl (hb hby at_77) k) ?_
  show Rch p e below _ (T56.setTop (mkF m 79 #[.val (.int p0), .unset, .unset, .unset] [(.int (11 : Int32)), (.ref b1), (.ref b1)]))
  obtain ⟨T59, X59, e59, st59⟩ := getS2 X56 hx hZ hown (host := "") (Or.inl (wd_26 hw)) Via.refl e56 (G.2.2.2.2.2.2.2.2.2.2.2.2.2.2.2.2.2.2.2.2.2.2.1.ext o58.2) (g := (mkF m 79 #[.val (.int p0), .unset, .unset, .unset] [(.int (11 : Int32)), (.ref b1), (.ref b1)])) rfl (hb hby at_79)
  refine Rch.go st59 ?_
  show Rch p e below _ (T59.setTop (mkF m 82 #[.val (.int p0), .unset, .unset, .unset] [(.ref ro11), (.int (11 : Int32)), (.ref b1), (.ref b1)]))
  obtain ⟨c60, r60, q60, s60, u60, H60, G60⟩ := V56
  obtain ⟨T61, h61, X61, e61, W61, st61⟩ := stR X59 hx hZ e59 r60 (j := (11 : Int32)) (inb_of s60 (by decide)) rfl (Sto.ofV r60 q60 O1 (Ins.self (G.2.2.2.2.2.2.2.2.2.2.2.2.2.2.2.2.2.2.2.2.2.2.2.1.ext o58.2))) (g := (mkF m 82 #[.val (.int p0), .unset, .unset, .unset] [(.ref ro11), (.int (11 : Int32)), (.ref b1), (.ref b1)])) rfl rfl (hb hby at_82)
  refine Rch.go st61 ?_
  have V61 : Arv Z h61 b1 k1 (.object "com/example/knit_theories/knittheories/model/Builtin") (20 : Int32) [(.ref ro0), (.ref ro1), (.ref ro2), (.ref ro3), (.ref ro4), (.ref ro5), (.ref ro6), (.ref ro7), (.ref ro8), (.ref ro9), (.ref ro10), (.ref ro11), .null, .null, .null, .null, .null, .null, .null, .null] .null := Arv.set r60 q60 s60 u60 H60 G60 rfl W61 11 rfl (Nat.le_of_ble_eq_true rfl)
  have z62 : n0 ≤ h61.size := (Nat.le_trans z57 (Nat.le_of_eq W61.size.symm))
  have o63 := o58.wr W61 g_b1
  have N61 := Fr.snoc X61 N56 g_b1
  show Rch p e below _ (T61.setTop (mkF m 83 #[.val (.int p0), .unset, .unset, .unset] [(.ref b1)]))
  refine Rch.go (fun t k => XS.dup X61.here hx rfl (hb hby at_83) rfl rfl k) ?_
  show Rch p e below _ (T61.setTop (mkF m 84 #[.val (.int p0), .unset, .unset, .unset] [(.ref b1), (.ref b1)]))
  refine Rch.go (fun t k => XS.bipush X61.here hx rfl (hb hby at_84) k) ?_
  show Rch p e below _ (T61.setTop (mkF m 86 #[.val (.int p0), .unset, .unset, .unset] [(.int (12 : Int32)), (.ref b1), (.ref b1)]))
  obtain ⟨T64, X64, e64, st64⟩ := getS2 X61 hx hZ hown (host := "") (Or.inl (wd_28 hw)) Via.refl e61 (G.2.2.2.2.2.2.2.2.2.2.2.2.2.2.2.2.2.2.2.2.2.2.2.2.1.ext o63.2) (g := (mkF m 86 #[.val (.int p0), .unset, .unset, .unset] [(.int (12 : Int32)), (.ref b1), (.ref b1)])) rfl (hb hby at_86)
  refine Rch.go st64 ?_
  show Rch p e below _ (T64.setTop (mkF m 89 #[.val (.int p0), .unset, .unset, .unset] [(.ref ro12), (.int (12 : Int32)), (.ref b1), (.ref b1)]))
  obtain ⟨c65, r65, q65, s65, u65, H65, G65⟩ := V61
  obtain ⟨T66, h66, X66, e66, W66, st66⟩ := stR X64 hx hZ e64 r65 (j := (12 : Int32)) (inb_of s65 (by decide)) rfl (Sto.ofV r65 q65 O1 (Ins.self (G.2.2.2.2.2.2.2.2.2.2.2.2.2.2.2.2.2.2.2.2.2.2.2.2.2.1.ext o63.2))) (g := (mkF m 89 #[.val (.int p0), .unset, .unset, .unset] [(.ref ro12), (.int (12 : Int32)), (.ref b1), (.ref b1)])) rfl rfl (hb hby at_89)
  refine Rch.go st66 ?_
  have V66 : Arv Z h66 b1 k1 (.object "com/example/knit_theories/knittheories/model/Builtin") (20 : Int32) [(.ref ro0), (.ref ro1), (.ref ro2), (.ref ro3), (.ref ro4), (.ref ro5), (.ref ro6), (.ref ro7), (.ref ro8), (.ref ro9), (.ref ro10), (.ref ro11), (.ref ro12), .null, .null, .null, .null, .null, .null, .null] .null := Arv.set r65 q65 s65 u65 H65 G65 rfl W66 12 rfl (Nat.le_of_ble_eq_true rfl)
  have z67 : n0 ≤ h66.size := (Nat.le_trans z62 (Nat.le_of_eq W66.size.symm))
  have o68 := o63.wr W66 g_b1
  have N66 := Fr.snoc X66 N61 g_b1
  show Rch p e below _ (T66.setTop (mkF m 90 #[.val (.int p0), .unset, .unset, .unset] [(.ref b1)]))
  refine Rch.go (fun t k => XS.dup X66.here hx rfl (hb hby at_90) rfl rfl k) ?_
  show Rch p e below _ (T66.setTop (mkF m 91 #[.val (.int p0), .unset, .unset, .unset] [(.ref b1), (.ref b1)]))
  refine Rch.go (fun t k => XS.bipush X66.here hx rfl (hb hby at_91) k) ?_
  show Rch p e below _ (T66.setTop (mkF m 93 #[.val (.int p0), .unset, .unset, .unset] [(.int (13 : Int32)), (.ref b1), (.ref b1)]))
  obtain ⟨T69, X69, e69, st69⟩ := getS2 X66 hx hZ hown (host := "") (Or.inl (wd_30 hw)) Via.refl e66 (G.2.2.2.2.2.2.2.2.2.2.2.2.2.2.2.2.2.2.2.2.2.2.2.2.2.2.1.ext o68.2) (g := (mkF m 93 #[.val (.int p0), .unset, .unset, .unset] [(.int (13 : Int32)), (.ref b1), (.ref b1)])) rfl (hb hby at_93)
  refine Rch.go st69 ?_
  show Rch p e below _ (T69.setTop (mkF m 96 #[.val (.int p0), .unset, .unset, .unset] [(.ref ro13), (.int (13 : Int32)), (.ref b1), (.ref b1)]))
  obtain ⟨c70, r70, q70, s70, u70, H70, G70⟩ := V66
  obtain ⟨T71, h71, X71, e71, W71, st71⟩ := stR X69 hx hZ e69 r70 (j := (13 : Int32)) (inb_of s70 (by decide)) rfl (Sto.ofV r70 q70 O1 (Ins.self (G.2.2.2.2.2.2.2.2.2.2.2.2.2.2.2.2.2.2.2.2.2.2.2.2.2.2.2.1.ext o68.2))) (g := (mkF m 96 #[.val (.int p0), .unset, .unset, .unset] [(.ref ro13), (.int (13 : Int32)), (.ref b1), (.ref b1)])) rfl rfl (hb hby at_96)
  refine Rch.go st71 ?_
  have V71 : Arv Z h71 b1 k1 (.object "com/example/knit_theories/knittheories/model/Builtin") (20 : Int32) [(.ref ro0), (.ref ro1), (.ref ro2), (.ref ro3), (.ref ro4), (.ref ro5), (.ref ro6), (.ref ro7), (.ref ro8), (.ref ro9), (.ref ro10), (.ref ro11), (.ref ro12), (.ref ro13), .null, .null, .null, .null, .null, .null] .null := Arv.set r70 q70 s70 u70 H70 G70 rfl W71 13 rfl (Nat.le_of_ble_eq_true rfl)
  have z72 : n0 ≤ h71.size := (Nat.le_trans z67 (Nat.le_of_eq W71.size.symm))
  have o73 := o68.wr W71 g_b1
  have N71 := Fr.snoc X71 N66 g_b1
  show Rch p e below _ (T71.setTop (mkF m 97 #[.val (.int p0), .unset, .unset, .unset] [(.ref b1)]))
  refine Rch.go (fun t k => XS.dup X71.here hx rfl (hb hby at_97) rfl rfl k) ?_
  show Rch p e below _ (T71.setTop (mkF m 98 #[.val (.int p0), .unset, .unset, .unset] [(.ref b1), (.ref b1)]))
  refine Rch.go (fun t k => XS.bipush X71.here hx rfl (hb hby at_98) k) ?_
  show Rch p e below _ (T71.setTop (mkF m 100 #[.val (.int p0), .unset, .unset, .unset] [(.int (14 : Int32)), (.ref b1), (.ref b1)]))
  obtain ⟨T74, X74, e74, st74⟩ := getS2 X71 hx hZ hown (host := "") (Or.inl (wd_32 hw)) Via.refl e71 (G.2.2.2.2.2.2.2.2.2.2.2.2.2.2.2.2.2.2.2.2.2.2.2.2.2.2.2.2.1.ext o73.2) (g := (mkF m 100 #[.val (.int p0), .unset, .unset, .unset] [(.int (14 : Int32)), (.ref b1), (.ref b1)])) rfl (hb hby at_100)
  refine Rch.go st74 ?_
  show Rch p e below _ (T74.setTop (mkF m 103 #[.val (.int p0), .unset, .unset, .unset] [(.ref ro14), (.int (14 : Int32)), (.ref b1), (.ref b1)]))
  obtain ⟨c75, r75, q75, s75, u75, H75, G75⟩ := V71
  obtain ⟨T76, h76, X76, e76, W76, st76⟩ := stR X74 hx hZ e74 r75 (j := (14 : Int32)) (inb_of s75 (by decide)) rfl (Sto.ofV r75 q75 O1 (Ins.self (G.2.2.2.2.2.2.2.2.2.2.2.2.2.2.2.2.2.2.2.2.2.2.2.2.2.2.2.2.2.1.ext o73.2))) (g := (mkF m 103 #[.val (.int p0), .unset, .unset, .unset] [(.ref ro14), (.int (14 : Int32)), (.ref b1), (.ref b1)])) rfl rfl (hb hby at_103)
  refine Rch.go st76 ?_
  have V76 : Arv Z h76 b1 k1 (.object "com/example/knit_theories/knittheories/model/Builtin") (20 : Int32) [(.ref ro0), (.ref ro1), (.ref ro2), (.ref ro3), (.ref ro4), (.ref ro5), (.ref ro6), (.ref ro7), (.ref ro8), (.ref ro9), (.ref ro10), (.ref ro11), (.ref ro12), (.ref ro13), (.ref ro14), .null, .null, .null, .null, .null] .null := Arv.set r75 q75 s75 u75 H75 G75 rfl W76 14 rfl (Nat.le_of_ble_eq_true rfl)
  have z77 : n0 ≤ h76.size := (Nat.le_trans z72 (Nat.le_of_eq W76.size.symm))
  have o78 := o73.wr W76 g_b1
  have N76 := Fr.snoc X76 N71 g_b1
  show Rch p e below _ (T76.setTop (mkF m 104 #[.val (.int p0), .unset, .unset, .unset] [(.ref b1)]))
  refine Rch.go (fun t k => XS.dup X76.here hx rfl (hb hby at_104) rfl rfl k) ?_
  show Rch p e below _ (T76.setTop (mkF m 105 #[.val (.int p0), .unset, .unset, .unset] [(.ref b1), (.ref b1)]))
  refine Rch.go (fun t k => XS.bipush X76.here hx rfl (hb hby at_105) k) ?_
  show Rch p e below _ (T76.setTop (mkF m 107 #[.val (.int p0), .unset, .unset, .unset] [(.int (15 : Int32)), (.ref b1), (.ref b1)]))
  obtain ⟨T79, X79, e79, st79⟩ := getS2 X76 hx hZ hown (host := "") (Or.inl (wd_34 hw)) Via.refl e76 (G.2.2.2.2.2.2.2.2.2.2.2.2.2.2.2.2.2.2.2.2.2.2.2.2.2.2.2.2.2.2.1.ext o78.2) (g := (mkF m 107 #[.val (.int p0), .unset, .unset, .unset] [(.int (15 : Int32)), (.ref b1), (.ref b1)])) rfl (hb hby at_107)
  refine Rch.go st79 ?_
  show Rch p e below _ (T79.setTop (mkF m 110 #[.val (.int p0), .unset, .unset, .unset] [(.ref ro15), (.int (15 : Int32)), (.ref b1), (.ref b1)]))
  obtain ⟨c80, r80, q80, s80, u80, H80, G80⟩ := V76
  obtain ⟨T81, h81, X81, e81, W81, st81⟩ := stR X79 hx hZ e79 r80 (j := (15 : Int32)) (inb_of s80 (by decide)) rfl (Sto.ofV r80 q80 O1 (Ins.self (G.2.2.2.2.2.2.2.2.2.2.2.2.2.2.2.2.2.2.2.2.2.2.2.2.2.2.2.2.2.2.2.1.ext o78.2))) (g := (mkF m 110 #[.val (.int p0), .unset, .unset, .unset] [(.ref ro15), (.int (15 : Int32)), (.ref b1), (.ref b1)])) rfl rfl (hb hby at_110)
  refine Rch.go st81 ?_
  have V81 : Arv Z h81 b1 k1 (.object "com/example/knit_theories/knittheories/model/Builtin") (20 : Int32) [(.ref ro0), (.ref ro1), (.ref ro2), (.ref ro3), (.ref ro4), (.ref ro5), (.ref ro6), (.ref ro7), (.ref ro8), (.ref ro9), (.ref ro10), (.ref ro11), (.ref ro12), (.ref ro13), (.ref ro14), (.ref ro15), .null, .null, .null, .null] .null := Arv.set r80 q80 s80 u80 H80 G80 rfl W81 15 rfl (Nat.le_of_ble_eq_true rfl)
  have z82 : n0 ≤ h81.size := (Nat.le_trans z77 (Nat.le_of_eq W81.size.symm))
  have o83 := o78.wr W81 g_b1
  have N81 := Fr.snoc X81 N76 g_b1
  show Rch p e below _ (T81.setTop (mkF m 111 #[.val (.int p0), .unset, .unset, .unset] [(.ref b1)]))
  refine Rch.go (fun t k => XS.dup X81.here hx rfl (hb hby at_111) rfl rfl k) ?_
  show Rch p e below _ (T81.setTop (mkF m 112 #[.val (.int p0), .unset, .unset, .unset] [(.ref b1), (.ref b1)]))
  refine Rch.go (fun t k => XS.bipush X81.here hx rfl (hb hby at_112) k) ?_
  show Rch p e below _ (T81.setTop (mkF m 114 #[.val (.int p0), .unset, .unset, .unset] [(.int (16 : Int32)), (.ref b1), (.ref b1)]))
  obtain ⟨T84, X84, e84, st84⟩ := getS2 X81 hx hZ hown (host := "") (Or.inl (wd_36 hw)) Via.refl e81 (G.2.2.2.2.2.2.2.2.2.2.2.2.2.2.2.2.2.2.2.2.2.2.2.2.2.2.2.2.2.2.2.2.1.ext o83.2) (g := (mkF m 114 #[.val (.int p0), .unset, .unset, .unset] [(.int (16 : Int32)), (.ref b1), (.ref b1)])) rfl (hb hby at_114)
  refine Rch.go st84 ?_
  show Rch p e below _ (T84.setTop (mkF m 117 #[.val (.int p0), .unset, .unset, .unset] [(.ref ro16), (.int (16 : Int32)), (.ref b1), (.ref b1)]))
  obtain ⟨c85, r85, q85, s85, u85, H85, G85⟩ := V81
  obtain ⟨T86, h86, X86, e86, W86, st86⟩ := stR X84 hx hZ e84 r85 (j := (16 : Int32)) (inb_of s85 (by decide)) rfl (Sto.ofV r85 q85 O1 (Ins.self (G.2.2.2.2.2.2.2.2.2.2.2.2.2.2.2.2.2.2.2.2.2.2.2.2.2.2.2.2.2.2.2.2.2.1.ext o83.2))) (g := (mkF m 117 #[.val (.int p0), .unset, .unset, .unset] [(.ref ro16), (.int (16 : Int32)), (.ref b1), (.ref b1)])) rfl rfl (hb hby at_117)
  refine Rch.go st86 ?_
  have V86 : Arv Z h86 b1 k1 (.object "com/example/knit_theories/knittheories/model/Builtin") (20 : Int32) [(.ref ro0), (.ref ro1), (.ref ro2), (.ref ro3), (.ref ro4), (.ref ro5), (.ref ro6), (.ref ro7), (.ref ro8), (.ref ro9), (.ref ro10), (.ref ro11), (.ref ro12), (.ref ro13), (.ref ro14), (.ref ro15), (.ref ro16), .null, .null, .null] .null := Arv.set r85 q85 s85 u85 H85 G85 rfl W86 16 rfl (Nat.le_of_ble_eq_true rfl)
  have z87 : n0 ≤ h86.size := (Nat.le_trans z82 (Nat.le_of_eq W86.size.symm))
  have o88 := o83.wr W86 g_b1
  have N86 := Fr.snoc X86 N81 g_b1
  show Rch p e below _ (T86.setTop (mkF m 118 #[.val (.int p0), .unset, .unset, .unset] [(.ref b1)]))
  refine Rch.go (fun t k => XS.dup X86.here hx rfl (hb hby at_118) rfl rfl k) ?_
  show Rch p e below _ (T86.setTop (mkF m 119 #[.val (.int p0), .unset, .unset, .unset] [(.ref b1), (.ref b1)]))
  refine Rch.go (fun t k => XS.bipush X86.here hx rfl (hb hby at_119) k) ?_
  show Rch p e below _ (T86.setTop (mkF m 121 #[.val (.int p0), .unset, .unset, .unset] [(.int (17 : Int32)), (.ref b1), (.ref b1)]))
  obtain ⟨T89, X89, e89, st89⟩ := getS2 X86 hx hZ hown (host := "") (Or.inl (wd_38 hw)) Via.refl e86 (G.2.2.2.2.2.2.2.2.2.2.2.2.2.2.2.2.2.2.2.2.2.2.2.2.2.2.2.2.2.2.2.2.2.2.1.ext o88.2) (g := (mkF m 121 #[.val (.int p0), .unset, .unset, .unset] [(.int (17 : Int32)), (.ref b1), (.ref b1)])) rfl (hb hby at_121)
  refine Rch.go st89 ?_
  show Rch p e below _ (T89.setTop (mkF m 124 #[.val (.int p0), .unset, .unset, .unset] [(.ref ro17), (.int (17 : Int32)), (.ref b1), (.ref b1)]))
  obtain ⟨c90, r90, q90, s90, u90, H90, G90⟩ := V86
  obtain ⟨T91, h91, X91, e91, W91, st91⟩ := stR X89 hx hZ e89 r90 (j := (17 : Int32)) (inb_of s90 (by decide)) rfl (Sto.ofV r90 q90 O1 (Ins.self (G.2.2.2.2.2.2.2.2.2.2.2.2.2.2.2.2.2.2.2.2.2.2.2.2.2.2.2.2.2.2.2.2.2.2.2.1.ext o88.2))) (g := (mkF m 124 #[.val (.int p0), .unset, .unset, .unset] [(.ref ro17), (.int (17 : Int32)), (.ref b1), (.ref b1)])) rfl rfl (hb hby at_124)
  refine Rch.go st91 ?_
  have V91 : Arv Z h91 b1 k1 (.object "com/example/knit_theories/knittheories/model/Builtin") (20 : Int32) [(.ref ro0), (.ref ro1), (.ref ro2), (.ref ro3), (.ref ro4), (.ref ro5), (.ref ro6), (.ref ro7), (.ref ro8), (.ref ro9), (.ref ro10), (.ref ro11), (.ref ro12), (.ref ro13), (.ref ro14), (.ref ro15), (.ref ro16), (.ref ro17), .null, .null] .null := Arv.set r90 q90 s90 u90 H90 G90 rfl W91 17 rfl (Nat.le_of_ble_eq_true rfl)
  have z92 : n0 ≤ h91.size := (Nat.le_trans z87 (Nat.le_of_eq W91.size.symm))
  have o93 := o88.wr W91 g_b1
  have N91 := Fr.snoc X91 N86 g_b1
  show Rch p e below _ (T91.setTop (mkF m 125 #[.val (.int p0), .unset, .unset, .unset] [(.ref b1)]))
  refine Rch.go (fun t k => XS.dup X91.here hx rfl (hb hby at_125) rfl rfl k) ?_
  show Rch p e below _ (T91.setTop (mkF m 126 #[.val (.int p0), .unset, .unset, .unset] [(.ref b1), (.ref b1)]))
  refine Rch.go (fun t k => XS.bipush X91.here hx rfl (hb hby at_126) k) ?_
  show Rch p e below _ (T91.setTop (mkF m 128 #[.val (.int p0), .unset, .unset, .unset] [(.int (18 : Int32)), (.ref b1), (.ref b1)]))
  obtain ⟨T94, X94, e94, st94⟩ := getS2 X91 hx hZ hown (host := "") (Or.inl (wd_40 hw)) Via.refl e91 (G.2.2.2.2.2.2.2.2.2.2.2.2.2.2.2.2.2.2.2.2.2.2.2.2.2.2.2.2.2.2.2.2.2.2.2.2.1.ext o93.2) (g := (mkF m 128 #[.val (.int p0), .unset, .unset, .unset] [(.int (18 : Int32)), (.ref b1), (.ref b1)])) rfl (hb hby at_128)
  refine Rch.go st94 ?_
  show Rch p e below _ (T94.setTop (mkF m 131 #[.val (.int p0), .unset, .unset, .unset] [(.ref ro18), (.int (18 : Int32)), (.ref b1), (.ref b1)]))
  obtain ⟨c95, r95, q95, s95, u95, H95, G95⟩ := V91
  obtain ⟨T96, h96, X96, e96, W96, st96⟩ := stR X94 hx hZ e94 r95 (j := (18 : Int32)) (inb_of s95 (by decide)) rfl (Sto.ofV r95 q95 O1 (Ins.self (G.2.2.2.2.2.2.2.2.2.2.2.2.2.2.2.2.2.2.2.2.2.2.2.2.2.2.2.2.2.2.2.2.2.2.2.2.2.1.ext o93.2))) (g := (mkF m 131 #[.val (.int p0), .unset, .unset, .unset] [(.ref ro18), (.int (18 : Int32)), (.ref b1), (.ref b1)])) rfl rfl (hb hby at_131)
  refine Rch.go st96 ?_
  have V96 : Arv Z h96 b1 k1 (.object "com/example/knit_theories/knittheories/model/Builtin") (20 : Int32) [(.ref ro0), (.ref ro1), (.ref ro2), (.ref ro3), (.ref ro4), (.ref ro5), (.ref ro6), (.ref ro7), (.ref ro8), (.ref ro9), (.ref ro10), (.ref ro11), (.ref ro12), (.ref ro13), (.ref ro14), (.ref ro15), (.ref ro16), (.ref ro17), (.ref ro18), .null] .null := Arv.set r95 q95 s95 u95 H95 G95 rfl W96 18 rfl (Nat.le_of_ble_eq_true rfl)
  have z97 : n0 ≤ h96.size := (Nat.le_trans z92 (Nat.le_of_eq W96.size.symm))
  have o98 := o93.wr W96 g_b1
  have N96 := Fr.snoc X96 N91 g_b1
  show Rch p e below _ (T96.setTop (mkF m 132 #[.val (.int p0), .unset, .unset, .unset] [(.ref b1)]))
  refine Rch.go (fun t k => XS.dup X96.here hx rfl (hb hby at_132) rfl rfl k) ?_
  show Rch p e below _ (T96.setTop (mkF m 133 #[.val (.int p0), .unset, .unset, .unset] [(.ref b1), (.ref b1)]))
  refine Rch.go (fun t k => XS.bipush X96.here hx rfl (hb hby at_133) k) ?_
  show Rch p e below _ (T96.setTop (mkF m 135 #[.val (.int p0), .unset, .unset, .unset] [(.int (19 : Int32)), (.ref b1), (.ref b1)]))
  obtain ⟨T99, X99, e99, st99⟩ := getS2 X96 hx hZ hown (host := "") (Or.inl (wd_42 hw)) Via.refl e96 (G.2.2.2.2.2.2.2.2.2.2.2.2.2.2.2.2.2.2.2.2.2.2.2.2.2.2.2.2.2.2.2.2.2.2.2.2.2.2.1.ext o98.2) (g := (mkF m 135 #[.val (.int p0), .unset, .unset, .unset] [(.int (19 : Int32)), (.ref b1), (.ref b1)])) rfl (hb hby at_135)
  refine Rch.go st99 ?_
  show Rch p e below _ (T99.setTop (mkF m 138 #[.val (.int p0), .unset, .unset, .unset] [(.ref ro19), (.int (19 : Int32)), (.ref b1), (.ref b1)]))
  obtain ⟨c100, r100, q100, s100, u100, H100, G100⟩ := V96
  obtain ⟨T101, h101, X101, e101, W101, st101⟩ := stR X99 hx hZ e99 r100 (j := (19 : Int32)) (inb_of s100 (by decide)) rfl (Sto.ofV r100 q100 O1 (Ins.self (G.2.2.2.2.2.2.2.2.2.2.2.2.2.2.2.2.2.2.2.2.2.2.2.2.2.2.2.2.2.2.2.2.2.2.2.2.2.2.2.1.ext o98.2))) (g := (mkF m 138 #[.val (.int p0), .unset, .unset, .unset] [(.ref ro19), (.int (19 : Int32)), (.ref b1), (.ref b1)])) rfl rfl (hb hby at_138)
  refine Rch.go st101 ?_
  have V101 : Arv Z h101 b1 k1 (.object "com/example/knit_theories/knittheories/model/Builtin") (20 : Int32) [(.ref ro0), (.ref ro1), (.ref ro2), (.ref ro3), (.ref ro4), (.ref ro5), (.ref ro6), (.ref ro7), (.ref ro8), (.ref ro9), (.ref ro10), (.ref ro11), (.ref ro12), (.ref ro13), (.ref ro14), (.ref ro15), (.ref ro16), (.ref ro17), (.ref ro18), (.ref ro19)] .null := Arv.set r100 q100 s100 u100 H100 G100 rfl W101 19 rfl (Nat.le_of_ble_eq_true rfl)
  have z102 : n0 ≤ h101.size := (Nat.le_trans z97 (Nat.le_of_eq W101.size.symm))
  have o103 := o98.wr W101 g_b1
  have N101 := Fr.snoc X101 N96 g_b1
  show Rch p e below _ (T101.setTop (mkF m 139 #[.val (.int p0), .unset, .unset, .unset] [(.ref b1)]))
  refine Rch.go (fun t k => XS.astoreN X101.here hx rfl (hb hby at_139) rfl rfl (l' := #[.val (.int p0), .val (.ref b1), .unset, .unset]) rfl k) ?_
  show Rch p e below _ (T101.setTop (mkF m 140 #[.val (.int p0), .val (.ref b1), .unset, .unset] []))
  refine Rch.go (fun t k => XS.bipush X101.here hx rfl (hb hby at_140) k) ?_
  show Rch p e below _ (T101.setTop (mkF m 142 #[.val (.int p0), .val (.ref b1), .unset, .unset] [(.int (20 : Int32))]))
  obtain ⟨T104, h104, k104, X104, e104, E104, A104, B104, st104⟩ := newPE (aty := .boolean) X101 hx hZ (wd_44 hw) e101 (g := (mkF m 142 #[.val (.int p0), .val (.ref b1), .unset, .unset] [(.int (20 : Int32))])) rfl (hb hby at_142) rfl (by decide) (cap := 20) (by decide) (by decide) (by decide) (by decide) (ad := "[Z") (by decide +kernel)
  obtain ⟨b104, g104⟩ : ∃ z, z = h101.size := ⟨_, rfl⟩
  rw [← g104] at A104 B104 st104
  refine Rch.go st104 ?_
  have z105 : n0 ≤ h104.size := (Nat.le_trans z102 E104.1)
  have o106 := o103.ext E104
  have g_b104 : n0 ≤ b104 := Nat.le_trans z102 (Nat.le_of_eq g104.symm)
  have V104 : Arv Z h104 b104 k104 .boolean (20 : Int32) [(.int (0 : Int32)), (.int (0 : Int32)), (.int (0 : Int32)), (.int (0 : Int32)), (.int (0 : Int32)), (.int (0 : Int32)), (.int (0 : Int32)), (.int (0 : Int32)), (.int (0 : Int32)), (.int (0 : Int32)), (.int (0 : Int32)), (.int (0 : Int32)), (.int (0 : Int32)), (.int (0 : Int32)), (.int (0 : Int32)), (.int (0 : Int32)), (.int (0 : Int32)), (.int (0 : Int32)), (.int (0 : Int32)), (.int (0 : Int32))] (.int (0 : Int32)) := (Arv.new A104 (by decide)).pad (pad_rep [] (.int (0 : Int32)) 20)
  show Rch p e below _ (T104.setTop (mkF m 144 #[.val (.int p0), .val (.ref b1), .unset, .unset] [(.ref b104)]))
  refine Rch.go (fun t k => XS.dup X104.here hx rfl (hb hby at_144) rfl rfl k) ?_
  show Rch p e below _ (T104.setTop (mkF m 145 #[.val (.int p0), .val (.ref b1), .unset, .unset] [(.ref b104), (.ref b104)]))
  refine Rch.go (fun t k => XS.iconst X104.here hx rfl (hb hby at_145) k) ?_
  show Rch p e below _ (T104.setTop (mkF m 146 #[.val (.int p0), .val (.ref b1), .unset, .unset] [(.int (0 : Int32)), (.ref b104), (.ref b104)]))
  refine Rch.go (fun t k => XS.iconst X104.here hx rfl (hb hby at_146) k) ?_
  show Rch p e below _ (T104.setTop (mkF m 147 #[.val (.int p0), .val (.ref b1), .unset, .unset] [(.int (0 : Int32)), (.int (0 : Int32)), (.ref b104), (.ref b104)]))
  obtain ⟨c107, r107, q107, s107, u107, H107, G107⟩ := V104
  obtain ⟨T108, h108, X108, e108, W108, st108⟩ := stZ X104 hx hZ e104 r107 (j := (0 : Int32)) (inb_of s107 (by decide)) (g := (mkF m 147 #[.val (.int p0), .val (.ref b1), .unset, .unset] [(.int (0 : Int32)), (.int (0 : Int32)), (.ref b104), (.ref b104)])) rfl rfl (hb hby at_147)
  refine Rch.go st108 ?_
  have V108 : Arv Z h108 b104 k104 .boolean (20 : Int32) [(.int (0 : Int32)), (.int (0 : Int32)), (.int (0 : Int32)), (.int (0 : Int32)), (.int (0 : Int32)), (.int (0 : Int32)), (.int (0 : Int32)), (.int (0 : Int32)), (.int (0 : Int32)), (.int (0 : Int32)), (.int (0 : Int32)), (.int (0 : Int32)), (.int (0 : Int32)), (.int (0 : Int32)), (.int (0 : Int32)), (.int (0 : Int32)), (.int (0 : Int32)), (.int (0 : Int32)), (.int (0 : Int32)), (.int (0 : Int32))] (.int (0 : Int32)) := Arv.set r107 q107 s107 u107 H107 G107 (fits_nar_bool _) W108 0 rfl (Nat.le_of_ble_eq_true rfl)
  have z109 : n0 ≤ h108.size := (Nat.le_trans z105 (Nat.le_of_eq W108.size.symm))
  have o110 := o106.wr W108 g_b104
  have N108 := Fr.snoc X108 N101 g_b104
  show Rch p e below _ (T108.setTop (mkF m 148 #[.val (.int p0), .val (.ref b1), .unset, .unset] [(.ref b104)]))
  refine Rch.go (fun t k => XS.dup X108.here hx rfl (hb hby at_148) rfl rfl k) ?_
  show Rch p e below _ (T108.setTop (mkF m 149 #[.val (.int p0), .val (.ref b1), .unset, .unset] [(.ref b104), (.ref b104)]))
  refine Rch.go (fun t k => XS.iconst X108.here hx rfl (hb hby at_149) k) ?_
  show Rch p e below _ (T108.setTop (mkF m 150 #[.val (.int p0), .val (.ref b1), .unset, .unset] [(.int (1 : Int32)), (.ref b104), (.ref b104)]))
  refine Rch.go (fun t k => XS.iconst X108.here hx rfl (hb hby at_150) k) ?_
  show Rch p e below _ (T108.setTop (mkF m 151 #[.val (.int p0), .val (.ref b1), .unset, .unset] [(.int (0 : Int32)), (.int (1 : Int32)), (.ref b104), (.ref b104)]))
  obtain ⟨c111, r111, q111, s111, u111, H111, G111⟩ := V108
  obtain ⟨T112, h112, X112, e112, W112, st112⟩ := stZ X108 hx hZ e108 r111 (j := (1 : Int32)) (inb_of s111 (by decide)) (g := (mkF m 151 #[.val (.int p0), .val (.ref b1), .unset, .unset] [(.int (0 : Int32)), (.int (1 : Int32)), (.ref b104), (.ref b104)])) rfl rfl (hb hby at_151)
  refine Rch.go st112 ?_
  have V112 : Arv Z h112 b104 k104 .boolean (20 : Int32) [(.int (0 : Int32)), (.int (0 : Int32)), (.int (0 : Int32)), (.int (0 : Int32)), (.int (0 : Int32)), (.int (0 : Int32)), (.int (0 : Int32)), (.int (0 : Int32)), (.int (0 : Int32)), (.int (0 : Int32)), (.int (0 : Int32)), (.int (0 : Int32)), (.int (0 : Int32)), (.int (0 : Int32)), (.int (0 : Int32)), (.int (0 : Int32)), (.int (0 : Int32)), (.int (0 : Int32)), (.int (0 : Int32)), (.int (0 : Int32))] (.int (0 : Int32)) := Arv.set r111 q111 s111 u111 H111 G111 (fits_nar_bool _) W112 1 rfl (Nat.le_of_ble_eq_true rfl)
  have z113 : n0 ≤ h112.size := (Nat.le_trans z109 (Nat.le_of_eq W112.size.symm))
  have o114 := o110.wr W112 g_b104
  have N112 := Fr.snoc X112 N108 g_b104
  show Rch p e below _ (T112.setTop (mkF m 152 #[.val (.int p0), .val (.ref b1), .unset, .unset] [(.ref b104)]))
  refine Rch.go (fun t k => XS.dup X112.here hx rfl (hb hby at_152) rfl rfl k) ?_
  show Rch p e below _ (T112.setTop (mkF m 153 #[.val (.int p0), .val (.ref b1), .unset, .unset] [(.ref b104), (.ref b104)]))
  refine Rch.go (fun t k => XS.iconst X112.here hx rfl (hb hby at_153) k) ?_
  show Rch p e below _ (T112.setTop (mkF m 154 #[.val (.int p0), .val (.ref b1), .unset, .unset] [(.int (2 : Int32)), (.ref b104), (.ref b104)]))
  refine Rch.go (fun t k => XS.iconst X112.here hx rfl (hb hby at_154) k) ?_
  show Rch p e below _ (T112.setTop (mkF m 155 #[.val (.int p0), .val (.ref b1), .unset, .unset] [(.int (0 : Int32)), (.int (2 : Int32)), (.ref b104), (.ref b104)]))
  obtain ⟨c115, r115, q115, s115, u115, H115, G115⟩ := V112
  obtain ⟨T116, h116, X116, e116, W116, st116⟩ := stZ X112 hx hZ e112 r115 (j := (2 : Int32)) (inb_of s115 (by decide)) (g := (mkF m 155 #[.val (.int p0), .val (.ref b1), .unset, .unset] [(.int (0 : Int32)), (.int (2 : Int32)), (.ref b104), (.ref b104)])) rfl rfl (hb hby at_155)
  refine Rch.go st116 ?_
  have V116 : Arv Z h116 b104 k104 .boolean (20 : Int32) [(.int (0 : Int32)), (.int (0 : Int32)), (.int (0 : Int32)), (.int (0 : Int32)), (.int (0 : Int32)), (.int (0 : Int32)), (.int (0 : Int32)), (.int (0 : Int32)), (.int (0 : Int32)), (.int (0 : Int32)), (.int (0 : Int32)), (.int (0 : Int32)), (.int (0 : Int32)), (.int (0 : Int32)), (.int (0 : Int32)), (.int (0 : Int32)), (.int (0 : Int32)), (.int (0 : Int32)), (.int (0 : Int32)), (.int (0 : Int32))] (.int (0 : Int32)) := Arv.set r115 q115 s115 u115 H115 G115 (fits_nar_bool _) W116 2 rfl (Nat.le_of_ble_eq_true rfl)
  have z117 : n0 ≤ h116.size := (Nat.le_trans z113 (Nat.le_of_eq W116.size.symm))
  have o118 := o114.wr W116 g_b104
  have N116 := Fr.snoc X116 N112 g_b104
  show Rch p e below _ (T116.setTop (mkF m 156 #[.val (.int p0), .val (.ref b1), .unset, .unset] [(.ref b104)]))
  refine Rch.go (fun t k => XS.dup X116.here hx rfl (hb hby at_156) rfl rfl k) ?_
  show Rch p e below _ (T116.setTop (mkF m 157 #[.val (.int p0), .val (.ref b1), .unset, .unset] [(.ref b104), (.ref b104)]))
  refine Rch.go (fun t k => XS.iconst X116.here hx rfl (hb hby at_157) k) ?_
  show Rch p e below _ (T116.setTop (mkF m 158 #[.val (.int p0), .val (.ref b1), .unset, .unset] [(.int (3 : Int32)), (.ref b104), (.ref b104)]))
  refine Rch.go (fun t k => XS.iconst X116.here hx rfl (hb hby at_158) k) ?_
  show Rch p e below _ (T116.setTop (mkF m 159 #[.val (.int p0), .val (.ref b1), .unset, .unset] [(.int (1 : Int32)), (.int (3 : Int32)), (.ref b104), (.ref b104)]))
  obtain ⟨c119, r119, q119, s119, u119, H119, G119⟩ := V116
  obtain ⟨T120, h120, X120, e120, W120, st120⟩ := stZ X116 hx hZ e116 r119 (j := (3 : Int32)) (inb_of s119 (by decide)) (g := (mkF m 159 #[.val (.int p0), .val (.ref b1), .unset, .unset] [(.int (1 : Int32)), (.int (3 : Int32)), (.ref b104), (.ref b104)])) rfl rfl (hb hby at_159)
  refine Rch.go st120 ?_
  have V120 : Arv Z h120 b104 k104 .boolean (20 : Int32) [(.int (0 : Int32)), (.int (0 : Int32)), (.int (0 : Int32)), (.int (1 : Int32)), (.int (0 : Int32)), (.int (0 : Int32)), (.int (0 : Int32)), (.int (0 : Int32)), (.int (0 : Int32)), (.int (0 : Int32)), (.int (0 : Int32)), (.int (0 : Int32)), (.int (0 : Int32)), (.int (0 : Int32)), (.int (0 : Int32)), (.int (0 : Int32)), (.int (0 : Int32)), (.int (0 : Int32)), (.int (0 : Int32)), (.int (0 : Int32))] (.int (0 : Int32)) := Arv.set r119 q119 s119 u119 H119 G119 (fits_nar_bool _) W120 3 rfl (Nat.le_of_ble_eq_true rfl)
  have z121 : n0 ≤ h120.size := (Nat.le_trans z117 (Nat.le_of_eq W120.size.symm))
  have o122 := o118.wr W120 g_b104
  have N120 := Fr.snoc X120 N116 g_b104
  show Rch p e below _ (T120.setTop (mkF m 160 #[.val (.int p0), .val (.ref b1), .unset, .unset] [(.ref b104)]))
  refine Rch.go (fun t k => XS.dup X120.here hx rfl (hb hby at_160) rfl rfl k) ?_
  show Rch p e below _ (T120.setTop (mkF m 161 #[.val (.int p0), .val (.ref b1), .unset, .unset] [(.ref b104), (.ref b104)]))
  refine Rch.go (fun t k => XS.iconst X120.here hx rfl (hb hby at_161) k) ?_
  show Rch p e below _ (T120.setTop (mkF m 162 #[.val (.int p0), .val (.ref b1), .unset, .unset] [(.int (4 : Int32)), (.ref b104), (.ref b104)]))
  refine Rch.go (fun t k => XS.iconst X120.here hx rfl (hb hby at_162) k) ?_
  show Rch p e below _ (T120.setTop (mkF m 163 #[.val (.int p0), .val (.ref b1), .unset, .unset] [(.int (1 : Int32)), (.int (4 : Int32)), (.ref b104), (.ref b104)]))
  obtain ⟨c123, r123, q123, s123, u123, H123, G123⟩ := V120
  obtain ⟨T124, h124, X124, e124, W124, st124⟩ := stZ X120 hx hZ e120 r123 (j := (4 : Int32)) (inb_of s123 (by decide)) (g := (mkF m 163 #[.val (.int p0), .val (.ref b1), .unset, .unset] [(.int (1 : Int32)), (.int (4 : Int32)), (.ref b104), (.ref b104)])) rfl rfl (hb hby at_163)
  refine Rch.go st124 ?_
  have V124 : Arv Z h124 b104 k104 .boolean (20 : Int32) [(.int (0 : Int32)), (.int (0 : Int32)), (.int (0 : Int32)), (.int (1 : Int32)), (.int (1 : Int32)), (.int (0 : Int32)), (.int (0 : Int32)), (.int (0 : Int32)), (.int (0 : Int32)), (.int (0 : Int32)), (.int (0 : Int32)), (.int (0 : Int32)), (.int (0 : Int32)), (.int (0 : Int32)), (.int (0 : Int32)), (.int (0 : Int32)), (.int (0 : Int32)), (.int (0 : Int32)), (.int (0 : Int32)), (.int (0 : Int32))] (.int (0 : Int32)) := Arv.set r123 q123 s123 u123 H123 G123 (fits_nar_bool _) W124 4 rfl (Nat.le_of_ble_eq_true rfl)
  have z125 : n0 ≤ h124.size := (Nat.le_trans z121 (Nat.le_of_eq W124.size.symm))
  have o126 := o122.wr W124 g_b104
  have N124 := Fr.snoc X124 N120 g_b104
  show Rch p e below _ (T124.setTop (mkF m 164 #[.val (.int p0), .val (.ref b1), .unset, .unset] [(.ref b104)]))
  refine Rch.go (fun t k => XS.dup X124.here hx rfl (hb hby at_164) rfl rfl k) ?_
  show Rch p e below _ (T124.setTop (mkF m 165 #[.val (.int p0), .val (.ref b1), .unset, .unset] [(.ref b104), (.ref b104)]))
  refine Rch.go (fun t k => XS.iconst X124.here hx rfl (hb hby at_165) k) ?_
  show Rch p e below _ (T124.setTop (mkF m 166 #[.val (.int p0), .val (.ref b1), .unset, .unset] [(.int (5 : Int32)), (.ref b104), (.ref b104)]))
  refine Rch.go (fun t k => XS.iconst X124.here hx rfl (hb hby at_166) k) ?_
  show Rch p e below _ (T124.setTop (mkF m 167 #[.val (.int p0), .val (.ref b1), .unset, .unset] [(.int (0 : Int32)), (.int (5 : Int32)), (.ref b104), (.ref b104)]))
  obtain ⟨c127, r127, q127, s127, u127, H127, G127⟩ := V124
  obtain ⟨T128, h128, X128, e128, W128, st128⟩ := stZ X124 hx hZ e124 r127 (j := (5 : Int32)) (inb_of s127 (by decide)) (g := (mkF m 167 #[.val (.int p0), .val (.ref b1), .unset, .unset] [(.int (0 : Int32)), (.int (5 : Int32)), (.ref b104), (.ref b104)])) rfl rfl (hb hby at_167)
  refine Rch.go st128 ?_
  have V128 : Arv Z h128 b104 k104 .boolean (20 : Int32) [(.int (0 : Int32)), (.int (0 : Int32)), (.int (0 : Int32)), (.int (1 : Int32)), (.int (1 : Int32)), (.int (0 : Int32)), (.int (0 : Int32)), (.int (0 : Int32)), (.int (0 : Int32)), (.int (0 : Int32)), (.int (0 : Int32)), (.int (0 : Int32)), (.int (0 : Int32)), (.int (0 : Int32)), (.int (0 : Int32)), (.int (0 : Int32)), (.int (0 : Int32)), (.int (0 : Int32)), (.int (0 : Int32)), (.int (0 : Int32))] (.int (0 : Int32)) := Arv.set r127 q127 s127 u127 H127 G127 (fits_nar_bool _) W128 5 rfl (Nat.le_of_ble_eq_true rfl)
  have z129 : n0 ≤ h128.size := (Nat.le_trans z125 (Nat.le_of_eq W128.size.symm))
  have o130 := o126.wr W128 g_b104
  have N128 := Fr.snoc X128 N124 g_b104
  show Rch p e below _ (T128.setTop (mkF m 168 #[.val (.int p0), .val (.ref b1), .unset, .unset] [(.ref b104)]))
  refine Rch.go (fun t k => XS.dup X128.here hx rfl (hb hby at_168) rfl rfl k) ?_
  show Rch p e below _ (T128.setTop (mkF m 169 #[.val (.int p0), .val (.ref b1), .unset, .unset] [(.ref b104), (.ref b104)]))
  refine Rch.go (fun t k => XS.bipush X128.here hx rfl (hb hby at_169) k) ?_
  show Rch p e below _ (T128.setTop (mkF m 171 #[.val (.int p0), .val (.ref b1), .unset, .unset] [(.int (6 : Int32)), (.ref b104), (.ref b104)]))
  refine Rch.go (fun t k => XS.iconst X128.here hx rfl (hb hby at_171) k) ?_
  show Rch p e below _ (T128.setTop (mkF m 172 #[.val (.int p0), .val (.ref b1), .unset, .unset] [(.int (0 : Int32)), (.int (6 : Int32)), (.ref b104), (.ref b104)]))
  obtain ⟨c131, r131, q131, s131, u131, H131, G131⟩ := V128
  obtain ⟨T132, h132, X132, e132, W132, st132⟩ := stZ X128 hx hZ e128 r131 (j := (6 : Int32)) (inb_of s131 (by decide)) (g := (mkF m 172 #[.val (.int p0), .val (.ref b1), .unset, .unset] [(.int (0 : Int32)), (.int (6 : Int32)), (.ref b104), (.ref b104)])) rfl rfl (hb hby at_172)
  refine Rch.go st132 ?_
  have V132 : Arv Z h132 b104 k104 .boolean (20 : Int32) [(.int (0 : Int32)), (.int (0 : Int32)), (.int (0 : Int32)), (.int (1 : Int32)), (.int (1 : Int32)), (.int (0 : Int32)), (.int (0 : Int32)), (.int (0 : Int32)), (.int (0 : Int32)), (.int (0 : Int32)), (.int (0 : Int32)), (.int (0 : Int32)), (.int (0 : Int32)), (.int (0 : Int32)), (.int (0 : Int32)), (.int (0 : Int32)), (.int (0 : Int32)), (.int (0 : Int32)), (.int (0 : Int32)), (.int (0 : Int32))] (.int (0 : Int32)) := Arv.set r131 q131 s131 u131 H131 G131 (fits_nar_bool _) W132 6 rfl (Nat.le_of_ble_eq_true rfl)
  have z133 : n0 ≤ h132.size := (Nat.le_trans z129 (Nat.le_of_eq W132.size.symm))
  have o134 := o130.wr W132 g_b104
  have N132 := Fr.snoc X132 N128 g_b104
  show Rch p e below _ (T132.setTop (mkF m 173 #[.val (.int p0), .val (.ref b1), .unset, .unset] [(.ref b104)]))
  refine Rch.go (fun t k => XS.dup X132.here hx rfl (hb hby at_173) rfl rfl k) ?_
  show Rch p e below _ (T132.setTop (mkF m 174 #[.val (.int p0), .val (.ref b1), .unset, .unset] [(.ref b104), (.ref b104)]))
  refine Rch.go (fun t k => XS.bipush X132.here hx rfl (hb hby at_174) k) ?_
  show Rch p e below _ (T132.setTop (mkF m 176 #[.val (.int p0), .val (.ref b1), .unset, .unset] [(.int (7 : Int32)), (.ref b104), (.ref b104)]))
  refine Rch.go (fun t k => XS.iconst X132.here hx rfl (hb hby at_176) k) ?_
  show Rch p e below _ (T132.setTop (mkF m 177 #[.val (.int p0), .val (.ref b1), .unset, .unset] [(.int (0 : Int32)), (.int (7 : Int32)), (.ref b104), (.ref b104)]))
  obtain ⟨c135, r135, q135, s135, u135, H135, G135⟩ := V132
  obtain ⟨T136, h136, X136, e136, W136, st136⟩ := stZ X132 hx hZ e132 r135 (j := (7 : Int32)) (inb_of s135 (by decide)) (g := (mkF m 177 #[.val (.int p0), .val (.ref b1), .unset, .unset] [(.int (0 : Int32)), (.int (7 : Int32)), (.ref b104), (.ref b104)])) rfl rfl (hb hby at_177)
  refine Rch.go st136 ?_
  have V136 : Arv Z h136 b104 k104 .boolean (20 : Int32) [(.int (0 : Int32)), (.int (0 : Int32)), (.int (0 : Int32)), (.int (1 : Int32)), (.int (1 : Int32)), (.int (0 : Int32)), (.int (0 : Int32)), (.int (0 : Int32)), (.int (0 : Int32)), (.int (0 : Int32)), (.int (0 : Int32)), (.int (0 : Int32)), (.int (0 : Int32)), (.int (0 : Int32)), (.int (0 : Int32)), (.int (0 : Int32)), (.int (0 : Int32)), (.int (0 : Int32)), (.int (0 : Int32)), (.int (0 : Int32))] (.int (0 : Int32)) := Arv.set r135 q135 s135 u135 H135 G135 (fits_nar_bool _) W136 7 rfl (Nat.le_of_ble_eq_true rfl)
  have z137 : n0 ≤ h136.size := (Nat.le_trans z133 (Nat.le_of_eq W136.size.symm))
  have o138 := o134.wr W136 g_b104
  have N136 := Fr.snoc X136 N132 g_b104
  show Rch p e below _ (T136.setTop (mkF m 178 #[.val (.int p0), .val (.ref b1), .unset, .unset] [(.ref b104)]))
  refine Rch.go (fun t k => XS.dup X136.here hx rfl (hb hby at_178) rfl rfl k) ?_
  show Rch p e below _ (T136.setTop (mkF m 179 #[.val (.int p0), .val (.ref b1), .unset, .unset] [(.ref b104), (.ref b104)]))
  refine Rch.go (fun t k => XS.bipush X136.here hx rfl (hb hby at_179) k) ?_
  show Rch p e below _ (T136.setTop (mkF m 181 #[.val (.int p0), .val (.ref b1), .unset, .unset] [(.int (8 : Int32)), (.ref b104), (.ref b104)]))
  refine Rch.go (fun t k => XS.iconst X136.here hx rfl (hb hby at_181) k) ?_
  show Rch p e below _ (T136.setTop (mkF m 182 #[.val (.int p0), .val (.ref b1), .unset, .unset] [(.int (0 : Int32)), (.int (8 : Int32)), (.ref b104), (.ref b104)]))
  obtain ⟨c139, r139, q139, s139, u139, H139, G139⟩ := V136
  obtain ⟨T140, h140, X140, e140, W140, st140⟩ := stZ X136 hx hZ e136 r139 (j := (8 : Int32)) (inb_of s139 (by decide)) (g := (mkF m 182 #[.val (.int p0), .val (.ref b1), .unset, .unset] [(.int (0 : Int32)), (.int (8 : Int32)), (.ref b104), (.ref b104)])) rfl rfl (hb hby at_182)
  refine Rch.go st140 ?_
  have V140 : Arv Z h140 b104 k104 .boolean (20 : Int32) [(.int (0 : Int32)), (.int (0 : Int32)), (.int (0 : Int32)), (.int (1 : Int32)), (.int (1 : Int32)), (.int (0 : Int32)), (.int (0 : Int32)), (.int (0 : Int32)), (.int (0 : Int32)), (.int (0 : Int32)), (.int (0 : Int32)), (.int (0 : Int32)), (.int (0 : Int32)), (.int (0 : Int32)), (.int (0 : Int32)), (.int (0 : Int32)), (.int (0 : Int32)), (.int (0 : Int32)), (.int (0 : Int32)), (.int (0 : Int32))] (.int (0 : Int32)) := Arv.set r139 q139 s139 u139 H139 G139 (fits_nar_bool _) W140 8 rfl (Nat.le_of_ble_eq_true rfl)
  have z141 : n0 ≤ h140.size := (Nat.le_trans z137 (Nat.le_of_eq W140.size.symm))
  have o142 := o138.wr W140 g_b104
  have N140 := Fr.snoc X140 N136 g_b104
  show Rch p e below _ (T140.setTop (mkF m 183 #[.val (.int p0), .val (.ref b1), .unset, .unset] [(.ref b104)]))
  refine Rch.go (fun t k => XS.dup X140.here hx rfl (hb hby at_183) rfl rfl k) ?_
  show Rch p e below _ (T140.setTop (mkF m 184 #[.val (.int p0), .val (.ref b1), .unset, .unset] [(.ref b104), (.ref b104)]))
  refine Rch.go (fun t k => XS.bipush X140.here hx rfl (hb hby at_184) k) ?_
  show Rch p e below _ (T140.setTop (mkF m 186 #[.val (.int p0), .val (.ref b1), .unset, .unset] [(.int (9 : Int32)), (.ref b104), (.ref b104)]))
  refine Rch.go (fun t k => XS.iconst X140.here hx rfl (hb hby at_186) k) ?_
  show Rch p e below _ (T140.setTop (mkF m 187 #[.val (.int p0), .val (.ref b1), .unset, .unset] [(.int (0 : Int32)), (.int (9 : Int32)), (.ref b104), (.ref b104)]))
  obtain ⟨c143, r143, q143, s143, u143, H143, G143⟩ := V140
  obtain ⟨T144, h144, X144, e144, W144, st144⟩ := stZ X140 hx hZ e140 r143 (j := (9 : Int32)) (inb_of s143 (by decide)) (g := (mkF m 187 #[.val (.int p0), .val (.ref b1), .unset, .unset] [(.int (0 : Int32)), (.int (9 : Int32)), (.ref b104), (.ref b104)])) rfl rfl (hb hby at_187)
  refine Rch.go st144 ?_
  have V144 : Arv Z h144 b104 k104 .boolean (20 : Int32) [(.int (0 : Int32)), (.int (0 : Int32)), (.int (0 : Int32)), (.int (1 : Int32)), (.int (1 : Int32)), (.int (0 : Int32)), (.int (0 : Int32)), (.int (0 : Int32)), (.int (0 : Int32)), (.int (0 : Int32)), (.int (0 : Int32)), (.int (0 : Int32)), (.int (0 : Int32)), (.int (0 : Int32)), (.int (0 : Int32)), (.int (0 : Int32)), (.int (0 : Int32)), (.int (0 : Int32)), (.int (0 : Int32)), (.int (0 : Int32))] (.int (0 : Int32)) := Arv.set r143 q143 s143 u143 H143 G143 (fits_nar_bool _) W144 9 rfl (Nat.le_of_ble_eq_true rfl)
  have z145 : n0 ≤ h144.size := (Nat.le_trans z141 (Nat.le_of_eq W144.size.symm))
  have o146 := o142.wr W144 g_b104
  have N144 := Fr.snoc X144 N140 g_b104
  show Rch p e below _ (T144.setTop (mkF m 188 #[.val (.int p0), .val (.ref b1), .unset, .unset] [(.ref b104)]))
  refine Rch.go (fun t k => XS.dup X144.here hx rfl (hb hby at_188) rfl rfl k) ?_
  show Rch p e below _ (T144.setTop (mkF m 189 #[.val (.int p0), .val (.ref b1), .unset, .unset] [(.ref b104), (.ref b104)]))
  refine Rch.go (fun t k => XS.bipush X144.here hx rfl (hb hby at_189) k) ?_
  show Rch p e below _ (T144.setTop (mkF m 191 #[.val (.int p0), .val (.ref b1), .unset, .unset] [(.int (10 : Int32)), (.ref b104), (.ref b104)]))
  refine Rch.go (fun t k => XS.iconst X144.here hx rfl (hb hby at_191) k) ?_
  show Rch p e below _ (T144.setTop (mkF m 192 #[.val (.int p0), .val (.ref b1), .unset, .unset] [(.int (0 : Int32)), (.int (10 : Int32)), (.ref b104), (.ref b104)]))
  obtain ⟨c147, r147, q147, s147, u147, H147, G147⟩ := V144
  obtain ⟨T148, h148, X148, e148, W148, st148⟩ := stZ X144 hx hZ e144 r147 (j := (10 : Int32)) (inb_of s147 (by decide)) (g := (mkF m 192 #[.val (.int p0), .val (.ref b1), .unset, .unset] [(.int (0 : Int32)), (.int (10 : Int32)), (.ref b104), (.ref b104)])) rfl rfl (hb hby at_192)
  refine Rch.go st148 ?_
  have V148 : Arv Z h148 b104 k104 .boolean (20 : Int32) [(.int (0 : Int32)), (.int (0 : Int32)), (.int (0 : Int32)), (.int (1 : Int32)), (.int (1 : Int32)), (.int (0 : Int32)), (.int (0 : Int32)), (.int (0 : Int32)), (.int (0 : Int32)), (.int (0 : Int32)), (.int (0 : Int32)), (.int (0 : Int32)), (.int (0 : Int32)), (.int (0 : Int32)), (.int (0 : Int32)), (.int (0 : Int32)), (.int (0 : Int32)), (.int (0 : Int32)), (.int (0 : Int32)), (.int (0 : Int32))] (.int (0 : Int32)) := Arv.set r147 q147 s147 u147 H147 G147 (fits_nar_bool _) W148 10 rfl (Nat.le_of_ble_eq_true rfl)
  have z149 : n0 ≤ h148.size := (Nat.le_trans z145 (Nat.le_of_eq W148.size.symm))
  have o150 := o146.wr W148 g_b104
  have N148 := Fr.snoc X148 N144 g_b104
  show Rch p e below _ (T148.setTop (mkF m 193 #[.val (.int p0), .val (.ref b1), .unset, .unset] [(.ref b104)]))
  refine Rch.go (fun t k => XS.dup X148.here hx rfl (hb hby at_193) rfl rfl k) ?_
  show Rch p e below _ (T148.setTop (mkF m 194 #[.val (.int p0), .val (.ref b1), .unset, .unset] [(.ref b104), (.ref b104)]))
  refine Rch.go (fun t k => XS.bipush X148.here hx rfl (hb hby at_194) k) ?_
  show Rch p e below _ (T148.setTop (mkF m 196 #[.val (.int p0), .val (.ref b1), .unset, .unset] [(.int (11 : Int32)), (.ref b104), (.ref b104)]))
  refine Rch.go (fun t k => XS.iconst X148.here hx rfl (hb hby at_196) k) ?_
  show Rch p e below _ (T148.setTop (mkF m 197 #[.val (.int p0), .val (.ref b1), .unset, .unset] [(.int (0 : Int32)), (.int (11 : Int32)), (.ref b104), (.ref b104)]))
  obtain ⟨c151, r151, q151, s151, u151, H151, G151⟩ := V148
  obtain ⟨T152, h152, X152, e152, W152, st152⟩ := stZ X148 hx hZ e148 r151 (j := (11 : Int32)) (inb_of s151 (by decide)) (g := (mkF m 197 #[.val (.int p0), .val (.ref b1), .unset, .unset] [(.int (0 : Int32)), (.int (11 : Int32)), (.ref b104), (.ref b104)])) rfl rfl (hb hby at_197)
  refine Rch.go st152 ?_
  have V152 : Arv Z h152 b104 k104 .boolean (20 : Int32) [(.int (0 : Int32)), (.int (0 : Int32)), (.int (0 : Int32)), (.int (1 : Int32)), (.int (1 : Int32)), (.int (0 : Int32)), (.int (0 : Int32)), (.int (0 : Int32)), (.int (0 : Int32)), (.int (0 : Int32)), (.int (0 : Int32)), (.int (0 : Int32)), (.int (0 : Int32)), (.int (0 : Int32)), (.int (0 : Int32)), (.int (0 : Int32)), (.int (0 : Int32)), (.int (0 : Int32)), (.int (0 : Int32)), (.int (0 : Int32))] (.int (0 : Int32)) := Arv.set r151 q151 s151 u151 H151 G151 (fits_nar_bool _) W152 11 rfl (Nat.le_of_ble_eq_true rfl)
  have z153 : n0 ≤ h152.size := (Nat.le_trans z149 (Nat.le_of_eq W152.size.symm))
  have o154 := o150.wr W152 g_b104
  have N152 := Fr.snoc X152 N148 g_b104
  show Rch p e below _ (T152.setTop (mkF m 198 #[.val (.int p0), .val (.ref b1), .unset, .unset] [(.ref b104)]))
  refine Rch.go (fun t k => XS.dup X152.here hx rfl (hb hby at_198) rfl rfl k) ?_
  show Rch p e below _ (T152.setTop (mkF m 199 #[.val (.int p0), .val (.ref b1), .unset, .unset] [(.ref b104), (.ref b104)]))
  refine Rch.go (fun t k => XS.bipush X152.here hx rfl (hb hby at_199) k) ?_
  show Rch p e below _ (T152.setTop (mkF m 201 #[.val (.int p0), .val (.ref b1), .unset, .unset] [(.int (12 : Int32)), (.ref b104), (.ref b104)]))
  refine Rch.go (fun t k => XS.iconst X152.here hx rfl (hb hby at_201) k) ?_
  show Rch p e below _ (T152.setTop (mkF m 202 #[.val (.int p0), .val (.ref b1), .unset, .unset] [(.int (0 : Int32)), (.int (12 : Int32)), (.ref b104), (.ref b104)]))
  obtain ⟨c155, r155, q155, s155, u155, H155, G155⟩ := V152
  obtain ⟨T156, h156, X156, e156, W156, st156⟩ := stZ X152 hx hZ e152 r155 (j := (12 : Int32)) (inb_of s155 (by decide)) (g := (mkF m 202 #[.val (.int p0), .val (.ref b1), .unset, .unset] [(.int (0 : Int32)), (.int (12 : Int32)), (.ref b104), (.ref b104)])) rfl rfl (hb hby at_202)
  refine Rch.go st156 ?_
  have V156 : Arv Z h156 b104 k104 .boolean (20 : Int32) [(.int (0 : Int32)), (.int (0 : Int32)), (.int (0 : Int32)), (.int (1 : Int32)), (.int (1 : Int32)), (.int (0 : Int32)), (.int (0 : Int32)), (.int (0 : Int32)), (.int (0 : Int32)), (.int (0 : Int32)), (.int (0 : Int32)), (.int (0 : Int32)), (.int (0 : Int32)), (.int (0 : Int32)), (.int (0 : Int32)), (.int (0 : Int32)), (.int (0 : Int32)), (.int (0 : Int32)), (.int (0 : Int32)), (.int (0 : Int32))] (.int (0 : Int32)) := Arv.set r155 q155 s155 u155 H155 G155 (fits_nar_bool _) W156 12 rfl (Nat.le_of_ble_eq_true rfl)
  have z157 : n0 ≤ h156.size := (Nat.le_trans z153 (Nat.le_of_eq W156.size.symm))
  have o158 := o154.wr W156 g_b104
  have N156 := Fr.snoc X156 N152 g_b104
  show Rch p e below _ (T156.setTop (mkF m 203 #[.val (.int p0), .val (.ref b1), .unset, .unset] [(.ref b104)]))
  refine Rch.go (fun t k => XS.dup X156.here hx rfl (hb hby at_203) rfl rfl k) ?_
  show Rch p e below _ (T156.setTop (mkF m 204 #[.val (.int p0), .val (.ref b1), .unset, .unset] [(.ref b104), (.ref b104)]))
  refine Rch.go (fun t k => XS.bipush X156.here hx rfl (hb hby at_204) k) ?_
  show Rch p e below _ (T156.setTop (mkF m 206 #[.val (.int p0), .val (.ref b1), .unset, .unset] [(.int (13 : Int32)), (.ref b104), (.ref b104)]))
  refine Rch.go (fun t k => XS.iconst X156.here hx rfl (hb hby at_206) k) ?_
  show Rch p e below _ (T156.setTop (mkF m 207 #[.val (.int p0), .val (.ref b1), .unset, .unset] [(.int (0 : Int32)), (.int (13 : Int32)), (.ref b104), (.ref b104)]))
  obtain ⟨c159, r159, q159, s159, u159, H159, G159⟩ := V156
  obtain ⟨T160, h160, X160, e160, W160, st160⟩ := stZ X156 hx hZ e156 r159 (j := (13 : Int32)) (inb_of s159 (by decide)) (g := (mkF m 207 #[.val (.int p0), .val (.ref b1), .unset, .unset] [(.int (0 : Int32)), (.int (13 : Int32)), (.ref b104), (.ref b104)])) rfl rfl (hb hby at_207)
  refine Rch.go st160 ?_
  have V160 : Arv Z h160 b104 k104 .boolean (20 : Int32) [(.int (0 : Int32)), (.int (0 : Int32)), (.int (0 : Int32)), (.int (1 : Int32)), (.int (1 : Int32)), (.int (0 : Int32)), (.int (0 : Int32)), (.int (0 : Int32)), (.int (0 : Int32)), (.int (0 : Int32)), (.int (0 : Int32)), (.int (0 : Int32)), (.int (0 : Int32)), (.int (0 : Int32)), (.int (0 : Int32)), (.int (0 : Int32)), (.int (0 : Int32)), (.int (0 : Int32)), (.int (0 : Int32)), (.int (0 : Int32))] (.int (0 : Int32)) := Arv.set r159 q159 s159 u159 H159 G159 (fits_nar_bool _) W160 13 rfl (Nat.le_of_ble_eq_true rfl)
  have z161 : n0 ≤ h160.size := (Nat.le_trans z157 (Nat.le_of_eq W160.size.symm))
  have o162 := o158.wr W160 g_b104
  have N160 := Fr.snoc X160 N156 g_b104
  show Rch p e below _ (T160.setTop (mkF m 208 #[.val (.int p0), .val (.ref b1), .unset, .unset] [(.ref b104)]))
  refine Rch.go (fun t k => XS.dup X160.here hx rfl (hb hby at_208) rfl rfl k) ?_
  show Rch p e below _ (T160.setTop (mkF m 209 #[.val (.int p0), .val (.ref b1), .unset, .unset] [(.ref b104), (.ref b104)]))
  refine Rch.go (fun t k => XS.bipush X160.here hx rfl (hb hby at_209) k) ?_
  show Rch p e below _ (T160.setTop (mkF m 211 #[.val (.int p0), .val (.ref b1), .unset, .unset] [(.int (14 : Int32)), (.ref b104), (.ref b104)]))
  refine Rch.go (fun t k => XS.iconst X160.here hx rfl (hb hby at_211) k) ?_
  show Rch p e below _ (T160.setTop (mkF m 212 #[.val (.int p0), .val (.ref b1), .unset, .unset] [(.int (0 : Int32)), (.int (14 : Int32)), (.ref b104), (.ref b104)]))
  obtain ⟨c163, r163, q163, s163, u163, H163, G163⟩ := V160
  obtain ⟨T164, h164, X164, e164, W164, st164⟩ := stZ X160 hx hZ e160 r163 (j := (14 : Int32)) (inb_of s163 (by decide)) (g := (mkF m 212 #[.val (.int p0), .val (.ref b1), .unset, .unset] [(.int (0 : Int32)), (.int (14 : Int32)), (.ref b104), (.ref b104)])) rfl rfl (hb hby at_212)
  refine Rch.go st164 ?_
  have V164 : Arv Z h164 b104 k104 .boolean (20 : Int32) [(.int (0 : Int32)), (.int (0 : Int32)), (.int (0 : Int32)), (.int (1 : Int32)), (.int (1 : Int32)), (.int (0 : Int32)), (.int (0 : Int32)), (.int (0 : Int32)), (.int (0 : Int32)), (.int (0 : Int32)), (.int (0 : Int32)), (.int (0 : Int32)), (.int (0 : Int32)), (.int (0 : Int32)), (.int (0 : Int32)), (.int (0 : Int32)), (.int (0 : Int32)), (.int (0 : Int32)), (.int (0 : Int32)), (.int (0 : Int32))] (.int (0 : Int32)) := Arv.set r163 q163 s163 u163 H163 G163 (fits_nar_bool _) W164 14 rfl (Nat.le_of_ble_eq_true rfl)
  have z165 : n0 ≤ h164.size := (Nat.le_trans z161 (Nat.le_of_eq W164.size.symm))
  have o166 := o162.wr W164 g_b104
  have N164 := Fr.snoc X164 N160 g_b104
  show Rch p e below _ (T164.setTop (mkF m 213 #[.val (.int p0), .val (.ref b1), .unset, .unset] [(.ref b104)]))
  refine Rch.go (fun t k => XS.dup X164.here hx rfl (hb hby at_213) rfl rfl k) ?_
  show Rch p e below _ (T164.setTop (mkF m 214 #[.val (.int p0), .val (.ref b1), .unset, .unset] [(.ref b104), (.ref b104)]))
  refine Rch.go (fun t k => XS.bipush X164.here hx rfl (hb hby at_214) k) ?_
  show Rch p e below _ (T164.setTop (mkF m 216 #[.val (.int p0), .val (.ref b1), .unset, .unset] [(.int (15 : Int32)), (.ref b104), (.ref b104)]))
  refine Rch.go (fun t k => XS.iconst X164.here hx rfl (hb hby at_216) k) ?_
  show Rch p e below _ (T164.setTop (mkF m 217 #[.val (.int p0), .val (.ref b1), .unset, .unset] [(.int (0 : Int32)), (.int (15 : Int32)), (.ref b104), (.ref b104)]))
  obtain ⟨c167, r167, q167, s167, u167, H167, G167⟩ := V164
  obtain ⟨T168, h168, X168, e168, W168, st168⟩ := stZ X164 hx hZ e164 r167 (j := (15 : Int32)) (inb_of s167 (by decide)) (g := (mkF m 217 #[.val (.int p0), .val (.ref b1), .unset, .unset] [(.int (0 : Int32)), (.int (15 : Int32)), (.ref b104), (.ref b104)])) rfl rfl (hb hby at_217)
  refine Rch.go st168 ?_
  have V168 : Arv Z h168 b104 k104 .boolean (20 : Int32) [(.int (0 : Int32)), (.int (0 : Int32)), (.int (0 : Int32)), (.int (1 : Int32)), (.int (1 : Int32)), (.int (0 : Int32)), (.int (0 : Int32)), (.int (0 : Int32)), (.int (0 : Int32)), (.int (0 : Int32)), (.int (0 : Int32)), (.int (0 : Int32)), (.int (0 : Int32)), (.int (0 : Int32)), (.int (0 : Int32)), (.int (0 : Int32)), (.int (0 : Int32)), (.int (0 : Int32)), (.int (0 : Int32)), (.int (0 : Int32))] (.int (0 : Int32)) := Arv.set r167 q167 s167 u167 H167 G167 (fits_nar_bool _) W168 15 rfl (Nat.le_of_ble_eq_true rfl)
  have z169 : n0 ≤ h168.size := (Nat.le_trans z165 (Nat.le_of_eq W168.size.symm))
  have o170 := o166.wr W168 g_b104
  have N168 := Fr.snoc X168 N164 g_b104
  show Rch p e below _ (T168.setTop (mkF m 218 #[.val (.int p0), .val (.ref b1), .unset, .unset] [(.ref b104)]))
  refine Rch.go (fun t k => XS.dup X168.here hx rfl (hb hby at_218) rfl rfl k) ?_
  show Rch p e below _ (T168.setTop (mkF m 219 #[.val (.int p0), .val (.ref b1), .unset, .unset] [(.ref b104), (.ref b104)]))
  refine Rch.go (fun t k => XS.bipush X168.here hx rfl (hb hby at_219) k) ?_
  show Rch p e below _ (T168.setTop (mkF m 221 #[.val (.int p0), .val (.ref b1), .unset, .unset] [(.int (16 : Int32)), (.ref b104), (.ref b104)]))
  refine Rch.go (fun t k => XS.iconst X168.here hx rfl (hb hby at_221) k) ?_
  show Rch p e below _ (T168.setTop (mkF m 222 #[.val (.int p0), .val (.ref b1), .unset, .unset] [(.int (0 : Int32)), (.int (16 : Int32)), (.ref b104), (.ref b104)]))
  obtain ⟨c171, r171, q171, s171, u171, H171, G171⟩ := V168
  obtain ⟨T172, h172, X172, e172, W172, st172⟩ := stZ X168 hx hZ e168 r171 (j := (16 : Int32)) (inb_of s171 (by decide)) (g := (mkF m 222 #[.val (.int p0), .val (.ref b1), .unset, .unset] [(.int (0 : Int32)), (.int (16 : Int32)), (.ref b104), (.ref b104)])) rfl rfl (hb hby at_222)
  refine Rch.go st172 ?_
  have V172 : Arv Z h172 b104 k104 .boolean (20 : Int32) [(.int (0 : Int32)), (.int (0 : Int32)), (.int (0 : Int32)), (.int (1 : Int32)), (.int (1 : Int32)), (.int (0 : Int32)), (.int (0 : Int32)), (.int (0 : Int32)), (.int (0 : Int32)), (.int (0 : Int32)), (.int (0 : Int32)), (.int (0 : Int32)), (.int (0 : Int32)), (.int (0 : Int32)), (.int (0 : Int32)), (.int (0 : Int32)), (.int (0 : Int32)), (.int (0 : Int32)), (.int (0 : Int32)), (.int (0 : Int32))] (.int (0 : Int32)) := Arv.set r171 q171 s171 u171 H171 G171 (fits_nar_bool _) W172 16 rfl (Nat.le_of_ble_eq_true rfl)
  have z173 : n0 ≤ h172.size := (Nat.le_trans z169 (Nat.le_of_eq W172.size.symm))
  have o174 := o170.wr W172 g_b104
  have N172 := Fr.snoc X172 N168 g_b104
  show Rch p e below _ (T172.setTop (mkF m 223 #[.val (.int p0), .val (.ref b1), .unset, .unset] [(.ref b104)]))
  refine Rch.go (fun t k => XS.dup X172.here hx rfl (hb hby at_223) rfl rfl k) ?_
  show Rch p e below _ (T172.setTop (mkF m 224 #[.val (.int p0), .val (.ref b1), .unset, .unset] [(.ref b104), (.ref b104)]))
  refine Rch.go (fun t k => XS.bipush X172.here hx rfl (hb hby at_224) k) ?_
  show Rch p e below _ (T172.setTop (mkF m 226 #[.val (.int p0), .val (.ref b1), .unset, .unset] [(.int (17 : Int32)), (.ref b104), (.ref b104)]))
  refine Rch.go (fun t k => XS.iconst X172.here hx rfl (hb hby at_226) k) ?_
  show Rch p e below _ (T172.setTop (mkF m 227 #[.val (.int p0), .val (.ref b1), .unset, .unset] [(.int (0 : Int32)), (.int (17 : Int32)), (.ref b104), (.ref b104)]))
  obtain ⟨c175, r175, q175, s175, u175, H175, G175⟩ := V172
  obtain ⟨T176, h176, X176, e176, W176, st176⟩ := stZ X172 hx hZ e172 r175 (j := (17 : Int32)) (inb_of s175 (by decide)) (g := (mkF m 227 #[.val (.int p0), .val (.ref b1), .unset, .unset] [(.int (0 : Int32)), (.int (17 : Int32)), (.ref b104), (.ref b104)])) rfl rfl (hb hby at_227)
  refine Rch.go st176 ?_
  have V176 : Arv Z h176 b104 k104 .boolean (20 : Int32) [(.int (0 : Int32)), (.int (0 : Int32)), (.int (0 : Int32)), (.int (1 : Int32)), (.int (1 : Int32)), (.int (0 : Int32)), (.int (0 : Int32)), (.int (0 : Int32)), (.int (0 : Int32)), (.int (0 : Int32)), (.int (0 : Int32)), (.int (0 : Int32)), (.int (0 : Int32)), (.int (0 : Int32)), (.int (0 : Int32)), (.int (0 : Int32)), (.int (0 : Int32)), (.int (0 : Int32)), (.int (0 : Int32)), (.int (0 : Int32))] (.int (0 : Int32)) := Arv.set r175 q175 s175 u175 H175 G175 (fits_nar_bool _) W176 17 rfl (Nat.le_of_ble_eq_true rfl)
  have z177 : n0 ≤ h176.size := (Nat.le_trans z173 (Nat.le_of_eq W176.size.symm))
  have o178 := o174.wr W176 g_b104
  have N176 := Fr.snoc X176 N172 g_b104
  show Rch p e below _ (T176.setTop (mkF m 228 #[.val (.int p0), .val (.ref b1), .unset, .unset] [(.ref b104)]))
  refine Rch.go (fun t k => XS.dup X176.here hx rfl (hb hby at_228) rfl rfl k) ?_
  show Rch p e below _ (T176.setTop (mkF m 229 #[.val (.int p0), .val (.ref b1), .unset, .unset] [(.ref b104), (.ref b104)]))
  refine Rch.go (fun t k => XS.bipush X176.here hx rfl (hb hby at_229) k) ?_
  show Rch p e below _ (T176.setTop (mkF m 231 #[.val (.int p0), .val (.ref b1), .unset, .unset] [(.int (18 : Int32)), (.ref b104), (.ref b104)]))
  refine Rch.go (fun t k => XS.iconst X176.here hx rfl (hb hby at_231) k) ?_
  show Rch p e below _ (T176.setTop (mkF m 232 #[.val (.int p0), .val (.ref b1), .unset, .unset] [(.int (0 : Int32)), (.int (18 : Int32)), (.ref b104), (.ref b104)]))
  obtain ⟨c179, r179, q179, s179, u179, H179, G179⟩ := V176
  obtain ⟨T180, h180, X180, e180, W180, st180⟩ := stZ X176 hx hZ e176 r179 (j := (18 : Int32)) (inb_of s179 (by decide)) (g := (mkF m 232 #[.val (.int p0), .val (.ref b1), .unset, .unset] [(.int (0 : Int32)), (.int (18 : Int32)), (.ref b104), (.ref b104)])) rfl rfl (hb hby at_232)
  refine Rch.go st180 ?_
  have V180 : Arv Z h180 b104 k104 .boolean (20 : Int32) [(.int (0 : Int32)), (.int (0 : Int32)), (.int (0 : Int32)), (.int (1 : Int32)), (.int (1 : Int32)), (.int (0 : Int32)), (.int (0 : Int32)), (.int (0 : Int32)), (.int (0 : Int32)), (.int (0 : Int32)), (.int (0 : Int32)), (.int (0 : Int32)), (.int (0 : Int32)), (.int (0 : Int32)), (.int (0 : Int32)), (.int (0 : Int32)), (.int (0 : Int32)), (.int (0 : Int32)), (.int (0 : Int32)), (.int (0 : Int32))] (.int (0 : Int32)) := Arv.set r179 q179 s179 u179 H179 G179 (fits_nar_bool _) W180 18 rfl (Nat.le_of_ble_eq_true rfl)
  have z181 : n0 ≤ h180.size := (Nat.le_trans z177 (Nat.le_of_eq W180.size.symm))
  have o182 := o178.wr W180 g_b104
  have N180 := Fr.snoc X180 N176 g_b104
  show Rch p e below _ (T180.setTop (mkF m 233 #[.val (.int p0), .val (.ref b1), .unset, .unset] [(.ref b104)]))
  refine Rch.go (fun t k => XS.dup X180.here hx rfl (hb hby at_233) rfl rfl k) ?_
  show Rch p e below _ (T180.setTop (mkF m 234 #[.val (.int p0), .val (.ref b1), .unset, .unset] [(.ref b104), (.ref b104)]))
  refine Rch.go (fun t k => XS.bipush X180.here hx rfl (hb hby at_234) k) ?_
  show Rch p e below _ (T180.setTop (mkF m 236 #[.val (.int p0), .val (.ref b1), .unset, .unset] [(.int (19 : Int32)), (.ref b104), (.ref b104)]))
  refine Rch.go (fun t k => XS.iconst X180.here hx rfl (hb hby at_236) k) ?_
  show Rch p e below _ (T180.setTop (mkF m 237 #[.val (.int p0), .val (.ref b1), .unset, .unset] [(.int (0 : Int32)), (.int (19 : Int32)), (.ref b104), (.ref b104)]))
  obtain ⟨c183, r183, q183, s183, u183, H183, G183⟩ := V180
  obtain ⟨T184, h184, X184, e184, W184, st184⟩ := stZ X180 hx hZ e180 r183 (j := (19 : Int32)) (inb_of s183 (by decide)) (g := (mkF m 237 #[.val (.int p0), .val (.ref b1), .unset, .unset] [(.int (0 : Int32)), (.int (19 : Int32)), (.ref b104), (.ref b104)])) rfl rfl (hb hby at_237)
  refine Rch.go st184 ?_
  have V184 : Arv Z h184 b104 k104 .boolean (20 : Int32) [(.int (0 : Int32)), (.int (0 : Int32)), (.int (0 : Int32)), (.int (1 : Int32)), (.int (1 : Int32)), (.int (0 : Int32)), (.int (0 : Int32)), (.int (0 : Int32)), (.int (0 : Int32)), (.int (0 : Int32)), (.int (0 : Int32)), (.int (0 : Int32)), (.int (0 : Int32)), (.int (0 : Int32)), (.int (0 : Int32)), (.int (0 : Int32)), (.int (0 : Int32)), (.int (0 : Int32)), (.int (0 : Int32)), (.int (0 : Int32))] (.int (0 : Int32)) := Arv.set r183 q183 s183 u183 H183 G183 (fits_nar_bool _) W184 19 rfl (Nat.le_of_ble_eq_true rfl)
  have z185 : n0 ≤ h184.size := (Nat.le_trans z181 (Nat.le_of_eq W184.size.symm))
  have o186 := o182.wr W184 g_b104
  have N184 := Fr.snoc X184 N180 g_b104
  show Rch p e below _ (T184.setTop (mkF m 238 #[.val (.int p0), .val (.ref b1), .unset, .unset] [(.ref b104)]))
  refine Rch.go (fun t k => XS.astoreN X184.here hx rfl (hb hby at_238) rfl rfl (l' := #[.val (.int p0), .val (.ref b1), .val (.ref b104), .unset]) rfl k) ?_
  show Rch p e below _ (T184.setTop (mkF m 239 #[.val (.int p0), .val (.ref b1), .val (.ref b104), .unset] []))
  refine Rch.go (fun t k => XS.iloadN X184.here hx rfl (hb hby at_239) rfl  k) ?_
  show Rch p e below _ (T184.setTop (mkF m 240 #[.val (.int p0), .val (.ref b1), .val (.ref b104), .unset] [(.int p0)]))
  refine Rch.go (fun t k => Jvm.Stand.ldcI X184 hx hown (mvT hZ (wd_45 hw)) rfl (hb hby at_240) k) ?_
  show Rch p e below _ (T184.setTop (mkF m 242 #[.val (.int p0), .val (.ref b1), .val (.ref b104), .unset] [(.int (2147483647 : Int32)), (.int p0)]))
  refine Rch.go (fun t k => XS.iand X184.here hx rfl (hb hby at_242) rfl k) ?_
  show Rch p e below _ (T184.setTop (mkF m 243 #[.val (.int p0), .val (.ref b1), .val (.ref b104), .unset] [(.int (p0 &&& (2147483647 : Int32)))]))
  refine Rch.go (fun t k => XS.bipush X184.here hx rfl (hb hby at_243) k) ?_
  show Rch p e below _ (T184.setTop (mkF m 245 #[.val (.int p0), .val (.ref b1), .val (.ref b104), .unset] [(.int (20 : Int32)), (.int (p0 &&& (2147483647 : Int32)))]))
  refine Rch.go (fun t k => iremM X184 hx rfl (hb hby at_245) rfl (by decide) k) ?_
  show Rch p e below _ (T184.setTop (mkF m 246 #[.val (.int p0), .val (.ref b1), .val (.ref b104), .unset] [(.int ((p0 &&& (2147483647 : Int32)) % (20 : Int32)))]))
  have lt187 := (Nat.lt_of_lt_of_le (Nat.lt_of_lt_of_le (Nat.lt_of_lt_of_le (Nat.lt_of_lt_of_le (Nat.lt_of_lt_of_le (Nat.lt_of_lt_of_le (Nat.lt_of_lt_of_le (Nat.lt_of_lt_of_le (Nat.lt_of_lt_of_le (Nat.lt_of_lt_of_le (Nat.lt_of_lt_of_le (Nat.lt_of_lt_of_le (Nat.lt_of_lt_of_le (Nat.lt_of_lt_of_le (Nat.lt_of_lt_of_le (Nat.lt_of_lt_of_le (Nat.lt_of_lt_of_le (Nat.lt_of_lt_of_le (Nat.lt_of_lt_of_le (Nat.lt_of_lt_of_le B1.lt (Nat.le_of_eq W6.size.symm)) (Nat.le_of_eq W11.size.symm)) (Nat.le_of_eq W16.size.symm)) (Nat.le_of_eq W21.size.symm)) (Nat.le_of_eq W26.size.symm)) (Nat.le_of_eq W31.size.symm)) (Nat.le_of_eq W36.size.symm)) (Nat.le_of_eq W41.size.symm)) (Nat.le_of_eq W46.size.symm)) (Nat.le_of_eq W51.size.symm)) (Nat.le_of_eq W56.size.symm)) (Nat.le_of_eq W61.size.symm)) (Nat.le_of_eq W66.size.symm)) (Nat.le_of_eq W71.size.symm)) (Nat.le_of_eq W76.size.symm)) (Nat.le_of_eq W81.size.symm)) (Nat.le_of_eq W86.size.symm)) (Nat.le_of_eq W91.size.symm)) (Nat.le_of_eq W96.size.symm)) (Nat.le_of_eq W101.size.symm))
  have ne188 : b1 ≠ b104 := Nat.ne_of_lt (Nat.lt_of_lt_of_le lt187 (Nat.le_of_eq g104.symm))
  have f189 := (((((((((((((((((((((V101.ext E104).other W108 ne188).other W112 ne188).other W116 ne188).other W120 ne188).other W124 ne188).other W128 ne188).other W132 ne188).other W136 ne188).other W140 ne188).other W144 ne188).other W148 ne188).other W152 ne188).other W156 ne188).other W160 ne188).other W164 ne188).other W168 ne188).other W172 ne188).other W176 ne188).other W180 ne188).other W184 ne188)
  rcases own_mod20 p0 with hq | hq | hq | hq | hq | hq | hq | hq | hq | hq | hq | hq | hq | hq | hq | hq | hq | hq | hq | hq
  · rw [hq]
    show Rch p e below _ (T184.setTop (mkF m 246 #[.val (.int p0), .val (.ref b1), .val (.ref b104), .unset] [(.int (0 : Int32))]))
    refine Rch.go (fun t k => XS.istoreN X184.here hx rfl (hb hby at_246) rfl  (l' := #[.val (.int p0), .val (.ref b1), .val (.ref b104), .val (.int (0 : Int32))]) rfl k) ?_
    show Rch p e below _ (T184.setTop (mkF m 247 #[.val (.int p0), .val (.ref b1), .val (.ref b104), .val (.int (0 : Int32))] []))
    refine Rch.go (fun t k => XS.aloadN X184.here hx rfl (hb hby at_247) rfl rfl k) ?_
    show Rch p e below _ (T184.setTop (mkF m 248 #[.val (.int p0), .val (.ref b1), .val (.ref b104), .val (.int (0 : Int32))] [(.ref b1)]))
    refine Rch.go (fun t k => XS.iloadN X184.here hx rfl (hb hby at_248) rfl  k) ?_
    show Rch p e below _ (T184.setTop (mkF m 249 #[.val (.int p0), .val (.ref b1), .val (.ref b104), .val (.int (0 : Int32))] [(.int (0 : Int32)), (.ref b1)]))
    obtain ⟨c190, r190, q190, s190, u190, H190, G190⟩ := f189
    refine Rch.go (fun t k => X184.aaload hx (j := (0 : Int32)) (v := (.ref ro0)) (by rw [e184]; exact r190.1) (State.isArrayOf_alike hZ.alike r190.2.1) rfl r190.2.2 (inb_of s190 (by decide)) (H190.at (inb_of s190 (by decide)) rfl) (g := (mkF m 249 #[.val (.int p0), .val (.ref b1), .val (.ref b104), .val (.int (0 : Int32))] [(.int (0 : Int32)), (.ref b1)])) rfl rfl (hb hby at_249) t k) ?_
    show Rch p e below _ (T184.setTop (mkF m 250 #[.val (.int p0), .val (.ref b1), .val (.ref b104), .val (.int (0 : Int32))] [(.ref ro0)]))
    obtain ⟨v191, T191, L191, X191, Q191, st191⟩ := callVi X184 hx hZ (mn_0 l Z a0 hw ro0 ro1 ro2 ro3 ro4 ro5 ro6 ro7 ro8 ro9 ro10 ro11 ro12 ro13 ro14 ro15 ro16 ro17 ro18 ro19 h184 n0 z185 o186 G) e184 hown (wd_46 hw) (wd_47 hw) (wd_49 hw) (notFace_of_selects (args := #[]) (mvT hZ (wd_49 hw))) (wd_48 hw) (wd_50 hw) (wd_3 hw) (by decide) (hb hby at_250) 0 (by decide) (by decide) (by decide) (by decide) (by rw [hml]; rfl) ro0 (G.2.1.ext o186.2) [] [] rfl (lenOf pd_0 rfl) rfl (Nat.le_of_eq rfl) (Ls := #[.val (.int p0), .val (.ref b1), .val (.ref b104), .val (.int (0 : Int32))])
    obtain ⟨rfl, M191, e191⟩ := Q191
    have N191 := Fr.app N184 M191
    refine Rch.go st191 ?_
    show Rch p e below _ (T191.setTop (mkF m 253 #[.val (.int p0), .val (.ref b1), .val (.ref b104), .val (.int (0 : Int32))] [(.int (0 : Int32))]))
    refine Rch.go (fun t k => XS.aloadN X191.here hx rfl (hb hby at_253) rfl rfl k) ?_
    show Rch p e below _ (T191.setTop (mkF m 254 #[.val (.int p0), .val (.ref b1), .val (.ref b104), .val (.int (0 : Int32))] [(.ref b104), (.int (0 : Int32))]))
    refine Rch.go (fun t k => XS.iloadN X191.here hx rfl (hb hby at_254) rfl  k) ?_
    show Rch p e below _ (T191.setTop (mkF m 255 #[.val (.int p0), .val (.ref b1), .val (.ref b104), .val (.int (0 : Int32))] [(.int (0 : Int32)), (.ref b104), (.int (0 : Int32))]))
    obtain ⟨c192, r192, q192, s192, u192, H192, G192⟩ := V184
    refine Rch.go (fun t k => X191.baloadBooleans hx (j := (0 : Int32)) (v := (.int (0 : Int32))) (by rw [e191]; exact r192.1) (State.isArrayOf_alike hZ.alike r192.2.1) r192.2.2 (inb_of s192 (by decide)) (H192.at (inb_of s192 (by decide)) rfl) (g := (mkF m 255 #[.val (.int p0), .val (.ref b1), .val (.ref b104), .val (.int (0 : Int32))] [(.int (0 : Int32)), (.ref b104), (.int (0 : Int32))])) rfl rfl (hb hby at_255) t k) ?_
    show Rch p e below _ (T191.setTop (mkF m 256 #[.val (.int p0), .val (.ref b1), .val (.ref b104), .val (.int (0 : Int32))] [(.int (0 : Int32)), (.int (0 : Int32))]))
    refine Rch.go (fun t k => XS.icmpNo X191.here hx rfl (hb hby at_256) rfl (by decide) k) ?_
    show Rch p e below _ (T191.setTop (mkF m 259 #[.val (.int p0), .val (.ref b1), .val (.ref b104), .val (.int (0 : Int32))] []))
    refine Rch.go (fun t k => XS.iconst X191.here hx rfl (hb hby at_259) k) ?_
    show Rch p e below _ (T191.setTop (mkF m 260 #[.val (.int p0), .val (.ref b1), .val (.ref b104), .val (.int (0 : Int32))] [(.int (1 : Int32))]))
    refine Rch.go (fun t k => XS.goto X191.here hx rfl (pc0 := 260) (pc' := 264) rfl (hb hby at_260) (by decide) (by decide) k) ?_
    show Rch p e below _ (T191.setTop (mkF m 264 #[.val (.int p0), .val (.ref b1), .val (.ref b104), .val (.int (0 : Int32))] [(.int (1 : Int32))]))
    refine Rch.val X191 hx (t := .boolean) hret hlk rfl (mayI (by simp)) (hb hby at_264) (by decide) (by decide) ?_
    try rw [e191]
    exact ⟨rfl, N191⟩
  · rw [hq]
    show Rch p e below _ (T184.setTop (mkF m 246 #[.val (.int p0), .val (.ref b1), .val (.ref b104), .unset] [(.int (1 : Int32))]))
    refine Rch.go (fun t k => XS.istoreN X184.here hx rfl (hb hby at_246) rfl  (l' := #[.val (.int p0), .val (.ref b1), .val (.ref b104), .val (.int (1 : Int32))]) rfl k) ?_
    show Rch p e below _ (T184.setTop (mkF m 247 #[.val (.int p0), .val (.ref b1), .val (.ref b104), .val (.int (1 : Int32))] []))
    refine Rch.go (fun t k => XS.aloadN X184.here hx rfl (hb hby at_247) rfl rfl k) ?_
    show Rch p e below _ (T184.setTop (mkF m 248 #[.val (.int p0), .val (.ref b1), .val (.ref b104), .val (.int (1 : Int32))] [(.ref b1)]))
    refine Rch.go (fun t k => XS.iloadN X184.here hx rfl (hb hby at_248) rfl  k) ?_
    show Rch p e below _ (T184.setTop (mkF m 249 #[.val (.int p0), .val (.ref b1), .val (.ref b104), .val (.int (1 : Int32))] [(.int (1 : Int32)), (.ref b1)]))
    obtain ⟨c193, r193, q193, s193, u193, H193, G193⟩ := f189
    refine Rch.go (fun t k => X184.aaload hx (j := (1 : Int32)) (v := (.ref ro1)) (by rw [e184]; exact r193.1) (State.isArrayOf_alike hZ.alike r193.2.1) rfl r193.2.2 (inb_of s193 (by decide)) (H193.at (inb_of s193 (by decide)) rfl) (g := (mkF m 249 #[.val (.int p0), .val (.ref b1), .val (.ref b104), .val (.int (1 : Int32))] [(.int (1 : Int32)), (.ref b1)])) rfl rfl (hb hby at_249) t k) ?_
    show Rch p e below _ (T184.setTop (mkF m 250 #[.val (.int p0), .val (.ref b1), .val (.ref b104), .val (.int (1 : Int32))] [(.ref ro1)]))
    obtain ⟨v194, T194, L194, X194, Q194, st194⟩ := callVi X184 hx hZ (mn_1 l Z a0 hw ro0 ro1 ro2 ro3 ro4 ro5 ro6 ro7 ro8 ro9 ro10 ro11 ro12 ro13 ro14 ro15 ro16 ro17 ro18 ro19 h184 n0 z185 o186 G) e184 hown (wd_46 hw) (wd_47 hw) (wd_49 hw) (notFace_of_selects (args := #[]) (mvT hZ (wd_49 hw))) (wd_48 hw) (wd_50 hw) (wd_3 hw) (by decide) (hb hby at_250) 0 (by decide) (by decide) (by decide) (by decide) (by rw [hml]; rfl) ro1 (G.2.2.2.1.ext o186.2) [] [] rfl (lenOf pd_0 rfl) rfl (Nat.le_of_eq rfl) (Ls := #[.val (.int p0), .val (.ref b1), .val (.ref b104), .val (.int (1 : Int32))])
    obtain ⟨rfl, M194, e194⟩ := Q194
    have N194 := Fr.app N184 M194
    refine Rch.go st194 ?_
    show Rch p e below _ (T194.setTop (mkF m 253 #[.val (.int p0), .val (.ref b1), .val (.ref b104), .val (.int (1 : Int32))] [(.int (0 : Int32))]))
    refine Rch.go (fun t k => XS.aloadN X194.here hx rfl (hb hby at_253) rfl rfl k) ?_
    show Rch p e below _ (T194.setTop (mkF m 254 #[.val (.int p0), .val (.ref b1), .val (.ref b104), .val (.int (1 : Int32))] [(.ref b104), (.int (0 : Int32))]))
    refine Rch.go (fun t k => XS.iloadN X194.here hx rfl (hb hby at_254) rfl  k) ?_
    show Rch p e below _ (T194.setTop (mkF m 255 #[.val (.int p0), .val (.ref b1), .val (.ref b104), .val (.int (1 : Int32))] [(.int (1 : Int32)), (.ref b104), (.int (0 : Int32))]))
    obtain ⟨c195, r195, q195, s195, u195, H195, G195⟩ := V184
    refine Rch.go (fun t k => X194.baloadBooleans hx (j := (1 : Int32)) (v := (.int (0 : Int32))) (by rw [e194]; exact r195.1) (State.isArrayOf_alike hZ.alike r195.2.1) r195.2.2 (inb_of s195 (by decide)) (H195.at (inb_of s195 (by decide)) rfl) (g := (mkF m 255 #[.val (.int p0), .val (.ref b1), .val (.ref b104), .val (.int (1 : Int32))] [(.int (1 : Int32)), (.ref b104), (.int (0 : Int32))])) rfl rfl (hb hby at_255) t k) ?_
    show Rch p e below _ (T194.setTop (mkF m 256 #[.val (.int p0), .val (.ref b1), .val (.ref b104), .val (.int (1 : Int32))] [(.int (0 : Int32)), (.int (0 : Int32))]))
    refine Rch.go (fun t k => XS.icmpNo X194.here hx rfl (hb hby at_256) rfl (by decide) k) ?_
    show Rch p e below _ (T194.setTop (mkF m 259 #[.val (.int p0), .val (.ref b1), .val (.ref b104), .val (.int (1 : Int32))] []))
    refine Rch.go (fun t k => XS.iconst X194.here hx rfl (hb hby at_259) k) ?_
    show Rch p e below _ (T194.setTop (mkF m 260 #[.val (.int p0), .val (.ref b1), .val (.ref b104), .val (.int (1 : Int32))] [(.int (1 : Int32))]))
    refine Rch.go (fun t k => XS.goto X194.here hx rfl (pc0 := 260) (pc' := 264) rfl (hb hby at_260) (by decide) (by decide) k) ?_
    show Rch p e below _ (T194.setTop (mkF m 264 #[.val (.int p0), .val (.ref b1), .val (.ref b104), .val (.int (1 : Int32))] [(.int (1 : Int32))]))
    refine Rch.val X194 hx (t := .boolean) hret hlk rfl (mayI (by simp)) (hb hby at_264) (by decide) (by decide) ?_
    try rw [e194]
    exact ⟨rfl, N194⟩
  · rw [hq]
    show Rch p e below _ (T184.setTop (mkF m 246 #[.val (.int p0), .val (.ref b1), .val (.ref b104), .unset] [(.int (2 : Int32))]))
    refine Rch.go (fun t k => XS.istoreN X184.here hx rfl (hb hby at_246) rfl  (l' := #[.val (.int p0), .val (.ref b1), .val (.ref b104), .val (.int (2 : Int32))]) rfl k) ?_
    show Rch p e below _ (T184.setTop (mkF m 247 #[.val (.int p0), .val (.ref b1), .val (.ref b104), .val (.int (2 : Int32))] []))
    refine Rch.go (fun t k => XS.aloadN X184.here hx rfl (hb hby at_247) rfl rfl k) ?_
    show Rch p e below _ (T184.setTop (mkF m 248 #[.val (.int p0), .val (.ref b1), .val (.ref b104), .val (.int (2 : Int32))] [(.ref b1)]))
    refine Rch.go (fun t k => XS.iloadN X184.here hx rfl (hb hby at_248) rfl  k) ?_
    show Rch p e below _ (T184.setTop (mkF m 249 #[.val (.int p0), .val (.ref b1), .val (.ref b104), .val (.int (2 : Int32))] [(.int (2 : Int32)), (.ref b1)]))
    obtain ⟨c196, r196, q196, s196, u196, H196, G196⟩ := f189
    refine Rch.go (fun t k => X184.aaload hx (j := (2 : Int32)) (v := (.ref ro2)) (by rw [e184]; exact r196.1) (State.isArrayOf_alike hZ.alike r196.2.1) rfl r196.2.2 (inb_of s196 (by decide)) (H196.at (inb_of s196 (by decide)) rfl) (g := (mkF m 249 #[.val (.int p0), .val (.ref b1), .val (.ref b104), .val (.int (2 : Int32))] [(.int (2 : Int32)), (.ref b1)])) rfl rfl (hb hby at_249) t k) ?_
    show Rch p e below _ (T184.setTop (mkF m 250 #[.val (.int p0), .val (.ref b1), .val (.ref b104), .val (.int (2 : Int32))] [(.ref ro2)]))
    obtain ⟨v197, T197, L197, X197, Q197, st197⟩ := callVi X184 hx hZ (mn_2 l Z a0 hw ro0 ro1 ro2 ro3 ro4 ro5 ro6 ro7 ro8 ro9 ro10 ro11 ro12 ro13 ro14 ro15 ro16 ro17 ro18 ro19 h184 n0 z185 o186 G) e184 hown (wd_46 hw) (wd_47 hw) (wd_49 hw) (notFace_of_selects (args := #[]) (mvT hZ (wd_49 hw))) (wd_48 hw) (wd_50 hw) (wd_3 hw) (by decide) (hb hby at_250) 0 (by decide) (by decide) (by decide) (by decide) (by rw [hml]; rfl) ro2 (G.2.2.2.2.2.1.ext o186.2) [] [] rfl (lenOf pd_0 rfl) rfl (Nat.le_of_eq rfl) (Ls := #[.val (.int p0), .val (.ref b1), .val (.ref b104), .val (.int (2 : Int32))])
    obtain ⟨rfl, M197, e197⟩ := Q197
    have N197 := Fr.app N184 M197
    refine Rch.go st197 ?_
    show Rch p e below _ (T197.setTop (mkF m 253 #[.val (.int p0), .val (.ref b1), .val (.ref b104), .val (.int (2 : Int32))] [(.int (0 : Int32))]))
    refine Rch.go (fun t k => XS.aloadN X197.here hx rfl (hb hby at_253) rfl rfl k) ?_
    show Rch p e below _ (T197.setTop (mkF m 254 #[.val (.int p0), .val (.ref b1), .val (.ref b104), .val (.int (2 : Int32))] [(.ref b104), (.int (0 : Int32))]))
    refine Rch.go (fun t k => XS.iloadN X197.here hx rfl (hb hby at_254) rfl  k) ?_
    show Rch p e below _ (T197.setTop (mkF m 255 #[.val (.int p0), .val (.ref b1), .val (.ref b104), .val (.int (2 : Int32))] [(.int (2 : Int32)), (.ref b104), (.int (0 : Int32))]))
    obtain ⟨c198, r198, q198, s198, u198, H198, G198⟩ := V184
    refine Rch.go (fun t k => X197.baloadBooleans hx (j := (2 : Int32)) (v := (.int (0 : Int32))) (by rw [e197]; exact r198.1) (State.isArrayOf_alike hZ.alike r198.2.1) r198.2.2 (inb_of s198 (by decide)) (H198.at (inb_of s198 (by decide)) rfl) (g := (mkF m 255 #[.val (.int p0), .val (.ref b1), .val (.ref b104), .val (.int (2 : Int32))] [(.int (2 : Int32)), (.ref b104), (.int (0 : Int32))])) rfl rfl (hb hby at_255) t k) ?_
    show Rch p e below _ (T197.setTop (mkF m 256 #[.val (.int p0), .val (.ref b1), .val (.ref b104), .val (.int (2 : Int32))] [(.int (0 : Int32)), (.int (0 : Int32))]))
    refine Rch.go (fun t k => XS.icmpNo X197.here hx rfl (hb hby at_256) rfl (by decide) k) ?_
    show Rch p e below _ (T197.setTop (mkF m 259 #[.val (.int p0), .val (.ref b1), .val (.ref b104), .val (.int (2 : Int32))] []))
    refine Rch.go (fun t k => XS.iconst X197.here hx rfl (hb hby at_259) k) ?_
    show Rch p e below _ (T197.setTop (mkF m 260 #[.val (.int p0), .val (.ref b1), .val (.ref b104), .val (.int (2 : Int32))] [(.int (1 : Int32))]))
    refine Rch.go (fun t k => XS.goto X197.here hx rfl (pc0 := 260) (pc' := 264) rfl (hb hby at_260) (by decide) (by decide) k) ?_
    show Rch p e below _ (T197.setTop (mkF m 264 #[.val (.int p0), .val (.ref b1), .val (.ref b104), .val (.int (2 : Int32))] [(.int (1 : Int32))]))
    refine Rch.val X197 hx (t := .boolean) hret hlk rfl (mayI (by simp)) (hb hby at_264) (by decide) (by decide) ?_
    try rw [e197]
    exact ⟨rfl, N197⟩
  · rw [hq]
    show Rch p e below _ (T184.setTop (mkF m 246 #[.val (.int p0), .val (.ref b1), .val (.ref b104), .unset] [(.int (3 : Int32))]))
    refine Rch.go (fun t k => XS.istoreN X184.here hx rfl (hb hby at_246) rfl  (l' := #[.val (.int p0), .val (.ref b1), .val (.ref b104), .val (.int (3 : Int32))]) rfl k) ?_
    show Rch p e below _ (T184.setTop (mkF m 247 #[.val (.int p0), .val (.ref b1), .val (.ref b104), .val (.int (3 : Int32))] []))
    refine Rch.go (fun t k => XS.aloadN X184.here hx rfl (hb hby at_247) rfl rfl k) ?_
    show Rch p e below _ (T184.setTop (mkF m 248 #[.val (.int p0), .val (.ref b1), .val (.ref b104), .val (.int (3 : Int32))] [(.ref b1)]))
    refine Rch.go (fun t k => XS.iloadN X184.here hx rfl (hb hby at_248) rfl  k) ?_
    show Rch p e below _ (T184.setTop (mkF m 249 #[.val (.int p0), .val (.ref b1), .val (.ref b104), .val (.int (3 : Int32))] [(.int (3 : Int32)), (.ref b1)]))
    obtain ⟨c199, r199, q199, s199, u199, H199, G199⟩ := f189
    refine Rch.go (fun t k => X184.aaload hx (j := (3 : Int32)) (v := (.ref ro3)) (by rw [e184]; exact r199.1) (State.isArrayOf_alike hZ.alike r199.2.1) rfl r199.2.2 (inb_of s199 (by decide)) (H199.at (inb_of s199 (by decide)) rfl) (g := (mkF m 249 #[.val (.int p0), .val (.ref b1), .val (.ref b104), .val (.int (3 : Int32))] [(.int (3 : Int32)), (.ref b1)])) rfl rfl (hb hby at_249) t k) ?_
    show Rch p e below _ (T184.setTop (mkF m 250 #[.val (.int p0), .val (.ref b1), .val (.ref b104), .val (.int (3 : Int32))] [(.ref ro3)]))
    obtain ⟨v200, T200, L200, X200, Q200, st200⟩ := callVi X184 hx hZ (mn_3 l Z a0 hw ro0 ro1 ro2 ro3 ro4 ro5 ro6 ro7 ro8 ro9 ro10 ro11 ro12 ro13 ro14 ro15 ro16 ro17 ro18 ro19 h184 n0 z185 o186 G) e184 hown (wd_46 hw) (wd_47 hw) (wd_49 hw) (notFace_of_selects (args := #[]) (mvT hZ (wd_49 hw))) (wd_48 hw) (wd_50 hw) (wd_3 hw) (by decide) (hb hby at_250) 0 (by decide) (by decide) (by decide) (by decide) (by rw [hml]; rfl) ro3 (G.2.2.2.2.2.2.2.1.ext o186.2) [] [] rfl (lenOf pd_0 rfl) rfl (Nat.le_of_eq rfl) (Ls := #[.val (.int p0), .val (.ref b1), .val (.ref b104), .val (.int (3 : Int32))])
    obtain ⟨rfl, M200, e200⟩ := Q200
    have N200 := Fr.app N184 M200
    refine Rch.go st200 ?_
    show Rch p e below _ (T200.setTop (mkF m 253 #[.val (.int p0), .val (.ref b1), .val (.ref b104), .val (.int (3 : Int32))] [(.int (1 : Int32))]))
    refine Rch.go (fun t k => XS.aloadN X200.here hx rfl (hb hby at_253) rfl rfl k) ?_
    show Rch p e below _ (T200.setTop (mkF m 254 #[.val (.int p0), .val (.ref b1), .val (.ref b104), .val (.int (3 : Int32))] [(.ref b104), (.int (1 : Int32))]))
    refine Rch.go (fun t k => XS.iloadN X200.here hx rfl (hb hby at_254) rfl  k) ?_
    show Rch p e below _ (T200.setTop (mkF m 255 #[.val (.int p0), .val (.ref b1), .val (.ref b104), .val (.int (3 : Int32))] [(.int (3 : Int32)), (.ref b104), (.int (1 : Int32))]))
    obtain ⟨c201, r201, q201, s201, u201, H201, G201⟩ := V184
    refine Rch.go (fun t k => X200.baloadBooleans hx (j := (3 : Int32)) (v := (.int (1 : Int32))) (by rw [e200]; exact r201.1) (State.isArrayOf_alike hZ.alike r201.2.1) r201.2.2 (inb_of s201 (by decide)) (H201.at (inb_of s201 (by decide)) rfl) (g := (mkF m 255 #[.val (.int p0), .val (.ref b1), .val (.ref b104), .val (.int (3 : Int32))] [(.int (3 : Int32)), (.ref b104), (.int (1 : Int32))])) rfl rfl (hb hby at_255) t k) ?_
    show Rch p e below _ (T200.setTop (mkF m 256 #[.val (.int p0), .val (.ref b1), .val (.ref b104), .val (.int (3 : Int32))] [(.int (1 : Int32)), (.int (1 : Int32))]))
    refine Rch.go (fun t k => XS.icmpNo X200.here hx rfl (hb hby at_256) rfl (by decide) k) ?_
    show Rch p e below _ (T200.setTop (mkF m 259 #[.val (.int p0), .val (.ref b1), .val (.ref b104), .val (.int (3 : Int32))] []))
    refine Rch.go (fun t k => XS.iconst X200.here hx rfl (hb hby at_259) k) ?_
    show Rch p e below _ (T200.setTop (mkF m 260 #[.val (.int p0), .val (.ref b1), .val (.ref b104), .val (.int (3 : Int32))] [(.int (1 : Int32))]))
    refine Rch.go (fun t k => XS.goto X200.here hx rfl (pc0 := 260) (pc' := 264) rfl (hb hby at_260) (by decide) (by decide) k) ?_
    show Rch p e below _ (T200.setTop (mkF m 264 #[.val (.int p0), .val (.ref b1), .val (.ref b104), .val (.int (3 : Int32))] [(.int (1 : Int32))]))
    refine Rch.val X200 hx (t := .boolean) hret hlk rfl (mayI (by simp)) (hb hby at_264) (by decide) (by decide) ?_
    try rw [e200]
    exact ⟨rfl, N200⟩
  · rw [hq]
    show Rch p e below _ (T184.setTop (mkF m 246 #[.val (.int p0), .val (.ref b1), .val (.ref b104), .unset] [(.int (4 : Int32))]))
    refine Rch.go (fun t k => XS.istoreN X184.here hx rfl (hb hby at_246) rfl  (l' := #[.val (.int p0), .val (.ref b1), .val (.ref b104), .val (.int (4 : Int32))]) rfl k) ?_
    show Rch p e below _ (T184.setTop (mkF m 247 #[.val (.int p0), .val (.ref b1), .val (.ref b104), .val (.int (4 : Int32))] []))
    refine Rch.go (fun t k => XS.aloadN X184.here hx rfl (hb hby at_247) rfl rfl k) ?_
    show Rch p e below _ (T184.setTop (mkF m 248 #[.val (.int p0), .val (.ref b1), .val (.ref b104), .val (.int (4 : Int32))] [(.ref b1)]))
    refine Rch.go (fun t k => XS.iloadN X184.here hx rfl (hb hby at_248) rfl  k) ?_
    show Rch p e below _ (T184.setTop (mkF m 249 #[.val (.int p0), .val (.ref b1), .val (.ref b104), .val (.int (4 : Int32))] [(.int (4 : Int32)), (.ref b1)]))
    obtain ⟨c202, r202, q202, s202, u202, H202, G202⟩ := f189
    refine Rch.go (fun t k => X184.aaload hx (j := (4 : Int32)) (v := (.ref ro4)) (by rw [e184]; exact r202.1) (State.isArrayOf_alike hZ.alike r202.2.1) rfl r202.2.2 (inb_of s202 (by decide)) (H202.at (inb_of s202 (by decide)) rfl) (g := (mkF m 249 #[.val (.int p0), .val (.ref b1), .val (.ref b104), .val (.int (4 : Int32))] [(.int (4 : Int32)), (.ref b1)])) rfl rfl (hb hby at_249) t k) ?_
    show Rch p e below _ (T184.setTop (mkF m 250 #[.val (.int p0), .val (.ref b1), .val (.ref b104), .val (.int (4 : Int32))] [(.ref ro4)]))
    obtain ⟨v203, T203, L203, X203, Q203, st203⟩ := callVi X184 hx hZ (mn_4 l Z a0 hw ro0 ro1 ro2 ro3 ro4 ro5 ro6 ro7 ro8 ro9 ro10 ro11 ro12 ro13 ro14 ro15 ro16 ro17 ro18 ro19 h184 n0 z185 o186 G) e184 hown (wd_46 hw) (wd_47 hw) (wd_49 hw) (notFace_of_selects (args := #[]) (mvT hZ (wd_49 hw))) (wd_48 hw) (wd_50 hw) (wd_3 hw) (by decide) (hb hby at_250) 0 (by decide) (by decide) (by decide) (by decide) (by rw [hml]; rfl) ro4 (G.2.2.2.2.2.2.2.2.2.1.ext o186.2) [] [] rfl (lenOf pd_0 rfl) rfl (Nat.le_of_eq rfl) (Ls := #[.val (.int p0), .val (.ref b1), .val (.ref b104), .val (.int (4 : Int32))])
    obtain ⟨rfl, M203, e203⟩ := Q203
    have N203 := Fr.app N184 M203
    refine Rch.go st203 ?_
    show Rch p e below _ (T203.setTop (mkF m 253 #[.val (.int p0), .val (.ref b1), .val (.ref b104), .val (.int (4 : Int32))] [(.int (1 : Int32))]))
    refine Rch.go (fun t k => XS.aloadN X203.here hx rfl (hb hby at_253) rfl rfl k) ?_
    show Rch p e below _ (T203.setTop (mkF m 254 #[.val (.int p0), .val (.ref b1), .val (.ref b104), .val (.int (4 : Int32))] [(.ref b104), (.int (1 : Int32))]))
    refine Rch.go (fun t k => XS.iloadN X203.here hx rfl (hb hby at_254) rfl  k) ?_
    show Rch p e below _ (T203.setTop (mkF m 255 #[.val (.int p0), .val (.ref b1), .val (.ref b104), .val (.int (4 : Int32))] [(.int (4 : Int32)), (.ref b104), (.int (1 : Int32))]))
    obtain ⟨c204, r204, q204, s204, u204, H204, G204⟩ := V184
    refine Rch.go (fun t k => X203.baloadBooleans hx (j := (4 : Int32)) (v := (.int (1 : Int32))) (by rw [e203]; exact r204.1) (State.isArrayOf_alike hZ.alike r204.2.1) r204.2.2 (inb_of s204 (by decide)) (H204.at (inb_of s204 (by decide)) rfl) (g := (mkF m 255 #[.val (.int p0), .val (.ref b1), .val (.ref b104), .val (.int (4 : Int32))] [(.int (4 : Int32)), (.ref b104), (.int (1 : Int32))])) rfl rfl (hb hby at_255) t k) ?_
    show Rch p e below _ (T203.setTop (mkF m 256 #[.val (.int p0), .val (.ref b1), .val (.ref b104), .val (.int (4 : Int32))] [(.int (1 : Int32)), (.int (1 : Int32))]))
    refine Rch.go (fun t k => XS.icmpNo X203.here hx rfl (hb hby at_256) rfl (by decide) k) ?_
    show Rch p e below _ (T203.setTop (mkF m 259 #[.val (.int p0), .val (.ref b1), .val (.ref b104), .val (.int (4 : Int32))] []))
    refine Rch.go (fun t k => XS.iconst X203.here hx rfl (hb hby at_259) k) ?_
    show Rch p e below _ (T203.setTop (mkF m 260 #[.val (.int p0), .val (.ref b1), .val (.ref b104), .val (.int (4 : Int32))] [(.int (1 : Int32))]))
    refine Rch.go (fun t k => XS.goto X203.here hx rfl (pc0 := 260) (pc' := 264) rfl (hb hby at_260) (by decide) (by decide) k) ?_
    show Rch p e below _ (T203.setTop (mkF m 264 #[.val (.int p0), .val (.ref b1), .val (.ref b104), .val (.int (4 : Int32))] [(.int (1 : Int32))]))
    refine Rch.val X203 hx (t := .boolean) hret hlk rfl (mayI (by simp)) (hb hby at_264) (by decide) (by decide) ?_
    try rw [e203]
    exact ⟨rfl, N203⟩
  · rw [hq]
    show Rch p e below _ (T184.setTop (mkF m 246 #[.val (.int p0), .val (.ref b1), .val (.ref b104), .unset] [(.int (5 : Int32))]))
    refine Rch.go (fun t k => XS.istoreN X184.here hx rfl (hb hby at_246) rfl  (l' := #[.val (.int p0), .val (.ref b1), .val (.ref b104), .val (.int (5 : Int32))]) rfl k) ?_
    show Rch p e below _ (T184.setTop (mkF m 247 #[.val (.int p0), .val (.ref b1), .val (.ref b104), .val (.int (5 : Int32))] []))
    refine Rch.go (fun t k => XS.aloadN X184.here hx rfl (hb hby at_247) rfl rfl k) ?_
    show Rch p e below _ (T184.setTop (mkF m 248 #[.val (.int p0), .val (.ref b1), .val (.ref b104), .val (.int (5 : Int32))] [(.ref b1)]))
    refine Rch.go (fun t k => XS.iloadN X184.here hx rfl (hb hby at_248) rfl  k) ?_
    show Rch p e below _ (T184.setTop (mkF m 249 #[.val (.int p0), .val (.ref b1), .val (.ref b104), .val (.int (5 : Int32))] [(.int (5 : Int32)), (.ref b1)]))
    obtain ⟨c205, r205, q205, s205, u205, H205, G205⟩ := f189
    refine Rch.go (fun t k => X184.aaload hx (j := (5 : Int32)) (v := (.ref ro5)) (by rw [e184]; exact r205.1) (State.isArrayOf_alike hZ.alike r205.2.1) rfl r205.2.2 (inb_of s205 (by decide)) (H205.at (inb_of s205 (by decide)) rfl) (g := (mkF m 249 #[.val (.int p0), .val (.ref b1), .val (.ref b104), .val (.int (5 : Int32))] [(.int (5 : Int32)), (.ref b1)])) rfl rfl (hb hby at_249) t k) ?_
    show Rch p e below _ (T184.setTop (mkF m 250 #[.val (.int p0), .val (.ref b1), .val (.ref b104), .val (.int (5 : Int32))] [(.ref ro5)]))
    obtain ⟨v206, T206, L206, X206, Q206, st206⟩ := callVi X184 hx hZ (mn_5 l Z a0 hw ro0 ro1 ro2 ro3 ro4 ro5 ro6 ro7 ro8 ro9 ro10 ro11 ro12 ro13 ro14 ro15 ro16 ro17 ro18 ro19 h184 n0 z185 o186 G) e184 hown (wd_46 hw) (wd_47 hw) (wd_49 hw) (notFace_of_selects (args := #[]) (mvT hZ (wd_49 hw))) (wd_48 hw) (wd_50 hw) (wd_3 hw) (by decide) (hb hby at_250) 0 (by decide) (by decide) (by decide) (by decide) (by rw [hml]; rfl) ro5 (G.2.2.2.2.2.2.2.2.2.2.2.1.ext o186.2) [] [] rfl (lenOf pd_0 rfl) rfl (Nat.le_of_eq rfl) (Ls := #[.val (.int p0), .val (.ref b1), .val (.ref b104), .val (.int (5 : Int32))])
    obtain ⟨rfl, M206, e206⟩ := Q206
    have N206 := Fr.app N184 M206
    refine Rch.go st206 ?_
    show Rch p e below _ (T206.setTop (mkF m 253 #[.val (.int p0), .val (.ref b1), .val (.ref b104), .val (.int (5 : Int32))] [(.int (0 : Int32))]))
    refine Rch.go (fun t k => XS.aloadN X206.here hx rfl (hb hby at_253) rfl rfl k) ?_
    show Rch p e below _ (T206.setTop (mkF m 254 #[.val (.int p0), .val (.ref b1), .val (.ref b104), .val (.int (5 : Int32))] [(.ref b104), (.int (0 : Int32))]))
    refine Rch.go (fun t k => XS.iloadN X206.here hx rfl (hb hby at_254) rfl  k) ?_
    show Rch p e below _ (T206.setTop (mkF m 255 #[.val (.int p0), .val (.ref b1), .val (.ref b104), .val (.int (5 : Int32))] [(.int (5 : Int32)), (.ref b104), (.int (0 : Int32))]))
    obtain ⟨c207, r207, q207, s207, u207, H207, G207⟩ := V184
    refine Rch.go (fun t k => X206.baloadBooleans hx (j := (5 : Int32)) (v := (.int (0 : Int32))) (by rw [e206]; exact r207.1) (State.isArrayOf_alike hZ.alike r207.2.1) r207.2.2 (inb_of s207 (by decide)) (H207.at (inb_of s207 (by decide)) rfl) (g := (mkF m 255 #[.val (.int p0), .val (.ref b1), .val (.ref b104), .val (.int (5 : Int32))] [(.int (5 : Int32)), (.ref b104), (.int (0 : Int32))])) rfl rfl (hb hby at_255) t k) ?_
    show Rch p e below _ (T206.setTop (mkF m 256 #[.val (.int p0), .val (.ref b1), .val (.ref b104), .val (.int (5 : Int32))] [(.int (0 : Int32)), (.int (0 : Int32))]))
    refine Rch.go (fun t k => XS.icmpNo X206.here hx rfl (hb hby at_256) rfl (by decide) k) ?_
    show Rch p e below _ (T206.setTop (mkF m 259 #[.val (.int p0), .val (.ref b1), .val (.ref b104), .val (.int (5 : Int32))] []))
    refine Rch.go (fun t k => XS.iconst X206.here hx rfl (hb hby at_259) k) ?_
    show Rch p e below _ (T206.setTop (mkF m 260 #[.val (.int p0), .val (.ref b1), .val (.ref b104), .val (.int (5 : Int32))] [(.int (1 : Int32))]))
    refine Rch.go (fun t k => XS.goto X206.here hx rfl (pc0 := 260) (pc' := 264) rfl (hb hby at_260) (by decide) (by decide) k) ?_
    show Rch p e below _ (T206.setTop (mkF m 264 #[.val (.int p0), .val (.ref b1), .val (.ref b104), .val (.int (5 : Int32))] [(.int (1 : Int32))]))
    refine Rch.val X206 hx (t := .boolean) hret hlk rfl (mayI (by simp)) (hb hby at_264) (by decide) (by decide) ?_
    try rw [e206]
    exact ⟨rfl, N206⟩
  · rw [hq]
    show Rch p e below _ (T184.setTop (mkF m 246 #[.val (.int p0), .val (.ref b1), .val (.ref b104), .unset] [(.int (6 : Int32))]))
    refine Rch.go (fun t k => XS.istoreN X184.here hx rfl (hb hby at_246) rfl  (l' := #[.val (.int p0), .val (.ref b1), .val (.ref b104), .val (.int (6 : Int32))]) rfl k) ?_
    show Rch p e below _ (T184.setTop (mkF m 247 #[.val (.int p0), .val (.ref b1), .val (.ref b104), .val (.int (6 : Int32))] []))
    refine Rch.go (fun t k => XS.aloadN X184.here hx rfl (hb hby at_247) rfl rfl k) ?_
    show Rch p e below _ (T184.setTop (mkF m 248 #[.val (.int p0), .val (.ref b1), .val (.ref b104), .val (.int (6 : Int32))] [(.ref b1)]))
    refine Rch.go (fun t k => XS.iloadN X184.here hx rfl (hb hby at_248) rfl  k) ?_
    show Rch p e below _ (T184.setTop (mkF m 249 #[.val (.int p0), .val (.ref b1), .val (.ref b104), .val (.int (6 : Int32))] [(.int (6 : Int32)), (.ref b1)]))
    obtain ⟨c208, r208, q208, s208, u208, H208, G208⟩ := f189
    refine Rch.go (fun t k => X184.aaload hx (j := (6 : Int32)) (v := (.ref ro6)) (by rw [e184]; exact r208.1) (State.isArrayOf_alike hZ.alike r208.2.1) rfl r208.2.2 (inb_of s208 (by decide)) (H208.at (inb_of s208 (by decide)) rfl) (g := (mkF m 249 #[.val (.int p0), .val (.ref b1), .val (.ref b104), .val (.int (6 : Int32))] [(.int (6 : Int32)), (.ref b1)])) rfl rfl (hb hby at_249) t k) ?_
    show Rch p e below _ (T184.setTop (mkF m 250 #[.val (.int p0), .val (.ref b1), .val (.ref b104), .val (.int (6 : Int32))] [(.ref ro6)]))
    obtain ⟨v209, T209, L209, X209, Q209, st209⟩ := callVi X184 hx hZ (mn_6 l Z a0 hw ro0 ro1 ro2 ro3 ro4 ro5 ro6 ro7 ro8 ro9 ro10 ro11 ro12 ro13 ro14 ro15 ro16 ro17 ro18 ro19 h184 n0 z185 o186 G) e184 hown (wd_46 hw) (wd_47 hw) (wd_49 hw) (notFace_of_selects (args := #[]) (mvT hZ (wd_49 hw))) (wd_48 hw) (wd_50 hw) (wd_3 hw) (by decide) (hb hby at_250) 0 (by decide) (by decide) (by decide) (by decide) (by rw [hml]; rfl) ro6 (G.2.2.2.2.2.2.2.2.2.2.2.2.2.1.ext o186.2) [] [] rfl (lenOf pd_0 rfl) rfl (Nat.le_of_eq rfl) (Ls := #[.val (.int p0), .val (.ref b1), .val (.ref b104), .val (.int (6 : Int32))])
    obtain ⟨rfl, M209, e209⟩ := Q209
    have N209 := Fr.app N184 M209
    refine Rch.go st209 ?_
    show Rch p e below _ (T209.setTop (mkF m 253 #[.val (.int p0), .val (.ref b1), .val (.ref b104), .val (.int (6 : Int32))] [(.int (0 : Int32))]))
    refine Rch.go (fun t k => XS.aloadN X209.here hx rfl (hb hby at_253) rfl rfl k) ?_
    show Rch p e below _ (T209.setTop (mkF m 254 #[.val (.int p0), .val (.ref b1), .val (.ref b104), .val (.int (6 : Int32))] [(.ref b104), (.int (0 : Int32))]))
    refine Rch.go (fun t k => XS.iloadN X209.here hx rfl (hb hby at_254) rfl  k) ?_
    show Rch p e below _ (T209.setTop (mkF m 255 #[.val (.int p0), .val (.ref b1), .val (.ref b104), .val (.int (6 : Int32))] [(.int (6 : Int32)), (.ref b104), (.int (0 : Int32))]))
    obtain ⟨c210, r210, q210, s210, u210, H210, G210⟩ := V184
    refine Rch.go (fun t k => X209.baloadBooleans hx (j := (6 : Int32)) (v := (.int (0 : Int32))) (by rw [e209]; exact r210.1) (State.isArrayOf_alike hZ.alike r210.2.1) r210.2.2 (inb_of s210 (by decide)) (H210.at (inb_of s210 (by decide)) rfl) (g := (mkF m 255 #[.val (.int p0), .val (.ref b1), .val (.ref b104), .val (.int (6 : Int32))] [(.int (6 : Int32)), (.ref b104), (.int (0 : Int32))])) rfl rfl (hb hby at_255) t k) ?_
    show Rch p e below _ (T209.setTop (mkF m 256 #[.val (.int p0), .val (.ref b1), .val (.ref b104), .val (.int (6 : Int32))] [(.int (0 : Int32)), (.int (0 : Int32))]))
    refine Rch.go (fun t k => XS.icmpNo X209.here hx rfl (hb hby at_256) rfl (by decide) k) ?_
    show Rch p e below _ (T209.setTop (mkF m 259 #[.val (.int p0), .val (.ref b1), .val (.ref b104), .val (.int (6 : Int32))] []))
    refine Rch.go (fun t k => XS.iconst X209.here hx rfl (hb hby at_259) k) ?_
    show Rch p e below _ (T209.setTop (mkF m 260 #[.val (.int p0), .val (.ref b1), .val (.ref b104), .val (.int (6 : Int32))] [(.int (1 : Int32))]))
    refine Rch.go (fun t k => XS.goto X209.here hx rfl (pc0 := 260) (pc' := 264) rfl (hb hby at_260) (by decide) (by decide) k) ?_
    show Rch p e below _ (T209.setTop (mkF m 264 #[.val (.int p0), .val (.ref b1), .val (.ref b104), .val (.int (6 : Int32))] [(.int (1 : Int32))]))
    refine Rch.val X209 hx (t := .boolean) hret hlk rfl (mayI (by simp)) (hb hby at_264) (by decide) (by decide) ?_
    try rw [e209]
    exact ⟨rfl, N209⟩
  · rw [hq]
    show Rch p e below _ (T184.setTop (mkF m 246 #[.val (.int p0), .val (.ref b1), .val (.ref b104), .unset] [(.int (7 : Int32))]))
    refine Rch.go (fun t k => XS.istoreN X184.here hx rfl (hb hby at_246) rfl  (l' := #[.val (.int p0), .val (.ref b1), .val (.ref b104), .val (.int (7 : Int32))]) rfl k) ?_
    show Rch p e below _ (T184.setTop (mkF m 247 #[.val (.int p0), .val (.ref b1), .val (.ref b104), .val (.int (7 : Int32))] []))
    refine Rch.go (fun t k => XS.aloadN X184.here hx rfl (hb hby at_247) rfl rfl k) ?_
    show Rch p e below _ (T184.setTop (mkF m 248 #[.val (.int p0), .val (.ref b1), .val (.ref b104), .val (.int (7 : Int32))] [(.ref b1)]))
    refine Rch.go (fun t k => XS.iloadN X184.here hx rfl (hb hby at_248) rfl  k) ?_
    show Rch p e below _ (T184.setTop (mkF m 249 #[.val (.int p0), .val (.ref b1), .val (.ref b104), .val (.int (7 : Int32))] [(.int (7 : Int32)), (.ref b1)]))
    obtain ⟨c211, r211, q211, s211, u211, H211, G211⟩ := f189
    refine Rch.go (fun t k => X184.aaload hx (j := (7 : Int32)) (v := (.ref ro7)) (by rw [e184]; exact r211.1) (State.isArrayOf_alike hZ.alike r211.2.1) rfl r211.2.2 (inb_of s211 (by decide)) (H211.at (inb_of s211 (by decide)) rfl) (g := (mkF m 249 #[.val (.int p0), .val (.ref b1), .val (.ref b104), .val (.int (7 : Int32))] [(.int (7 : Int32)), (.ref b1)])) rfl rfl (hb hby at_249) t k) ?_
    show Rch p e below _ (T184.setTop (mkF m 250 #[.val (.int p0), .val (.ref b1), .val (.ref b104), .val (.int (7 : Int32))] [(.ref ro7)]))
    obtain ⟨v212, T212, L212, X212, Q212, st212⟩ := callVi X184 hx hZ (mn_7 l Z a0 hw ro0 ro1 ro2 ro3 ro4 ro5 ro6 ro7 ro8 ro9 ro10 ro11 ro12 ro13 ro14 ro15 ro16 ro17 ro18 ro19 h184 n0 z185 o186 G) e184 hown (wd_46 hw) (wd_47 hw) (wd_49 hw) (notFace_of_selects (args := #[]) (mvT hZ (wd_49 hw))) (wd_48 hw) (wd_50 hw) (wd_3 hw) (by decide) (hb hby at_250) 0 (by decide) (by decide) (by decide) (by decide) (by rw [hml]; rfl) ro7 (G.2.2.2.2.2.2.2.2.2.2.2.2.2.2.2.1.ext o186.2) [] [] rfl (lenOf pd_0 rfl) rfl (Nat.le_of_eq rfl) (Ls := #[.val (.int p0), .val (.ref b1), .val (.ref b104), .val (.int (7 : Int32))])
    obtain ⟨rfl, M212, e212⟩ := Q212
    have N212 := Fr.app N184 M212
    refine Rch.go st212 ?_
    show Rch p e below _ (T212.setTop (mkF m 253 #[.val (.int p0), .val (.ref b1), .val (.ref b104), .val (.int (7 : Int32))] [(.int (0 : Int32))]))
    refine Rch.go (fun t k => XS.aloadN X212.here hx rfl (hb hby at_253) rfl rfl k) ?_
    show Rch p e below _ (T212.setTop (mkF m 254 #[.val (.int p0), .val (.ref b1), .val (.ref b104), .val (.int (7 : Int32))] [(.ref b104), (.int (0 : Int32))]))
    refine Rch.go (fun t k => XS.iloadN X212.here hx rfl (hb hby at_254) rfl  k) ?_
    show Rch p e below _ (T212.setTop (mkF m 255 #[.val (.int p0), .val (.ref b1), .val (.ref b104), .val (.int (7 : Int32))] [(.int (7 : Int32)), (.ref b104), (.int (0 : Int32))]))
    obtain ⟨c213, r213, q213, s213, u213, H213, G213⟩ := V184
    refine Rch.go (fun t k => X212.baloadBooleans hx (j := (7 : Int32)) (v := (.int (0 : Int32))) (by rw [e212]; exact r213.1) (State.isArrayOf_alike hZ.alike r213.2.1) r213.2.2 (inb_of s213 (by decide)) (H213.at (inb_of s213 (by decide)) rfl) (g := (mkF m 255 #[.val (.int p0), .val (.ref b1), .val (.ref b104), .val (.int (7 : Int32))] [(.int (7 : Int32)), (.ref b104), (.int (0 : Int32))])) rfl rfl (hb hby at_255) t k) ?_
    show Rch p e below _ (T212.setTop (mkF m 256 #[.val (.int p0), .val (.ref b1), .val (.ref b104), .val (.int (7 : Int32))] [(.int (0 : Int32)), (.int (0 : Int32))]))
    refine Rch.go (fun t k => XS.icmpNo X212.here hx rfl (hb hby at_256) rfl (by decide) k) ?_
    show Rch p e below _ (T212.setTop (mkF m 259 #[.val (.int p0), .val (.ref b1), .val (.ref b104), .val (.int (7 : Int32))] []))
    refine Rch.go (fun t k => XS.iconst X212.here hx rfl (hb hby at_259) k) ?_
    show Rch p e below _ (T212.setTop (mkF m 260 #[.val (.int p0), .val (.ref b1), .val (.ref b104), .val (.int (7 : Int32))] [(.int (1 : Int32))]))
    refine Rch.go (fun t k => XS.goto X212.here hx rfl (pc0 := 260) (pc' := 264) rfl (hb hby at_260) (by decide) (by decide) k) ?_
    show Rch p e below _ (T212.setTop (mkF m 264 #[.val (.int p0), .val (.ref b1), .val (.ref b104), .val (.int (7 : Int32))] [(.int (1 : Int32))]))
    refine Rch.val X212 hx (t := .boolean) hret hlk rfl (mayI (by simp)) (hb hby at_264) (by decide) (by decide) ?_
    try rw [e212]
    exact ⟨rfl, N212⟩
  · rw [hq]
    show Rch p e below _ (T184.setTop (mkF m 246 #[.val (.int p0), .val (.ref b1), .val (.ref b104), .unset] [(.int (8 : Int32))]))
    refine Rch.go (fun t k => XS.istoreN X184.here hx rfl (hb hby at_246) rfl  (l' := #[.val (.int p0), .val (.ref b1), .val (.ref b104), .val (.int (8 : Int32))]) rfl k) ?_
    show Rch p e below _ (T184.setTop (mkF m 247 #[.val (.int p0), .val (.ref b1), .val (.ref b104), .val (.int (8 : Int32))] []))
    refine Rch.go (fun t k => XS.aloadN X184.here hx rfl (hb hby at_247) rfl rfl k) ?_
    show Rch p e below _ (T184.setTop (mkF m 248 #[.val (.int p0), .val (.ref b1), .val (.ref b104), .val (.int (8 : Int32))] [(.ref b1)]))
    refine Rch.go (fun t k => XS.iloadN X184.here hx rfl (hb hby at_248) rfl  k) ?_
    show Rch p e below _ (T184.setTop (mkF m 249 #[.val (.int p0), .val (.ref b1), .val (.ref b104), .val (.int (8 : Int32))] [(.int (8 : Int32)), (.ref b1)]))
    obtain ⟨c214, r214, q214, s214, u214, H214, G214⟩ := f189
    refine Rch.go (fun t k => X184.aaload hx (j := (8 : Int32)) (v := (.ref ro8)) (by rw [e184]; exact r214.1) (State.isArrayOf_alike hZ.alike r214.2.1) rfl r214.2.2 (inb_of s214 (by decide)) (H214.at (inb_of s214 (by decide)) rfl) (g := (mkF m 249 #[.val (.int p0), .val (.ref b1), .val (.ref b104), .val (.int (8 : Int32))] [(.int (8 : Int32)), (.ref b1)])) rfl rfl (hb hby at_249) t k) ?_
    show Rch p e below _ (T184.setTop (mkF m 250 #[.val (.int p0), .val (.ref b1), .val (.ref b104), .val (.int (8 : Int32))] [(.ref ro8)]))
    obtain ⟨v215, T215, L215, X215, Q215, st215⟩ := callVi X184 hx hZ (mn_8 l Z a0 hw ro0 ro1 ro2 ro3 ro4 ro5 ro6 ro7 ro8 ro9 ro10 ro11 ro12 ro13 ro14 ro15 ro16 ro17 ro18 ro19 h184 n0 z185 o186 G) e184 hown (wd_46 hw) (wd_47 hw) (wd_49 hw) (notFace_of_selects (args := #[]) (mvT hZ (wd_49 hw))) (wd_48 hw) (wd_50 hw) (wd_3 hw) (by decide) (hb hby at_250) 0 (by decide) (by decide) (by decide) (by decide) (by rw [hml]; rfl) ro8 (G.2.2.2.2.2.2.2.2.2.2.2.2.2.2.2.2.2.1.ext o186.2) [] [] rfl (lenOf pd_0 rfl) rfl (Nat.le_of_eq rfl) (Ls := #[.val (.int p0), .val (.ref b1), .val (.ref b104), .val (.int (8 : Int32))])
    obtain ⟨rfl, M215, e215⟩ := Q215
    have N215 := Fr.app N184 M215
    refine Rch.go st215 ?_
    show Rch p e below _ (T215.setTop (mkF m 253 #[.val (.int p0), .val (.ref b1), .val (.ref b104), .val (.int (8 : Int32))] [(.int (0 : Int32))]))
    refine Rch.go (fun t k => XS.aloadN X215.here hx rfl (hb hby at_253) rfl rfl k) ?_
    show Rch p e below _ (T215.setTop (mkF m 254 #[.val (.int p0), .val (.ref b1), .val (.ref b104), .val (.int (8 : Int32))] [(.ref b104), (.int (0 : Int32))]))
    refine Rch.go (fun t k => XS.iloadN X215.here hx rfl (hb hby at_254) rfl  k) ?_
    show Rch p e below _ (T215.setTop (mkF m 255 #[.val (.int p0), .val (.ref b1), .val (.ref b104), .val (.int (8 : Int32))] [(.int (8 : Int32)), (.ref b104), (.int (0 : Int32))]))
    obtain ⟨c216, r216, q216, s216, u216, H216, G216⟩ := V184
    refine Rch.go (fun t k => X215.baloadBooleans hx (j := (8 : Int32)) (v := (.int (0 : Int32))) (by rw [e215]; exact r216.1) (State.isArrayOf_alike hZ.alike r216.2.1) r216.2.2 (inb_of s216 (by decide)) (H216.at (inb_of s216 (by decide)) rfl) (g := (mkF m 255 #[.val (.int p0), .val (.ref b1), .val (.ref b104), .val (.int (8 : Int32))] [(.int (8 : Int32)), (.ref b104), (.int (0 : Int32))])) rfl rfl (hb hby at_255) t k) ?_
    show Rch p e below _ (T215.setTop (mkF m 256 #[.val (.int p0), .val (.ref b1), .val (.ref b104), .val (.int (8 : Int32))] [(.int (0 : Int32)), (.int (0 : Int32))]))
    refine Rch.go (fun t k => XS.icmpNo X215.here hx rfl (hb hby at_256) rfl (by decide) k) ?_
    show Rch p e below _ (T215.setTop (mkF m 259 #[.val (.int p0), .val (.ref b1), .val (.ref b104), .val (.int (8 : Int32))] []))
    refine Rch.go (fun t k => XS.iconst X215.here hx rfl (hb hby at_259) k) ?_
    show Rch p e below _ (T215.setTop (mkF m 260 #[.val (.int p0), .val (.ref b1), .val (.ref b104), .val (.int (8 : Int32))] [(.int (1 : Int32))]))
    refine Rch.go (fun t k => XS.goto X215.here hx rfl (pc0 := 260) (pc' := 264) rfl (hb hby at_260) (by decide) (by decide) k) ?_
    show Rch p e below _ (T215.setTop (mkF m 264 #[.val (.int p0), .val (.ref b1), .val (.ref b104), .val (.int (8 : Int32))] [(.int (1 : Int32))]))
    refine Rch.val X215 hx (t := .boolean) hret hlk rfl (mayI (by simp)) (hb hby at_264) (by decide) (by decide) ?_
    try rw [e215]
    exact ⟨rfl, N215⟩
  · rw [hq]
    show Rch p e below _ (T184.setTop (mkF m 246 #[.val (.int p0), .val (.ref b1), .val (.ref b104), .unset] [(.int (9 : Int32))]))
    refine Rch.go (fun t k => XS.istoreN X184.here hx rfl (hb hby at_246) rfl  (l' := #[.val (.int p0), .val (.ref b1), .val (.ref b104), .val (.int (9 : Int32))]) rfl k) ?_
    show Rch p e below _ (T184.setTop (mkF m 247 #[.val (.int p0), .val (.ref b1), .val (.ref b104), .val (.int (9 : Int32))] []))
    refine Rch.go (fun t k => XS.aloadN X184.here hx rfl (hb hby at_247) rfl rfl k) ?_
    show Rch p e below _ (T184.setTop (mkF m 248 #[.val (.int p0), .val (.ref b1), .val (.ref b104), .val (.int (9 : Int32))] [(.ref b1)]))
    refine Rch.go (fun t k => XS.iloadN X184.here hx rfl (hb hby at_248) rfl  k) ?_
    show Rch p e below _ (T184.setTop (mkF m 249 #[.val (.int p0), .val (.ref b1), .val (.ref b104), .val (.int (9 : Int32))] [(.int (9 : Int32)), (.ref b1)]))
    obtain ⟨c217, r217, q217, s217, u217, H217, G217⟩ := f189
    refine Rch.go (fun t k => X184.aaload hx (j := (9 : Int32)) (v := (.ref ro9)) (by rw [e184]; exact r217.1) (State.isArrayOf_alike hZ.alike r217.2.1) rfl r217.2.2 (inb_of s217 (by decide)) (H217.at (inb_of s217 (by decide)) rfl) (g := (mkF m 249 #[.val (.int p0), .val (.ref b1), .val (.ref b104), .val (.int (9 : Int32))] [(.int (9 : Int32)), (.ref b1)])) rfl rfl (hb hby at_249) t k) ?_
    show Rch p e below _ (T184.setTop (mkF m 250 #[.val (.int p0), .val (.ref b1), .val (.ref b104), .val (.int (9 : Int32))] [(.ref ro9)]))
    obtain ⟨v218, T218, L218, X218, Q218, st218⟩ := callVi X184 hx hZ (mn_9 l Z a0 hw ro0 ro1 ro2 ro3 ro4 ro5 ro6 ro7 ro8 ro9 ro10 ro11 ro12 ro13 ro14 ro15 ro16 ro17 ro18 ro19 h184 n0 z185 o186 G) e184 hown (wd_46 hw) (wd_47 hw) (wd_49 hw) (notFace_of_selects (args := #[]) (mvT hZ (wd_49 hw))) (wd_48 hw) (wd_50 hw) (wd_3 hw) (by decide) (hb hby at_250) 0 (by decide) (by decide) (by decide) (by decide) (by rw [hml]; rfl) ro9 (G.2.2.2.2.2.2.2.2.2.2.2.2.2.2.2.2.2.2.2.1.ext o186.2) [] [] rfl (lenOf pd_0 rfl) rfl (Nat.le_of_eq rfl) (Ls := #[.val (.int p0), .val (.ref b1), .val (.ref b104), .val (.int (9 : Int32))])
    obtain ⟨rfl, M218, e218⟩ := Q218
    have N218 := Fr.app N184 M218
    refine Rch.go st218 ?_
    show Rch p e below _ (T218.setTop (mkF m 253 #[.val (.int p0), .val (.ref b1), .val (.ref b104), .val (.int (9 : Int32))] [(.int (0 : Int32))]))
    refine Rch.go (fun t k => XS.aloadN X218.here hx rfl (hb hby at_253) rfl rfl k) ?_
    show Rch p e below _ (T218.setTop (mkF m 254 #[.val (.int p0), .val (.ref b1), .val (.ref b104), .val (.int (9 : Int32))] [(.ref b104), (.int (0 : Int32))]))
    refine Rch.go (fun t k => XS.iloadN X218.here hx rfl (hb hby at_254) rfl  k) ?_
    show Rch p e below _ (T218.setTop (mkF m 255 #[.val (.int p0), .val (.ref b1), .val (.ref b104), .val (.int (9 : Int32))] [(.int (9 : Int32)), (.ref b104), (.int (0 : Int32))]))
    obtain ⟨c219, r219, q219, s219, u219, H219, G219⟩ := V184
    refine Rch.go (fun t k => X218.baloadBooleans hx (j := (9 : Int32)) (v := (.int (0 : Int32))) (by rw [e218]; exact r219.1) (State.isArrayOf_alike hZ.alike r219.2.1) r219.2.2 (inb_of s219 (by decide)) (H219.at (inb_of s219 (by decide)) rfl) (g := (mkF m 255 #[.val (.int p0), .val (.ref b1), .val (.ref b104), .val (.int (9 : Int32))] [(.int (9 : Int32)), (.ref b104), (.int (0 : Int32))])) rfl rfl (hb hby at_255) t k) ?_
    show Rch p e below _ (T218.setTop (mkF m 256 #[.val (.int p0), .val (.ref b1), .val (.ref b104), .val (.int (9 : Int32))] [(.int (0 : Int32)), (.int (0 : Int32))]))
    refine Rch.go (fun t k => XS.icmpNo X218.here hx rfl (hb hby at_256) rfl (by decide) k) ?_
    show Rch p e below _ (T218.setTop (mkF m 259 #[.val (.int p0), .val (.ref b1), .val (.ref b104), .val (.int (9 : Int32))] []))
    refine Rch.go (fun t k => XS.iconst X218.here hx rfl (hb hby at_259) k) ?_
    show Rch p e below _ (T218.setTop (mkF m 260 #[.val (.int p0), .val (.ref b1), .val (.ref b104), .val (.int (9 : Int32))] [(.int (1 : Int32))]))
    refine Rch.go (fun t k => XS.goto X218.here hx rfl (pc0 := 260) (pc' := 264) rfl (hb hby at_260) (by decide) (by decide) k) ?_
    show Rch p e below _ (T218.setTop (mkF m 264 #[.val (.int p0), .val (.ref b1), .val (.ref b104), .val (.int (9 : Int32))] [(.int (1 : Int32))]))
    refine Rch.val X218 hx (t := .boolean) hret hlk rfl (mayI (by simp)) (hb hby at_264) (by decide) (by decide) ?_
    try rw [e218]
    exact ⟨rfl, N218⟩
  · rw [hq]
    show Rch p e below _ (T184.setTop (mkF m 246 #[.val (.int p0), .val (.ref b1), .val (.ref b104), .unset] [(.int (10 : Int32))]))
    refine Rch.go (fun t k => XS.istoreN X184.here hx rfl (hb hby at_246) rfl  (l' := #[.val (.int p0), .val (.ref b1), .val (.ref b104), .val (.int (10 : Int32))]) rfl k) ?_
    show Rch p e below _ (T184.setTop (mkF m 247 #[.val (.int p0), .val (.ref b1), .val (.ref b104), .val (.int (10 : Int32))] []))
    refine Rch.go (fun t k => XS.aloadN X184.here hx rfl (hb hby at_247) rfl rfl k) ?_
    show Rch p e below _ (T184.setTop (mkF m 248 #[.val (.int p0), .val (.ref b1), .val (.ref b104), .val (.int (10 : Int32))] [(.ref b1)]))
    refine Rch.go (fun t k => XS.iloadN X184.here hx rfl (hb hby at_248) rfl  k) ?_
    show Rch p e below _ (T184.setTop (mkF m 249 #[.val (.int p0), .val (.ref b1), .val (.ref b104), .val (.int (10 : Int32))] [(.int (10 : Int32)), (.ref b1)]))
    obtain ⟨c220, r220, q220, s220, u220, H220, G220⟩ := f189
    refine Rch.go (fun t k => X184.aaload hx (j := (10 : Int32)) (v := (.ref ro10)) (by rw [e184]; exact r220.1) (State.isArrayOf_alike hZ.alike r220.2.1) rfl r220.2.2 (inb_of s220 (by decide)) (H220.at (inb_of s220 (by decide)) rfl) (g := (mkF m 249 #[.val (.int p0), .val (.ref b1), .val (.ref b104), .val (.int (10 : Int32))] [(.int (10 : Int32)), (.ref b1)])) rfl rfl (hb hby at_249) t k) ?_
    show Rch p e below _ (T184.setTop (mkF m 250 #[.val (.int p0), .val (.ref b1), .val (.ref b104), .val (.int (10 : Int32))] [(.ref ro10)]))
    obtain ⟨v221, T221, L221, X221, Q221, st221⟩ := callVi X184 hx hZ (mn_10 l Z a0 hw ro0 ro1 ro2 ro3 ro4 ro5 ro6 ro7 ro8 ro9 ro10 ro11 ro12 ro13 ro14 ro15 ro16 ro17 ro18 ro19 h184 n0 z185 o186 G) e184 hown (wd_46 hw) (wd_47 hw) (wd_49 hw) (notFace_of_selects (args := #[]) (mvT hZ (wd_49 hw))) (wd_48 hw) (wd_50 hw) (wd_3 hw) (by decide) (hb hby at_250) 0 (by decide) (by decide) (by decide) (by decide) (by rw [hml]; rfl) ro10 (G.2.2.2.2.2.2.2.2.2.2.2.2.2.2.2.2.2.2.2.2.2.1.ext o186.2) [] [] rfl (lenOf pd_0 rfl) rfl (Nat.le_of_eq rfl) (Ls := #[.val (.int p0), .val (.ref b1), .val (.ref b104), .val (.int (10 : Int32))])
    obtain ⟨rfl, M221, e221⟩ := Q221
    have N221 := Fr.app N184 M221
    refine Rch.go st221 ?_
    show Rch p e below _ (T221.setTop (mkF m 253 #[.val (.int p0), .val (.ref b1), .val (.ref b104), .val (.int (10 : Int32))] [(.int (0 : Int32))]))
    refine Rch.go (fun t k => XS.aloadN X221.here hx rfl (hb hby at_253) rfl rfl k) ?_
    show Rch p e below _ (T221.setTop (mkF m 254 #[.val (.int p0), .val (.ref b1), .val (.ref b104), .val (.int (10 : Int32))] [(.ref b104), (.int (0 : Int32))]))
    refine Rch.go (fun t k => XS.iloadN X221.here hx rfl (hb hby at_254) rfl  k) ?_
    show Rch p e below _ (T221.setTop (mkF m 255 #[.val (.int p0), .val (.ref b1), .val (.ref b104), .val (.int (10 : Int32))] [(.int (10 : Int32)), (.ref b104), (.int (0 : Int32))]))
    obtain ⟨c222, r222, q222, s222, u222, H222, G222⟩ := V184
    refine Rch.go (fun t k => X221.baloadBooleans hx (j := (10 : Int32)) (v := (.int (0 : Int32))) (by rw [e221]; exact r222.1) (State.isArrayOf_alike hZ.alike r222.2.1) r222.2.2 (inb_of s222 (by decide)) (H222.at (inb_of s222 (by decide)) rfl) (g := (mkF m 255 #[.val (.int p0), .val (.ref b1), .val (.ref b104), .val (.int (10 : Int32))] [(.int (10 : Int32)), (.ref b104), (.int (0 : Int32))])) rfl rfl (hb hby at_255) t k) ?_
    show Rch p e below _ (T221.setTop (mkF m 256 #[.val (.int p0), .val (.ref b1), .val (.ref b104), .val (.int (10 : Int32))] [(.int (0 : Int32)), (.int (0 : Int32))]))
    refine Rch.go (fun t k => XS.icmpNo X221.here hx rfl (hb hby at_256) rfl (by decide) k) ?_
    show Rch p e below _ (T221.setTop (mkF m 259 #[.val (.int p0), .val (.ref b1), .val (.ref b104), .val (.int (10 : Int32))] []))
    refine Rch.go (fun t k => XS.iconst X221.here hx rfl (hb hby at_259) k) ?_
    show Rch p e below _ (T221.setTop (mkF m 260 #[.val (.int p0), .val (.ref b1), .val (.ref b104), .val (.int (10 : Int32))] [(.int (1 : Int32))]))
    refine Rch.go (fun t k => XS.goto X221.here hx rfl (pc0 := 260) (pc' := 264) rfl (hb hby at_260) (by decide) (by decide) k) ?_
    show Rch p e below _ (T221.setTop (mkF m 264 #[.val (.int p0), .val (.ref b1), .val (.ref b104), .val (.int (10 : Int32))] [(.int (1 : Int32))]))
    refine Rch.val X221 hx (t := .boolean) hret hlk rfl (mayI (by simp)) (hb hby at_264) (by decide) (by decide) ?_
    try rw [e221]
    exact ⟨rfl, N221⟩
  · rw [hq]
    show Rch p e below _ (T184.setTop (mkF m 246 #[.val (.int p0), .val (.ref b1), .val (.ref b104), .unset] [(.int (11 : Int32))]))
    refine Rch.go (fun t k => XS.istoreN X184.here hx rfl (hb hby at_246) rfl  (l' := #[.val (.int p0), .val (.ref b1), .val (.ref b104), .val (.int (11 : Int32))]) rfl k) ?_
    show Rch p e below _ (T184.setTop (mkF m 247 #[.val (.int p0), .val (.ref b1), .val (.ref b104), .val (.int (11 : Int32))] []))
    refine Rch.go (fun t k => XS.aloadN X184.here hx rfl (hb hby at_247) rfl rfl k) ?_
    show Rch p e below _ (T184.setTop (mkF m 248 #[.val (.int p0), .val (.ref b1), .val (.ref b104), .val (.int (11 : Int32))] [(.ref b1)]))
    refine Rch.go (fun t k => XS.iloadN X184.here hx rfl (hb hby at_248) rfl  k) ?_
    show Rch p e below _ (T184.setTop (mkF m 249 #[.val (.int p0), .val (.ref b1), .val (.ref b104), .val (.int (11 : Int32))] [(.int (11 : Int32)), (.ref b1)]))
    obtain ⟨c223, r223, q223, s223, u223, H223, G223⟩ := f189
    refine Rch.go (fun t k => X184.aaload hx (j := (11 : Int32)) (v := (.ref ro11)) (by rw [e184]; exact r223.1) (State.isArrayOf_alike hZ.alike r223.2.1) rfl r223.2.2 (inb_of s223 (by decide)) (H223.at (inb_of s223 (by decide)) rfl) (g := (mkF m 249 #[.val (.int p0), .val (.ref b1), .val (.ref b104), .val (.int (11 : Int32))] [(.int (11 : Int32)), (.ref b1)])) rfl rfl (hb hby at_249) t k) ?_
    show Rch p e below _ (T184.setTop (mkF m 250 #[.val (.int p0), .val (.ref b1), .val (.ref b104), .val (.int (11 : Int32))] [(.ref ro11)]))
    obtain ⟨v224, T224, L224, X224, Q224, st224⟩ := callVi X184 hx hZ (mn_11 l Z a0 hw ro0 ro1 ro2 ro3 ro4 ro5 ro6 ro7 ro8 ro9 ro10 ro11 ro12 ro13 ro14 ro15 ro16 ro17 ro18 ro19 h184 n0 z185 o186 G) e184 hown (wd_46 hw) (wd_47 hw) (wd_49 hw) (notFace_of_selects (args := #[]) (mvT hZ (wd_49 hw))) (wd_48 hw) (wd_50 hw) (wd_3 hw) (by decide) (hb hby at_250) 0 (by decide) (by decide) (by decide) (by decide) (by rw [hml]; rfl) ro11 (G.2.2.2.2.2.2.2.2.2.2.2.2.2.2.2.2.2.2.2.2.2.2.2.1.ext o186.2) [] [] rfl (lenOf pd_0 rfl) rfl (Nat.le_of_eq rfl) (Ls := #[.val (.int p0), .val (.ref b1), .val (.ref b104), .val (.int (11 : Int32))])
    obtain ⟨rfl, M224, e224⟩ := Q224
    have N224 := Fr.app N184 M224
    refine Rch.go st224 ?_
    show Rch p e below _ (T224.setTop (mkF m 253 #[.val (.int p0), .val (.ref b1), .val (.ref b104), .val (.int (11 : Int32))] [(.int (0 : Int32))]))
    refine Rch.go (fun t k => XS.aloadN X224.here hx rfl (hb hby at_253) rfl rfl k) ?_
    show Rch p e below _ (T224.setTop (mkF m 254 #[.val (.int p0), .val (.ref b1), .val (.ref b104), .val (.int (11 : Int32))] [(.ref b104), (.int (0 : Int32))]))
    refine Rch.go (fun t k => XS.iloadN X224.here hx rfl (hb hby at_254) rfl  k) ?_
    show Rch p e below _ (T224.setTop (mkF m 255 #[.val (.int p0), .val (.ref b1), .val (.ref b104), .val (.int (11 : Int32))] [(.int (11 : Int32)), (.ref b104), (.int (0 : Int32))]))
    obtain ⟨c225, r225, q225, s225, u225, H225, G225⟩ := V184
    refine Rch.go (fun t k => X224.baloadBooleans hx (j := (11 : Int32)) (v := (.int (0 : Int32))) (by rw [e224]; exact r225.1) (State.isArrayOf_alike hZ.alike r225.2.1) r225.2.2 (inb_of s225 (by decide)) (H225.at (inb_of s225 (by decide)) rfl) (g := (mkF m 255 #[.val (.int p0), .val (.ref b1), .val (.ref b104), .val (.int (11 : Int32))] [(.int (11 : Int32)), (.ref b104), (.int (0 : Int32))])) rfl rfl (hb hby at_255) t k) ?_
    show Rch p e below _ (T224.setTop (mkF m 256 #[.val (.int p0), .val (.ref b1), .val (.ref b104), .val (.int (11 : Int32))] [(.int (0 : Int32)), (.int (0 : Int32))]))
    refine Rch.go (fun t k => XS.icmpNo X224.here hx rfl (hb hby at_256) rfl (by decide) k) ?_
    show Rch p e below _ (T224.setTop (mkF m 259 #[.val (.int p0), .val (.ref b1), .val (.ref b104), .val (.int (11 : Int32))] []))
    refine Rch.go (fun t k => XS.iconst X224.here hx rfl (hb hby at_259) k) ?_
    show Rch p e below _ (T224.setTop (mkF m 260 #[.val (.int p0), .val (.ref b1), .val (.ref b104), .val (.int (11 : Int32))] [(.int (1 : Int32))]))
    refine Rch.go (fun t k => XS.goto X224.here hx rfl (pc0 := 260) (pc' := 264) rfl (hb hby at_260) (by decide) (by decide) k) ?_
    show Rch p e below _ (T224.setTop (mkF m 264 #[.val (.int p0), .val (.ref b1), .val (.ref b104), .val (.int (11 : Int32))] [(.int (1 : Int32))]))
    refine Rch.val X224 hx (t := .boolean) hret hlk rfl (mayI (by simp)) (hb hby at_264) (by decide) (by decide) ?_
    try rw [e224]
    exact ⟨rfl, N224⟩
  · rw [hq]
    show Rch p e below _ (T184.setTop (mkF m 246 #[.val (.int p0), .val (.ref b1), .val (.ref b104), .unset] [(.int (12 : Int32))]))
    refine Rch.go (fun t k => XS.istoreN X184.here hx rfl (hb hby at_246) rfl  (l' := #[.val (.int p0), .val (.ref b1), .val (.ref b104), .val (.int (12 : Int32))]) rfl k) ?_
    show Rch p e below _ (T184.setTop (mkF m 247 #[.val (.int p0), .val (.ref b1), .val (.ref b104), .val (.int (12 : Int32))] []))
    refine Rch.go (fun t k => XS.aloadN X184.here hx rfl (hb hby at_247) rfl rfl k) ?_
    show Rch p e below _ (T184.setTop (mkF m 248 #[.val (.int p0), .val (.ref b1), .val (.ref b104), .val (.int (12 : Int32))] [(.ref b1)]))
    refine Rch.go (fun t k => XS.iloadN X184.here hx rfl (hb hby at_248) rfl  k) ?_
    show Rch p e below _ (T184.setTop (mkF m 249 #[.val (.int p0), .val (.ref b1), .val (.ref b104), .val (.int (12 : Int32))] [(.int (12 : Int32)), (.ref b1)]))
    obtain ⟨c226, r226, q226, s226, u226, H226, G226⟩ := f189
    refine Rch.go (fun t k => X184.aaload hx (j := (12 : Int32)) (v := (.ref ro12)) (by rw [e184]; exact r226.1) (State.isArrayOf_alike hZ.alike r226.2.1) rfl r226.2.2 (inb_of s226 (by decide)) (H226.at (inb_of s226 (by decide)) rfl) (g := (mkF m 249 #[.val (.int p0), .val (.ref b1), .val (.ref b104), .val (.int (12 : Int32))] [(.int (12 : Int32)), (.ref b1)])) rfl rfl (hb hby at_249) t k) ?_
    show Rch p e below _ (T184.setTop (mkF m 250 #[.val (.int p0), .val (.ref b1), .val (.ref b104), .val (.int (12 : Int32))] [(.ref ro12)]))
    obtain ⟨v227, T227, L227, X227, Q227, st227⟩ := callVi X184 hx hZ (mn_12 l Z a0 hw ro0 ro1 ro2 ro3 ro4 ro5 ro6 ro7 ro8 ro9 ro10 ro11 ro12 ro13 ro14 ro15 ro16 ro17 ro18 ro19 h184 n0 z185 o186 G) e184 hown (wd_46 hw) (wd_47 hw) (wd_49 hw) (notFace_of_selects (args := #[]) (mvT hZ (wd_49 hw))) (wd_48 hw) (wd_50 hw) (wd_3 hw) (by decide) (hb hby at_250) 0 (by decide) (by decide) (by decide) (by decide) (by rw [hml]; rfl) ro12 (G.2.2.2.2.2.2.2.2.2.2.2.2.2.2.2.2.2.2.2.2.2.2.2.2.2.1.ext o186.2) [] [] rfl (lenOf pd_0 rfl) rfl (Nat.le_of_eq rfl) (Ls := #[.val (.int p0), .val (.ref b1), .val (.ref b104), .val (.int (12 : Int32))])
    obtain ⟨rfl, M227, e227⟩ := Q227
    have N227 := Fr.app N184 M227
    refine Rch.go st227 ?_
    show Rch p e below _ (T227.setTop (mkF m 253 #[.val (.int p0), .val (.ref b1), .val (.ref b104), .val (.int (12 : Int32))] [(.int (0 : Int32))]))
    refine Rch.go (fun t k => XS.aloadN X227.here hx rfl (hb hby at_253) rfl rfl k) ?_
    show Rch p e below _ (T227.setTop (mkF m 254 #[.val (.int p0), .val (.ref b1), .val (.ref b104), .val (.int (12 : Int32))] [(.ref b104), (.int (0 : Int32))]))
    refine Rch.go (fun t k => XS.iloadN X227.here hx rfl (hb hby at_254) rfl  k) ?_
    show Rch p e below _ (T227.setTop (mkF m 255 #[.val (.int p0), .val (.ref b1), .val (.ref b104), .val (.int (12 : Int32))] [(.int (12 : Int32)), (.ref b104), (.int (0 : Int32))]))
    obtain ⟨c228, r228, q228, s228, u228, H228, G228⟩ := V184
    refine Rch.go (fun t k => X227.baloadBooleans hx (j := (12 : Int32)) (v := (.int (0 : Int32))) (by rw [e227]; exact r228.1) (State.isArrayOf_alike hZ.alike r228.2.1) r228.2.2 (inb_of s228 (by decide)) (H228.at (inb_of s228 (by decide)) rfl) (g := (mkF m 255 #[.val (.int p0), .val (.ref b1), .val (.ref b104), .val (.int (12 : Int32))] [(.int (12 : Int32)), (.ref b104), (.int (0 : Int32))])) rfl rfl (hb hby at_255) t k) ?_
    show Rch p e below _ (T227.setTop (mkF m 256 #[.val (.int p0), .val (.ref b1), .val (.ref b104), .val (.int (12 : Int32))] [(.int (0 : Int32)), (.int (0 : Int32))]))
    refine Rch.go (fun t k => XS.icmpNo X227.here hx rfl (hb hby at_256) rfl (by decide) k) ?_
    show Rch p e below _ (T227.setTop (mkF m 259 #[.val (.int p0), .val (.ref b1), .val (.ref b104), .val (.int (12 : Int32))] []))
    refine Rch.go (fun t k => XS.iconst X227.here hx rfl (hb hby at_259) k) ?_
    show Rch p e below _ (T227.setTop (mkF m 260 #[.val (.int p0), .val (.ref b1), .val (.ref b104), .val (.int (12 : Int32))] [(.int (1 : Int32))]))
    refine Rch.go (fun t k => XS.goto X227.here hx rfl (pc0 := 260) (pc' := 264) rfl (hb hby at_260) (by decide) (by decide) k) ?_
    show Rch p e below _ (T227.setTop (mkF m 264 #[.val (.int p0), .val (.ref b1), .val (.ref b104), .val (.int (12 : Int32))] [(.int (1 : Int32))]))
    refine Rch.val X227 hx (t := .boolean) hret hlk rfl (mayI (by simp)) (hb hby at_264) (by decide) (by decide) ?_
    try rw [e227]
    exact ⟨rfl, N227⟩
  · rw [hq]
    show Rch p e below _ (T184.setTop (mkF m 246 #[.val (.int p0), .val (.ref b1), .val (.ref b104), .unset] [(.int (13 : Int32))]))
    refine Rch.go (fun t k => XS.istoreN X184.here hx rfl (hb hby at_246) rfl  (l' := #[.val (.int p0), .val (.ref b1), .val (.ref b104), .val (.int (13 : Int32))]) rfl k) ?_
    show Rch p e below _ (T184.setTop (mkF m 247 #[.val (.int p0), .val (.ref b1), .val (.ref b104), .val (.int (13 : Int32))] []))
    refine Rch.go (fun t k => XS.aloadN X184.here hx rfl (hb hby at_247) rfl rfl k) ?_
    show Rch p e below _ (T184.setTop (mkF m 248 #[.val (.int p0), .val (.ref b1), .val (.ref b104), .val (.int (13 : Int32))] [(.ref b1)]))
    refine Rch.go (fun t k => XS.iloadN X184.here hx rfl (hb hby at_248) rfl  k) ?_
    show Rch p e below _ (T184.setTop (mkF m 249 #[.val (.int p0), .val (.ref b1), .val (.ref b104), .val (.int (13 : Int32))] [(.int (13 : Int32)), (.ref b1)]))
    obtain ⟨c229, r229, q229, s229, u229, H229, G229⟩ := f189
    refine Rch.go (fun t k => X184.aaload hx (j := (13 : Int32)) (v := (.ref ro13)) (by rw [e184]; exact r229.1) (State.isArrayOf_alike hZ.alike r229.2.1) rfl r229.2.2 (inb_of s229 (by decide)) (H229.at (inb_of s229 (by decide)) rfl) (g := (mkF m 249 #[.val (.int p0), .val (.ref b1), .val (.ref b104), .val (.int (13 : Int32))] [(.int (13 : Int32)), (.ref b1)])) rfl rfl (hb hby at_249) t k) ?_
    show Rch p e below _ (T184.setTop (mkF m 250 #[.val (.int p0), .val (.ref b1), .val (.ref b104), .val (.int (13 : Int32))] [(.ref ro13)]))
    obtain ⟨v230, T230, L230, X230, Q230, st230⟩ := callVi X184 hx hZ (mn_13 l Z a0 hw ro0 ro1 ro2 ro3 ro4 ro5 ro6 ro7 ro8 ro9 ro10 ro11 ro12 ro13 ro14 ro15 ro16 ro17 ro18 ro19 h184 n0 z185 o186 G) e184 hown (wd_46 hw) (wd_47 hw) (wd_49 hw) (notFace_of_selects (args := #[]) (mvT hZ (wd_49 hw))) (wd_48 hw) (wd_50 hw) (wd_3 hw) (by decide) (hb hby at_250) 0 (by decide) (by decide) (by decide) (by decide) (by rw [hml]; rfl) ro13 (G.2.2.2.2.2.2.2.2.2.2.2.2.2.2.2.2.2.2.2.2.2.2.2.2.2.2.2.1.ext o186.2) [] [] rfl (lenOf pd_0 rfl) rfl (Nat.le_of_eq rfl) (Ls := #[.val (.int p0), .val (.ref b1), .val (.ref b104), .val (.int (13 : Int32))])
    obtain ⟨rfl, M230, e230⟩ := Q230
    have N230 := Fr.app N184 M230
    refine Rch.go st230 ?_
    show Rch p e below _ (T230.setTop (mkF m 253 #[.val (.int p0), .val (.ref b1), .val (.ref b104), .val (.int (13 : Int32))] [(.int (0 : Int32))]))
    refine Rch.go (fun t k => XS.aloadN X230.here hx rfl (hb hby at_253) rfl rfl k) ?_
    show Rch p e below _ (T230.setTop (mkF m 254 #[.val (.int p0), .val (.ref b1), .val (.ref b104), .val (.int (13 : Int32))] [(.ref b104), (.int (0 : Int32))]))
    refine Rch.go (fun t k => XS.iloadN X230.here hx rfl (hb hby at_254) rfl  k) ?_
    show Rch p e below _ (T230.setTop (mkF m 255 #[.val (.int p0), .val (.ref b1), .val (.ref b104), .val (.int (13 : Int32))] [(.int (13 : Int32)), (.ref b104), (.int (0 : Int32))]))
    obtain ⟨c231, r231, q231, s231, u231, H231, G231⟩ := V184
    refine Rch.go (fun t k => X230.baloadBooleans hx (j := (13 : Int32)) (v := (.int (0 : Int32))) (by rw [e230]; exact r231.1) (State.isArrayOf_alike hZ.alike r231.2.1) r231.2.2 (inb_of s231 (by decide)) (H231.at (inb_of s231 (by decide)) rfl) (g := (mkF m 255 #[.val (.int p0), .val (.ref b1), .val (.ref b104), .val (.int (13 : Int32))] [(.int (13 : Int32)), (.ref b104), (.int (0 : Int32))])) rfl rfl (hb hby at_255) t k) ?_
    show Rch p e below _ (T230.setTop (mkF m 256 #[.val (.int p0), .val (.ref b1), .val (.ref b104), .val (.int (13 : Int32))] [(.int (0 : Int32)), (.int (0 : Int32))]))
    refine Rch.go (fun t k => XS.icmpNo X230.here hx rfl (hb hby at_256) rfl (by decide) k) ?_
    show Rch p e below _ (T230.setTop (mkF m 259 #[.val (.int p0), .val (.ref b1), .val (.ref b104), .val (.int (13 : Int32))] []))
    refine Rch.go (fun t k => XS.iconst X230.here hx rfl (hb hby at_259) k) ?_
    show Rch p e below _ (T230.setTop (mkF m 260 #[.val (.int p0), .val (.ref b1), .val (.ref b104), .val (.int (13 : Int32))] [(.int (1 : Int32))]))
    refine Rch.go (fun t k => XS.goto X230.here hx rfl (pc0 := 260) (pc' := 264) rfl (hb hby at_260) (by decide) (by decide) k) ?_
    show Rch p e below _ (T230.setTop (mkF m 264 #[.val (.int p0), .val (.ref b1), .val (.ref b104), .val (.int (13 : Int32))] [(.int (1 : Int32))]))
    refine Rch.val X230 hx (t := .boolean) hret hlk rfl (mayI (by simp)) (hb hby at_264) (by decide) (by decide) ?_
    try rw [e230]
    exact ⟨rfl, N230⟩
  · rw [hq]
    show Rch p e below _ (T184.setTop (mkF m 246 #[.val (.int p0), .val (.ref b1), .val (.ref b104), .unset] [(.int (14 : Int32))]))
    refine Rch.go (fun t k => XS.istoreN X184.here hx rfl (hb hby at_246) rfl  (l' := #[.val (.int p0), .val (.ref b1), .val (.ref b104), .val (.int (14 : Int32))]) rfl k) ?_
    show Rch p e below _ (T184.setTop (mkF m 247 #[.val (.int p0), .val (.ref b1), .val (.ref b104), .val (.int (14 : Int32))] []))
    refine Rch.go (fun t k => XS.aloadN X184.here hx rfl (hb hby at_247) rfl rfl k) ?_
    show Rch p e below _ (T184.setTop (mkF m 248 #[.val (.int p0), .val (.ref b1), .val (.ref b104), .val (.int (14 : Int32))] [(.ref b1)]))
    refine Rch.go (fun t k => XS.iloadN X184.here hx rfl (hb hby at_248) rfl  k) ?_
    show Rch p e below _ (T184.setTop (mkF m 249 #[.val (.int p0), .val (.ref b1), .val (.ref b104), .val (.int (14 : Int32))] [(.int (14 : Int32)), (.ref b1)]))
    obtain ⟨c232, r232, q232, s232, u232, H232, G232⟩ := f189
    refine Rch.go (fun t k => X184.aaload hx (j := (14 : Int32)) (v := (.ref ro14)) (by rw [e184]; exact r232.1) (State.isArrayOf_alike hZ.alike r232.2.1) rfl r232.2.2 (inb_of s232 (by decide)) (H232.at (inb_of s232 (by decide)) rfl) (g := (mkF m 249 #[.val (.int p0), .val (.ref b1), .val (.ref b104), .val (.int (14 : Int32))] [(.int (14 : Int32)), (.ref b1)])) rfl rfl (hb hby at_249) t k) ?_
    show Rch p e below _ (T184.setTop (mkF m 250 #[.val (.int p0), .val (.ref b1), .val (.ref b104), .val (.int (14 : Int32))] [(.ref ro14)]))
    obtain ⟨v233, T233, L233, X233, Q233, st233⟩ := callVi X184 hx hZ (mn_14 l Z a0 hw ro0 ro1 ro2 ro3 ro4 ro5 ro6 ro7 ro8 ro9 ro10 ro11 ro12 ro13 ro14 ro15 ro16 ro17 ro18 ro19 h184 n0 z185 o186 G) e184 hown (wd_46 hw) (wd_47 hw) (wd_49 hw) (notFace_of_selects (args := #[]) (mvT hZ (wd_49 hw))) (wd_48 hw) (wd_50 hw) (wd_3 hw) (by decide) (hb hby at_250) 0 (by decide) (by decide) (by decide) (by decide) (by rw [hml]; rfl) ro14 (G.2.2.2.2.2.2.2.2.2.2.2.2.2.2.2.2.2.2.2.2.2.2.2.2.2.2.2.2.2.1.ext o186.2) [] [] rfl (lenOf pd_0 rfl) rfl (Nat.le_of_eq rfl) (Ls := #[.val (.int p0), .val (.ref b1), .val (.ref b104), .val (.int (14 : Int32))])
    obtain ⟨rfl, M233, e233⟩ := Q233
    have N233 := Fr.app N184 M233
    refine Rch.go st233 ?_
    show Rch p e below _ (T233.setTop (mkF m 253 #[.val (.int p0), .val (.ref b1), .val (.ref b104), .val (.int (14 : Int32))] [(.int (0 : Int32))]))
    refine Rch.go (fun t k => XS.aloadN X233.here hx rfl (hb hby at_253) rfl rfl k) ?_
    show Rch p e below _ (T233.setTop (mkF m 254 #[.val (.int p0), .val (.ref b1), .val (.ref b104), .val (.int (14 : Int32))] [(.ref b104), (.int (0 : Int32))]))
    refine Rch.go (fun t k => XS.iloadN X233.here hx rfl (hb hby at_254) rfl  k) ?_
    show Rch p e below _ (T233.setTop (mkF m 255 #[.val (.int p0), .val (.ref b1), .val (.ref b104), .val (.int (14 : Int32))] [(.int (14 : Int32)), (.ref b104), (.int (0 : Int32))]))
    obtain ⟨c234, r234, q234, s234, u234, H234, G234⟩ := V184
    refine Rch.go (fun t k => X233.baloadBooleans hx (j := (14 : Int32)) (v := (.int (0 : Int32))) (by rw [e233]; exact r234.1) (State.isArrayOf_alike hZ.alike r234.2.1) r234.2.2 (inb_of s234 (by decide)) (H234.at (inb_of s234 (by decide)) rfl) (g := (mkF m 255 #[.val (.int p0), .val (.ref b1), .val (.ref b104), .val (.int (14 : Int32))] [(.int (14 : Int32)), (.ref b104), (.int (0 : Int32))])) rfl rfl (hb hby at_255) t k) ?_
    show Rch p e below _ (T233.setTop (mkF m 256 #[.val (.int p0), .val (.ref b1), .val (.ref b104), .val (.int (14 : Int32))] [(.int (0 : Int32)), (.int (0 : Int32))]))
    refine Rch.go (fun t k => XS.icmpNo X233.here hx rfl (hb hby at_256) rfl (by decide) k) ?_
    show Rch p e below _ (T233.setTop (mkF m 259 #[.val (.int p0), .val (.ref b1), .val (.ref b104), .val (.int (14 : Int32))] []))
    refine Rch.go (fun t k => XS.iconst X233.here hx rfl (hb hby at_259) k) ?_
    show Rch p e below _ (T233.setTop (mkF m 260 #[.val (.int p0), .val (.ref b1), .val (.ref b104), .val (.int (14 : Int32))] [(.int (1 : Int32))]))
    refine Rch.go (fun t k => XS.goto X233.here hx rfl (pc0 := 260) (pc' := 264) rfl (hb hby at_260) (by decide) (by decide) k) ?_
    show Rch p e below _ (T233.setTop (mkF m 264 #[.val (.int p0), .val (.ref b1), .val (.ref b104), .val (.int (14 : Int32))] [(.int (1 : Int32))]))
    refine Rch.val X233 hx (t := .boolean) hret hlk rfl (mayI (by simp)) (hb hby at_264) (by decide) (by decide) ?_
    try rw [e233]
    exact ⟨rfl, N233⟩
  · rw [hq]
    show Rch p e below _ (T184.setTop (mkF m 246 #[.val (.int p0), .val (.ref b1), .val (.ref b104), .unset] [(.int (15 : Int32))]))
    refine Rch.go (fun t k => XS.istoreN X184.here hx rfl (hb hby at_246) rfl  (l' := #[.val (.int p0), .val (.ref b1), .val (.ref b104), .val (.int (15 : Int32))]) rfl k) ?_
    show Rch p e below _ (T184.setTop (mkF m 247 #[.val (.int p0), .val (.ref b1), .val (.ref b104), .val (.int (15 : Int32))] []))
    refine Rch.go (fun t k => XS.aloadN X184.here hx rfl (hb hby at_247) rfl rfl k) ?_
    show Rch p e below _ (T184.setTop (mkF m 248 #[.val (.int p0), .val (.ref b1), .val (.ref b104), .val (.int (15 : Int32))] [(.ref b1)]))
    refine Rch.go (fun t k => XS.iloadN X184.here hx rfl (hb hby at_248) rfl  k) ?_
    show Rch p e below _ (T184.setTop (mkF m 249 #[.val (.int p0), .val (.ref b1), .val (.ref b104), .val (.int (15 : Int32))] [(.int (15 : Int32)), (.ref b1)]))
    obtain ⟨c235, r235, q235, s235, u235, H235, G235⟩ := f189
    refine Rch.go (fun t k => X184.aaload hx (j := (15 : Int32)) (v := (.ref ro15)) (by rw [e184]; exact r235.1) (State.isArrayOf_alike hZ.alike r235.2.1) rfl r235.2.2 (inb_of s235 (by decide)) (H235.at (inb_of s235 (by decide)) rfl) (g := (mkF m 249 #[.val (.int p0), .val (.ref b1), .val (.ref b104), .val (.int (15 : Int32))] [(.int (15 : Int32)), (.ref b1)])) rfl rfl (hb hby at_249) t k) ?_
    show Rch p e below _ (T184.setTop (mkF m 250 #[.val (.int p0), .val (.ref b1), .val (.ref b104), .val (.int (15 : Int32))] [(.ref ro15)]))
    obtain ⟨v236, T236, L236, X236, Q236, st236⟩ := callVi X184 hx hZ (mn_15 l Z a0 hw ro0 ro1 ro2 ro3 ro4 ro5 ro6 ro7 ro8 ro9 ro10 ro11 ro12 ro13 ro14 ro15 ro16 ro17 ro18 ro19 h184 n0 z185 o186 G) e184 hown (wd_46 hw) (wd_47 hw) (wd_49 hw) (notFace_of_selects (args := #[]) (mvT hZ (wd_49 hw))) (wd_48 hw) (wd_50 hw) (wd_3 hw) (by decide) (hb hby at_250) 0 (by decide) (by decide) (by decide) (by decide) (by rw [hml]; rfl) ro15 (G.2.2.2.2.2.2.2.2.2.2.2.2.2.2.2.2.2.2.2.2.2.2.2.2.2.2.2.2.2.2.2.1.ext o186.2) [] [] rfl (lenOf pd_0 rfl) rfl (Nat.le_of_eq rfl) (Ls := #[.val (.int p0), .val (.ref b1), .val (.ref b104), .val (.int (15 : Int32))])
    obtain ⟨rfl, M236, e236⟩ := Q236
    have N236 := Fr.app N184 M236
    refine Rch.go st236 ?_
    show Rch p e below _ (T236.setTop (mkF m 253 #[.val (.int p0), .val (.ref b1), .val (.ref b104), .val (.int (15 : Int32))] [(.int (0 : Int32))]))
    refine Rch.go (fun t k => XS.aloadN X236.here hx rfl (hb hby at_253) rfl rfl k) ?_
    show Rch p e below _ (T236.setTop (mkF m 254 #[.val (.int p0), .val (.ref b1), .val (.ref b104), .val (.int (15 : Int32))] [(.ref b104), (.int (0 : Int32))]))
    refine Rch.go (fun t k => XS.iloadN X236.here hx rfl (hb hby at_254) rfl  k) ?_
    show Rch p e below _ (T236.setTop (mkF m 255 #[.val (.int p0), .val (.ref b1), .val (.ref b104), .val (.int (15 : Int32))] [(.int (15 : Int32)), (.ref b104), (.int (0 : Int32))]))
    obtain ⟨c237, r237, q237, s237, u237, H237, G237⟩ := V184
    refine Rch.go (fun t k => X236.baloadBooleans hx (j := (15 : Int32)) (v := (.int (0 : Int32))) (by rw [e236]; exact r237.1) (State.isArrayOf_alike hZ.alike r237.2.1) r237.2.2 (inb_of s237 (by decide)) (H237.at (inb_of s237 (by decide)) rfl) (g := (mkF m 255 #[.val (.int p0), .val (.ref b1), .val (.ref b104), .val (.int (15 : Int32))] [(.int (15 : Int32)), (.ref b104), (.int (0 : Int32))])) rfl rfl (hb hby at_255) t k) ?_
    show Rch p e below _ (T236.setTop (mkF m 256 #[.val (.int p0), .val (.ref b1), .val (.ref b104), .val (.int (15 : Int32))] [(.int (0 : Int32)), (.int (0 : Int32))]))
    refine Rch.go (fun t k => XS.icmpNo X236.here hx rfl (hb hby at_256) rfl (by decide) k) ?_
    show Rch p e below _ (T236.setTop (mkF m 259 #[.val (.int p0), .val (.ref b1), .val (.ref b104), .val (.int (15 : Int32))] []))
    refine Rch.go (fun t k => XS.iconst X236.here hx rfl (hb hby at_259) k) ?_
    show Rch p e below _ (T236.setTop (mkF m 260 #[.val (.int p0), .val (.ref b1), .val (.ref b104), .val (.int (15 : Int32))] [(.int (1 : Int32))]))
    refine Rch.go (fun t k => XS.goto X236.here hx rfl (pc0 := 260) (pc' := 264) rfl (hb hby at_260) (by decide) (by decide) k) ?_
    show Rch p e below _ (T236.setTop (mkF m 264 #[.val (.int p0), .val (.ref b1), .val (.ref b104), .val (.int (15 : Int32))] [(.int (1 : Int32))]))
    refine Rch.val X236 hx (t := .boolean) hret hlk rfl (mayI (by simp)) (hb hby at_264) (by decide) (by decide) ?_
    try rw [e236]
    exact ⟨rfl, N236⟩
  · rw [hq]
    show Rch p e below _ (T184.setTop (mkF m 246 #[.val (.int p0), .val (.ref b1), .val (.ref b104), .unset] [(.int (16 : Int32))]))
    refine Rch.go (fun t k => XS.istoreN X184.here hx rfl (hb hby at_246) rfl  (l' := #[.val (.int p0), .val (.ref b1), .val (.ref b104), .val (.int (16 : Int32))]) rfl k) ?_
    show Rch p e below _ (T184.setTop (mkF m 247 #[.val (.int p0), .val (.ref b1), .val (.ref b104), .val (.int (16 : Int32))] []))
    refine Rch.go (fun t k => XS.aloadN X184.here hx rfl (hb hby at_247) rfl rfl k) ?_
    show Rch p e below _ (T184.setTop (mkF m 248 #[.val (.int p0), .val (.ref b1), .val (.ref b104), .val (.int (16 : Int32))] [(.ref b1)]))
    refine Rch.go (fun t k => XS.iloadN X184.here hx rfl (hb hby at_248) rfl  k) ?_
    show Rch p e below _ (T184.setTop (mkF m 249 #[.val (.int p0), .val (.ref b1), .val (.ref b104), .val (.int (16 : Int32))] [(.int (16 : Int32)), (.ref b1)]))
    obtain ⟨c238, r238, q238, s238, u238, H238, G238⟩ := f189
    refine Rch.go (fun t k => X184.aaload hx (j := (16 : Int32)) (v := (.ref ro16)) (by rw [e184]; exact r238.1) (State.isArrayOf_alike hZ.alike r238.2.1) rfl r238.2.2 (inb_of s238 (by decide)) (H238.at (inb_of s238 (by decide)) rfl) (g := (mkF m 249 #[.val (.int p0), .val (.ref b1), .val (.ref b104), .val (.int (16 : Int32))] [(.int (16 : Int32)), (.ref b1)])) rfl rfl (hb hby at_249) t k) ?_
    show Rch p e below _ (T184.setTop (mkF m 250 #[.val (.int p0), .val (.ref b1), .val (.ref b104), .val (.int (16 : Int32))] [(.ref ro16)]))
    obtain ⟨v239, T239, L239, X239, Q239, st239⟩ := callVi X184 hx hZ (mn_16 l Z a0 hw ro0 ro1 ro2 ro3 ro4 ro5 ro6 ro7 ro8 ro9 ro10 ro11 ro12 ro13 ro14 ro15 ro16 ro17 ro18 ro19 h184 n0 z185 o186 G) e184 hown (wd_46 hw) (wd_47 hw) (wd_49 hw) (notFace_of_selects (args := #[]) (mvT hZ (wd_49 hw))) (wd_48 hw) (wd_50 hw) (wd_3 hw) (by decide) (hb hby at_250) 0 (by decide) (by decide) (by decide) (by decide) (by rw [hml]; rfl) ro16 (G.2.2.2.2.2.2.2.2.2.2.2.2.2.2.2.2.2.2.2.2.2.2.2.2.2.2.2.2.2.2.2.2.2.1.ext o186.2) [] [] rfl (lenOf pd_0 rfl) rfl (Nat.le_of_eq rfl) (Ls := #[.val (.int p0), .val (.ref b1), .val (.ref b104), .val (.int (16 : Int32))])
    obtain ⟨rfl, M239, e239⟩ := Q239
    have N239 := Fr.app N184 M239
    refine Rch.go st239 ?_
    show Rch p e below _ (T239.setTop (mkF m 253 #[.val (.int p0), .val (.ref b1), .val (.ref b104), .val (.int (16 : Int32))] [(.int (0 : Int32))]))
    refine Rch.go (fun t k => XS.aloadN X239.here hx rfl (hb hby at_253) rfl rfl k) ?_
    show Rch p e below _ (T239.setTop (mkF m 254 #[.val (.int p0), .val (.ref b1), .val (.ref b104), .val (.int (16 : Int32))] [(.ref b104), (.int (0 : Int32))]))
    refine Rch.go (fun t k => XS.iloadN X239.here hx rfl (hb hby at_254) rfl  k) ?_
    show Rch p e below _ (T239.setTop (mkF m 255 #[.val (.int p0), .val (.ref b1), .val (.ref b104), .val (.int (16 : Int32))] [(.int (16 : Int32)), (.ref b104), (.int (0 : Int32))]))
    obtain ⟨c240, r240, q240, s240, u240, H240, G240⟩ := V184
    refine Rch.go (fun t k => X239.baloadBooleans hx (j := (16 : Int32)) (v := (.int (0 : Int32))) (by rw [e239]; exact r240.1) (State.isArrayOf_alike hZ.alike r240.2.1) r240.2.2 (inb_of s240 (by decide)) (H240.at (inb_of s240 (by decide)) rfl) (g := (mkF m 255 #[.val (.int p0), .val (.ref b1), .val (.ref b104), .val (.int (16 : Int32))] [(.int (16 : Int32)), (.ref b104), (.int (0 : Int32))])) rfl rfl (hb hby at_255) t k) ?_
    show Rch p e below _ (T239.setTop (mkF m 256 #[.val (.int p0), .val (.ref b1), .val (.ref b104), .val (.int (16 : Int32))] [(.int (0 : Int32)), (.int (0 : Int32))]))
    refine Rch.go (fun t k => XS.icmpNo X239.here hx rfl (hb hby at_256) rfl (by decide) k) ?_
    show Rch p e below _ (T239.setTop (mkF m 259 #[.val (.int p0), .val (.ref b1), .val (.ref b104), .val (.int (16 : Int32))] []))
    refine Rch.go (fun t k => XS.iconst X239.here hx rfl (hb hby at_259) k) ?_
    show Rch p e below _ (T239.setTop (mkF m 260 #[.val (.int p0), .val (.ref b1), .val (.ref b104), .val (.int (16 : Int32))] [(.int (1 : Int32))]))
    refine Rch.go (fun t k => XS.goto X239.here hx rfl (pc0 := 260) (pc' := 264) rfl (hb hby at_260) (by decide) (by decide) k) ?_
    show Rch p e below _ (T239.setTop (mkF m 264 #[.val (.int p0), .val (.ref b1), .val (.ref b104), .val (.int (16 : Int32))] [(.int (1 : Int32))]))
    refine Rch.val X239 hx (t := .boolean) hret hlk rfl (mayI (by simp)) (hb hby at_264) (by decide) (by decide) ?_
    try rw [e239]
    exact ⟨rfl, N239⟩
  · rw [hq]
    show Rch p e below _ (T184.setTop (mkF m 246 #[.val (.int p0), .val (.ref b1), .val (.ref b104), .unset] [(.int (17 : Int32))]))
    refine Rch.go (fun t k => XS.istoreN X184.here hx rfl (hb hby at_246) rfl  (l' := #[.val (.int p0), .val (.ref b1), .val (.ref b104), .val (.int (17 : Int32))]) rfl k) ?_
    show Rch p e below _ (T184.setTop (mkF m 247 #[.val (.int p0), .val (.ref b1), .val (.ref b104), .val (.int (17 : Int32))] []))
    refine Rch.go (fun t k => XS.aloadN X184.here hx rfl (hb hby at_247) rfl rfl k) ?_
    show Rch p e below _ (T184.setTop (mkF m 248 #[.val (.int p0), .val (.ref b1), .val (.ref b104), .val (.int (17 : Int32))] [(.ref b1)]))
    refine Rch.go (fun t k => XS.iloadN X184.here hx rfl (hb hby at_248) rfl  k) ?_
    show Rch p e below _ (T184.setTop (mkF m 249 #[.val (.int p0), .val (.ref b1), .val (.ref b104), .val (.int (17 : Int32))] [(.int (17 : Int32)), (.ref b1)]))
    obtain ⟨c241, r241, q241, s241, u241, H241, G241⟩ := f189
    refine Rch.go (fun t k => X184.aaload hx (j := (17 : Int32)) (v := (.ref ro17)) (by rw [e184]; exact r241.1) (State.isArrayOf_alike hZ.alike r241.2.1) rfl r241.2.2 (inb_of s241 (by decide)) (H241.at (inb_of s241 (by decide)) rfl) (g := (mkF m 249 #[.val (.int p0), .val (.ref b1), .val (.ref b104), .val (.int (17 : Int32))] [(.int (17 : Int32)), (.ref b1)])) rfl rfl (hb hby at_249) t k) ?_
    show Rch p e below _ (T184.setTop (mkF m 250 #[.val (.int p0), .val (.ref b1), .val (.ref b104), .val (.int (17 : Int32))] [(.ref ro17)]))
    obtain ⟨v242, T242, L242, X242, Q242, st242⟩ := callVi X184 hx hZ (mn_17 l Z a0 hw ro0 ro1 ro2 ro3 ro4 ro5 ro6 ro7 ro8 ro9 ro10 ro11 ro12 ro13 ro14 ro15 ro16 ro17 ro18 ro19 h184 n0 z185 o186 G) e184 hown (wd_46 hw) (wd_47 hw) (wd_49 hw) (notFace_of_selects (args := #[]) (mvT hZ (wd_49 hw))) (wd_48 hw) (wd_50 hw) (wd_3 hw) (by decide) (hb hby at_250) 0 (by decide) (by decide) (by decide) (by decide) (by rw [hml]; rfl) ro17 (G.2.2.2.2.2.2.2.2.2.2.2.2.2.2.2.2.2.2.2.2.2.2.2.2.2.2.2.2.2.2.2.2.2.2.2.1.ext o186.2) [] [] rfl (lenOf pd_0 rfl) rfl (Nat.le_of_eq rfl) (Ls := #[.val (.int p0), .val (.ref b1), .val (.ref b104), .val (.int (17 : Int32))])
    obtain ⟨rfl, M242, e242⟩ := Q242
    have N242 := Fr.app N184 M242
    refine Rch.go st242 ?_
    show Rch p e below _ (T242.setTop (mkF m 253 #[.val (.int p0), .val (.ref b1), .val (.ref b104), .val (.int (17 : Int32))] [(.int (0 : Int32))]))
    refine Rch.go (fun t k => XS.aloadN X242.here hx rfl (hb hby at_253) rfl rfl k) ?_
    show Rch p e below _ (T242.setTop (mkF m 254 #[.val (.int p0), .val (.ref b1), .val (.ref b104), .val (.int (17 : Int32))] [(.ref b104), (.int (0 : Int32))]))
    refine Rch.go (fun t k => XS.iloadN X242.here hx rfl (hb hby at_254) rfl  k) ?_
    show Rch p e below _ (T242.setTop (mkF m 255 #[.val (.int p0), .val (.ref b1), .val (.ref b104), .val (.int (17 : Int32))] [(.int (17 : Int32)), (.ref b104), (.int (0 : Int32))]))
    obtain ⟨c243, r243, q243, s243, u243, H243, G243⟩ := V184
    refine Rch.go (fun t k => X242.baloadBooleans hx (j := (17 : Int32)) (v := (.int (0 : Int32))) (by rw [e242]; exact r243.1) (State.isArrayOf_alike hZ.alike r243.2.1) r243.2.2 (inb_of s243 (by decide)) (H243.at (inb_of s243 (by decide)) rfl) (g := (mkF m 255 #[.val (.int p0), .val (.ref b1), .val (.ref b104), .val (.int (17 : Int32))] [(.int (17 : Int32)), (.ref b104), (.int (0 : Int32))])) rfl rfl (hb hby at_255) t k) ?_
    show Rch p e below _ (T242.setTop (mkF m 256 #[.val (.int p0), .val (.ref b1), .val (.ref b104), .val (.int (17 : Int32))] [(.int (0 : Int32)), (.int (0 : Int32))]))
    refine Rch.go (fun t k => XS.icmpNo X242.here hx rfl (hb hby at_256) rfl (by decide) k) ?_
    show Rch p e below _ (T242.setTop (mkF m 259 #[.val (.int p0), .val (.ref b1), .val (.ref b104), .val (.int (17 : Int32))] []))
    refine Rch.go (fun t k => XS.iconst X242.here hx rfl (hb hby at_259) k) ?_
    show Rch p e below _ (T242.setTop (mkF m 260 #[.val (.int p0), .val (.ref b1), .val (.ref b104), .val (.int (17 : Int32))] [(.int (1 : Int32))]))
    refine Rch.go (fun t k => XS.goto X242.here hx rfl (pc0 := 260) (pc' := 264) rfl (hb hby at_260) (by decide) (by decide) k) ?_
    show Rch p e below _ (T242.setTop (mkF m 264 #[.val (.int p0), .val (.ref b1), .val (.ref b104), .val (.int (17 : Int32))] [(.int (1 : Int32))]))
    refine Rch.val X242 hx (t := .boolean) hret hlk rfl (mayI (by simp)) (hb hby at_264) (by decide) (by decide) ?_
    try rw [e242]
    exact ⟨rfl, N242⟩
  · rw [hq]
    show Rch p e below _ (T184.setTop (mkF m 246 #[.val (.int p0), .val (.ref b1), .val (.ref b104), .unset] [(.int (18 : Int32))]))
    refine Rch.go (fun t k => XS.istoreN X184.here hx rfl (hb hby at_246) rfl  (l' := #[.val (.int p0), .val (.ref b1), .val (.ref b104), .val (.int (18 : Int32))]) rfl k) ?_
    show Rch p e below _ (T184.setTop (mkF m 247 #[.val (.int p0), .val (.ref b1), .val (.ref b104), .val (.int (18 : Int32))] []))
    refine Rch.go (fun t k => XS.aloadN X184.here hx rfl (hb hby at_247) rfl rfl k) ?_
    show Rch p e below _ (T184.setTop (mkF m 248 #[.val (.int p0), .val (.ref b1), .val (.ref b104), .val (.int (18 : Int32))] [(.ref b1)]))
    refine Rch.go (fun t k => XS.iloadN X184.here hx rfl (hb hby at_248) rfl  k) ?_
    show Rch p e below _ (T184.setTop (mkF m 249 #[.val (.int p0), .val (.ref b1), .val (.ref b104), .val (.int (18 : Int32))] [(.int (18 : Int32)), (.ref b1)]))
    obtain ⟨c244, r244, q244, s244, u244, H244, G244⟩ := f189
    refine Rch.go (fun t k => X184.aaload hx (j := (18 : Int32)) (v := (.ref ro18)) (by rw [e184]; exact r244.1) (State.isArrayOf_alike hZ.alike r244.2.1) rfl r244.2.2 (inb_of s244 (by decide)) (H244.at (inb_of s244 (by decide)) rfl) (g := (mkF m 249 #[.val (.int p0), .val (.ref b1), .val (.ref b104), .val (.int (18 : Int32))] [(.int (18 : Int32)), (.ref b1)])) rfl rfl (hb hby at_249) t k) ?_
    show Rch p e below _ (T184.setTop (mkF m 250 #[.val (.int p0), .val (.ref b1), .val (.ref b104), .val (.int (18 : Int32))] [(.ref ro18)]))
    obtain ⟨v245, T245, L245, X245, Q245, st245⟩ := callVi X184 hx hZ (mn_18 l Z a0 hw ro0 ro1 ro2 ro3 ro4 ro5 ro6 ro7 ro8 ro9 ro10 ro11 ro12 ro13 ro14 ro15 ro16 ro17 ro18 ro19 h184 n0 z185 o186 G) e184 hown (wd_46 hw) (wd_47 hw) (wd_49 hw) (notFace_of_selects (args := #[]) (mvT hZ (wd_49 hw))) (wd_48 hw) (wd_50 hw) (wd_3 hw) (by decide) (hb hby at_250) 0 (by decide) (by decide) (by decide) (by decide) (by rw [hml]; rfl) ro18 (G.2.2.2.2.2.2.2.2.2.2.2.2.2.2.2.2.2.2.2.2.2.2.2.2.2.2.2.2.2.2.2.2.2.2.2.2.2.1.ext o186.2) [] [] rfl (lenOf pd_0 rfl) rfl (Nat.le_of_eq rfl) (Ls := #[.val (.int p0), .val (.ref b1), .val (.ref b104), .val (.int (18 : Int32))])
    obtain ⟨rfl, M245, e245⟩ := Q245
    have N245 := Fr.app N184 M245
    refine Rch.go st245 ?_
    show Rch p e below _ (T245.setTop (mkF m 253 #[.val (.int p0), .val (.ref b1), .val (.ref b104), .val (.int (18 : Int32))] [(.int (0 : Int32))]))
    refine Rch.go (fun t k => XS.aloadN X245.here hx rfl (hb hby at_253) rfl rfl k) ?_
    show Rch p e below _ (T245.setTop (mkF m 254 #[.val (.int p0), .val (.ref b1), .val (.ref b104), .val (.int (18 : Int32))] [(.ref b104), (.int (0 : Int32))]))
    refine Rch.go (fun t k => XS.iloadN X245.here hx rfl (hb hby at_254) rfl  k) ?_
    show Rch p e below _ (T245.setTop (mkF m 255 #[.val (.int p0), .val (.ref b1), .val (.ref b104), .val (.int (18 : Int32))] [(.int (18 : Int32)), (.ref b104), (.int (0 : Int32))]))
    obtain ⟨c246, r246, q246, s246, u246, H246, G246⟩ := V184
    refine Rch.go (fun t k => X245.baloadBooleans hx (j := (18 : Int32)) (v := (.int (0 : Int32))) (by rw [e245]; exact r246.1) (State.isArrayOf_alike hZ.alike r246.2.1) r246.2.2 (inb_of s246 (by decide)) (H246.at (inb_of s246 (by decide)) rfl) (g := (mkF m 255 #[.val (.int p0), .val (.ref b1), .val (.ref b104), .val (.int (18 : Int32))] [(.int (18 : Int32)), (.ref b104), (.int (0 : Int32))])) rfl rfl (hb hby at_255) t k) ?_
    show Rch p e below _ (T245.setTop (mkF m 256 #[.val (.int p0), .val (.ref b1), .val (.ref b104), .val (.int (18 : Int32))] [(.int (0 : Int32)), (.int (0 : Int32))]))
    refine Rch.go (fun t k => XS.icmpNo X245.here hx rfl (hb hby at_256) rfl (by decide) k) ?_
    show Rch p e below _ (T245.setTop (mkF m 259 #[.val (.int p0), .val (.ref b1), .val (.ref b104), .val (.int (18 : Int32))] []))
    refine Rch.go (fun t k => XS.iconst X245.here hx rfl (hb hby at_259) k) ?_
    show Rch p e below _ (T245.setTop (mkF m 260 #[.val (.int p0), .val (.ref b1), .val (.ref b104), .val (.int (18 : Int32))] [(.int (1 : Int32))]))
    refine Rch.go (fun t k => XS.goto X245.here hx rfl (pc0 := 260) (pc' := 264) rfl (hb hby at_260) (by decide) (by decide) k) ?_
    show Rch p e below _ (T245.setTop (mkF m 264 #[.val (.int p0), .val (.ref b1), .val (.ref b104), .val (.int (18 : Int32))] [(.int (1 : Int32))]))
    refine Rch.val X245 hx (t := .boolean) hret hlk rfl (mayI (by simp)) (hb hby at_264) (by decide) (by decide) ?_
    try rw [e245]
    exact ⟨rfl, N245⟩
  · rw [hq]
    show Rch p e below _ (T184.setTop (mkF m 246 #[.val (.int p0), .val (.ref b1), .val (.ref b104), .unset] [(.int (19 : Int32))]))
    refine Rch.go (fun t k => XS.istoreN X184.here hx rfl (hb hby at_246) rfl  (l' := #[.val (.int p0), .val (.ref b1), .val (.ref b104), .val (.int (19 : Int32))]) rfl k) ?_
    show Rch p e below _ (T184.setTop (mkF m 247 #[.val (.int p0), .val (.ref b1), .val (.ref b104), .val (.int (19 : Int32))] []))
    refine Rch.go (fun t k => XS.aloadN X184.here hx rfl (hb hby at_247) rfl rfl k) ?_
    show Rch p e below _ (T184.setTop (mkF m 248 #[.val (.int p0), .val (.ref b1), .val (.ref b104), .val (.int (19 : Int32))] [(.ref b1)]))
    refine Rch.go (fun t k => XS.iloadN X184.here hx rfl (hb hby at_248) rfl  k) ?_
    show Rch p e below _ (T184.setTop (mkF m 249 #[.val (.int p0), .val (.ref b1), .val (.ref b104), .val (.int (19 : Int32))] [(.int (19 : Int32)), (.ref b1)]))
    obtain ⟨c247, r247, q247, s247, u247, H247, G247⟩ := f189
    refine Rch.go (fun t k => X184.aaload hx (j := (19 : Int32)) (v := (.ref ro19)) (by rw [e184]; exact r247.1) (State.isArrayOf_alike hZ.alike r247.2.1) rfl r247.2.2 (inb_of s247 (by decide)) (H247.at (inb_of s247 (by decide)) rfl) (g := (mkF m 249 #[.val (.int p0), .val (.ref b1), .val (.ref b104), .val (.int (19 : Int32))] [(.int (19 : Int32)), (.ref b1)])) rfl rfl (hb hby at_249) t k) ?_
    show Rch p e below _ (T184.setTop (mkF m 250 #[.val (.int p0), .val (.ref b1), .val (.ref b104), .val (.int (19 : Int32))] [(.ref ro19)]))
    obtain ⟨v248, T248, L248, X248, Q248, st248⟩ := callVi X184 hx hZ (mn_19 l Z a0 hw ro0 ro1 ro2 ro3 ro4 ro5 ro6 ro7 ro8 ro9 ro10 ro11 ro12 ro13 ro14 ro15 ro16 ro17 ro18 ro19 h184 n0 z185 o186 G) e184 hown (wd_46 hw) (wd_47 hw) (wd_49 hw) (notFace_of_selects (args := #[]) (mvT hZ (wd_49 hw))) (wd_48 hw) (wd_50 hw) (wd_3 hw) (by decide) (hb hby at_250) 0 (by decide) (by decide) (by decide) (by decide) (by rw [hml]; rfl) ro19 (G.2.2.2.2.2.2.2.2.2.2.2.2.2.2.2.2.2.2.2.2.2.2.2.2.2.2.2.2.2.2.2.2.2.2.2.2.2.2.2.1.ext o186.2) [] [] rfl (lenOf pd_0 rfl) rfl (Nat.le_of_eq rfl) (Ls := #[.val (.int p0), .val (.ref b1), .val (.ref b104), .val (.int (19 : Int32))])
    obtain ⟨rfl, M248, e248⟩ := Q248
    have N248 := Fr.app N184 M248
    refine Rch.go st248 ?_
    show Rch p e below _ (T248.setTop (mkF m 253 #[.val (.int p0), .val (.ref b1), .val (.ref b104), .val (.int (19 : Int32))] [(.int (0 : Int32))]))
    refine Rch.go (fun t k => XS.aloadN X248.here hx rfl (hb hby at_253) rfl rfl k) ?_
    show Rch p e below _ (T248.setTop (mkF m 254 #[.val (.int p0), .val (.ref b1), .val (.ref b104), .val (.int (19 : Int32))] [(.ref b104), (.int (0 : Int32))]))
    refine Rch.go (fun t k => XS.iloadN X248.here hx rfl (hb hby at_254) rfl  k) ?_
    show Rch p e below _ (T248.setTop (mkF m 255 #[.val (.int p0), .val (.ref b1), .val (.ref b104), .val (.int (19 : Int32))] [(.int (19 : Int32)), (.ref b104), (.int (0 : Int32))]))
    obtain ⟨c249, r249, q249, s249, u249, H249, G249⟩ := V184
    refine Rch.go (fun t k => X248.baloadBooleans hx (j := (19 : Int32)) (v := (.int (0 : Int32))) (by rw [e248]; exact r249.1) (State.isArrayOf_alike hZ.alike r249.2.1) r249.2.2 (inb_of s249 (by decide)) (H249.at (inb_of s249 (by decide)) rfl) (g := (mkF m 255 #[.val (.int p0), .val (.ref b1), .val (.ref b104), .val (.int (19 : Int32))] [(.int (19 : Int32)), (.ref b104), (.int (0 : Int32))])) rfl rfl (hb hby at_255) t k) ?_
    show Rch p e below _ (T248.setTop (mkF m 256 #[.val (.int p0), .val (.ref b1), .val (.ref b104), .val (.int (19 : Int32))] [(.int (0 : Int32)), (.int (0 : Int32))]))
    refine Rch.go (fun t k => XS.icmpNo X248.here hx rfl (hb hby at_256) rfl (by decide) k) ?_
    show Rch p e below _ (T248.setTop (mkF m 259 #[.val (.int p0), .val (.ref b1), .val (.ref b104), .val (.int (19 : Int32))] []))
    refine Rch.go (fun t k => XS.iconst X248.here hx rfl (hb hby at_259) k) ?_
    show Rch p e below _ (T248.setTop (mkF m 260 #[.val (.int p0), .val (.ref b1), .val (.ref b104), .val (.int (19 : Int32))] [(.int (1 : Int32))]))
    refine Rch.go (fun t k => XS.goto X248.here hx rfl (pc0 := 260) (pc' := 264) rfl (hb hby at_260) (by decide) (by decide) k) ?_
    show Rch p e below _ (T248.setTop (mkF m 264 #[.val (.int p0), .val (.ref b1), .val (.ref b104), .val (.int (19 : Int32))] [(.int (1 : Int32))]))
    refine Rch.val X248 hx (t := .boolean) hret hlk rfl (mayI (by simp)) (hb hby at_264) (by decide) (by decide) ?_
    try rw [e248]
    exact ⟨rfl, N248⟩
set_option maxRecDepth 65536 in
set_option maxHeartbeats 40000000 in
theorem comes_1 {Post : Tables → Env → Array Value → State → Outcome → State → Prop} (hpost : ∀ tb e args s v u, (limb_1_1.after args s (.returned v) u = true ∧ limb_1_2.after args s (.returned v) u = true ∧ True) → FrameEnd s (.returned v) u (Jvm.fieldLocs frame_1_writes args s ++ Jvm.arrayLocs frame_1_arrays args s ++ Jvm.staticLocs frame_1_statics s) 16 192 → Post tb e args s (.returned v) u) :
    ArmFor flags0 classFile x code maxLocals ret World_1 tables_1 room_1 Calls_1 rest_1 Pre_1 Post := by
  intro l hfl _ _ p e ha hc hk s m args below hf hA hF happ hP
  obtain ⟨hcalls, hrest, hpre⟩ := hP
  obtain ⟨-, -, -, hnamed, -, -, -, hat⟩ := (Spec.applies_iff hf).mp happ
  obtain ⟨hg, hn⟩ := and_e (Cond.before_iff.mp (show (Jvm.Cond.and given_1 narrow_1).before args s = true from hpre))
  obtain ⟨gv0, hg⟩ := and_e hg
  have gv1 := hg
  obtain ⟨w0, rfl⟩ : ∃ w0 : Value, args = #[w0] := by
    have hs : args.size = 1 := by simpa [Cond.value, given_1] using gv0
    obtain ⟨L⟩ := args
    match L, hs with
    | [w0], _ => exact ⟨w0, rfl⟩
  have hw := fun d (hd : d ∈ tables_1) => atoms_spec (ws := Jvm.Cond.code x code maxLocals ret :: tables_1) hat d (List.mem_cons_of_mem _ hd)
  have hfit : Fit s := fun {y c} hc i hi => by
    obtain ⟨ha, rfl⟩ := Array.getElem?_eq_some_iff.mp hc
    have q := List.all_eq_true.mp ((Array.all_eq_true_iff_forall_mem.mp hF) _ (Array.getElem_mem ha)) i (List.mem_range.mpr hi)
    simpa [Array.getElem?_eq_getElem hi] using q
  obtain ⟨i0, ei0⟩ := is_v gv1
  obtain rfl : w0 = (.int i0) := Option.some.inj ei0
  obtain ⟨n0, hn⟩ := and_e hn
  obtain ⟨n1, hn⟩ := and_e hn
  obtain ⟨n2, hn⟩ := and_e hn
  obtain ⟨n3, hn⟩ := and_e hn
  obtain ⟨n4, hn⟩ := and_e hn
  obtain ⟨n5, hn⟩ := and_e hn
  obtain ⟨n6, hn⟩ := and_e hn
  obtain ⟨n7, hn⟩ := and_e hn
  obtain ⟨n8, hn⟩ := and_e hn
  obtain ⟨n9, hn⟩ := and_e hn
  obtain ⟨n10, hn⟩ := and_e hn
  obtain ⟨n11, hn⟩ := and_e hn
  obtain ⟨n12, hn⟩ := and_e hn
  obtain ⟨n13, hn⟩ := and_e hn
  obtain ⟨n14, hn⟩ := and_e hn
  obtain ⟨n15, hn⟩ := and_e hn
  obtain ⟨n16, hn⟩ := and_e hn
  obtain ⟨n17, hn⟩ := and_e hn
  obtain ⟨n18, hn⟩ := and_e hn
  obtain ⟨n19, hn⟩ := and_e hn
  obtain ⟨n20, hn⟩ := and_e hn
  obtain ⟨n21, hn⟩ := and_e hn
  obtain ⟨n22, hn⟩ := and_e hn
  obtain ⟨n23, hn⟩ := and_e hn
  obtain ⟨n24, hn⟩ := and_e hn
  obtain ⟨n25, hn⟩ := and_e hn
  obtain ⟨n26, hn⟩ := and_e hn
  obtain ⟨n27, hn⟩ := and_e hn
  obtain ⟨n28, hn⟩ := and_e hn
  obtain ⟨n29, hn⟩ := and_e hn
  obtain ⟨n30, hn⟩ := and_e hn
  obtain ⟨n31, hn⟩ := and_e hn
  obtain ⟨n32, hn⟩ := and_e hn
  obtain ⟨n33, hn⟩ := and_e hn
  obtain ⟨n34, hn⟩ := and_e hn
  obtain ⟨n35, hn⟩ := and_e hn
  obtain ⟨n36, hn⟩ := and_e hn
  obtain ⟨n37, hn⟩ := and_e hn
  obtain ⟨n38, hn⟩ := and_e hn
  have n39 := hn
  obtain ⟨ro0, ev_ro0⟩ := exa_v n0
  obtain ⟨ro1, ev_ro1⟩ := exa_v n1
  obtain ⟨ro2, ev_ro2⟩ := exa_v n2
  obtain ⟨ro3, ev_ro3⟩ := exa_v n3
  obtain ⟨ro4, ev_ro4⟩ := exa_v n4
  obtain ⟨ro5, ev_ro5⟩ := exa_v n5
  obtain ⟨ro6, ev_ro6⟩ := exa_v n6
  obtain ⟨ro7, ev_ro7⟩ := exa_v n7
  obtain ⟨ro8, ev_ro8⟩ := exa_v n8
  obtain ⟨ro9, ev_ro9⟩ := exa_v n9
  obtain ⟨ro10, ev_ro10⟩ := exa_v n10
  obtain ⟨ro11, ev_ro11⟩ := exa_v n11
  obtain ⟨ro12, ev_ro12⟩ := exa_v n12
  obtain ⟨ro13, ev_ro13⟩ := exa_v n13
  obtain ⟨ro14, ev_ro14⟩ := exa_v n14
  obtain ⟨ro15, ev_ro15⟩ := exa_v n15
  obtain ⟨ro16, ev_ro16⟩ := exa_v n16
  obtain ⟨ro17, ev_ro17⟩ := exa_v n17
  obtain ⟨ro18, ev_ro18⟩ := exa_v n18
  obtain ⟨ro19, ev_ro19⟩ := exa_v n19
  have ev_20 := own_eqI n20
  have ev_21 := own_eqI n21
  have ev_22 := own_eqI n22
  have ev_23 := own_eqI n23
  have ev_24 := own_eqI n24
  have ev_25 := own_eqI n25
  have ev_26 := own_eqI n26
  have ev_27 := own_eqI n27
  have ev_28 := own_eqI n28
  have ev_29 := own_eqI n29
  have ev_30 := own_eqI n30
  have ev_31 := own_eqI n31
  have ev_32 := own_eqI n32
  have ev_33 := own_eqI n33
  have ev_34 := own_eqI n34
  have ev_35 := own_eqI n35
  have ev_36 := own_eqI n36
  have ev_37 := own_eqI n37
  have ev_38 := own_eqI n38
  have ev_39 := own_eqI n39
  have G : Olds s ro0 ro1 ro2 ro3 ro4 ro5 ro6 ro7 ro8 ro9 ro10 ro11 ro12 ro13 ro14 ro15 ro16 ro17 ro18 ro19 := ⟨(Sta.start ev_ro0 (Or.inr ⟨(wd_3 hw), (wd_4 hw)⟩)), (Exa.start ev_ro0 n0), (Sta.start ev_ro1 (Or.inr ⟨(wd_3 hw), (wd_7 hw)⟩)), (Exa.start ev_ro1 n1), (Sta.start ev_ro2 (Or.inr ⟨(wd_3 hw), (wd_9 hw)⟩)), (Exa.start ev_ro2 n2), (Sta.start ev_ro3 (Or.inr ⟨(wd_3 hw), (wd_11 hw)⟩)), (Exa.start ev_ro3 n3), (Sta.start ev_ro4 (Or.inr ⟨(wd_3 hw), (wd_13 hw)⟩)), (Exa.start ev_ro4 n4), (Sta.start ev_ro5 (Or.inr ⟨(wd_3 hw), (wd_15 hw)⟩)), (Exa.start ev_ro5 n5), (Sta.start ev_ro6 (Or.inr ⟨(wd_3 hw), (wd_17 hw)⟩)), (Exa.start ev_ro6 n6), (Sta.start ev_ro7 (Or.inr ⟨(wd_3 hw), (wd_19 hw)⟩)), (Exa.start ev_ro7 n7), (Sta.start ev_ro8 (Or.inr ⟨(wd_3 hw), (wd_21 hw)⟩)), (Exa.start ev_ro8 n8), (Sta.start ev_ro9 (Or.inr ⟨(wd_3 hw), (wd_23 hw)⟩)), (Exa.start ev_ro9 n9), (Sta.start ev_ro10 (Or.inr ⟨(wd_3 hw), (wd_25 hw)⟩)), (Exa.start ev_ro10 n10), (Sta.start ev_ro11 (Or.inr ⟨(wd_3 hw), (wd_27 hw)⟩)), (Exa.start ev_ro11 n11), (Sta.start ev_ro12 (Or.inr ⟨(wd_3 hw), (wd_29 hw)⟩)), (Exa.start ev_ro12 n12), (Sta.start ev_ro13 (Or.inr ⟨(wd_3 hw), (wd_31 hw)⟩)), (Exa.start ev_ro13 n13), (Sta.start ev_ro14 (Or.inr ⟨(wd_3 hw), (wd_33 hw)⟩)), (Exa.start ev_ro14 n14), (Sta.start ev_ro15 (Or.inr ⟨(wd_3 hw), (wd_35 hw)⟩)), (Exa.start ev_ro15 n15), (Sta.start ev_ro16 (Or.inr ⟨(wd_3 hw), (wd_37 hw)⟩)), (Exa.start ev_ro16 n16), (Sta.start ev_ro17 (Or.inr ⟨(wd_3 hw), (wd_39 hw)⟩)), (Exa.start ev_ro17 n17), (Sta.start ev_ro18 (Or.inr ⟨(wd_3 hw), (wd_41 hw)⟩)), (Exa.start ev_ro18 n18), (Sta.start ev_ro19 (Or.inr ⟨(wd_3 hw), (wd_43 hw)⟩)), (Exa.start ev_ro19 n19), (own_fldV ev_ro0 ev_20), (own_fldV ev_ro3 ev_21), (own_fldV ev_ro4 ev_22), (own_fldV ev_ro10 ev_23), (own_fldV ev_ro11 ev_24), (own_fldV ev_ro14 ev_25), (own_fldV ev_ro7 ev_26), (own_fldV ev_ro2 ev_27), (own_fldV ev_ro8 ev_28), (own_fldV ev_ro1 ev_29), (own_fldV ev_ro19 ev_30), (own_fldV ev_ro15 ev_31), (own_fldV ev_ro6 ev_32), (own_fldV ev_ro17 ev_33), (own_fldV ev_ro16 ev_34), (own_fldV ev_ro12 ev_35), (own_fldV ev_ro5 ev_36), (own_fldV ev_ro9 ev_37), (own_fldV ev_ro13 ev_38), (own_fldV ev_ro18 ev_39)⟩
  obtain ⟨n, o, h1, h2, h3, _, L, rfl, ⟨rfl, N⟩, hq⟩ := law_1 l s _ hw i0 ro0 ro1 ro2 ro3 ro4 ro5 ro6 ro7 ro8 ro9 ro10 ro11 ro12 ro13 ro14 ro15 ro16 ro17 ro18 ro19 s.heap s.heap.size (Nat.le_refl _) (Old.start s) G p e ha hc hk s m _ below hf ((Spec.applies_iff_loose hf).mp happ).1 ⟨rfl, State.Warmed39.refl s, rfl⟩ trivial
  refine ⟨n, _, h1, h2, h3, hpost _ _ _ _ _ _ ⟨Cond.after_iff.mpr rfl, Cond.after_iff.mpr (eq_i res_at (Term.int_eval (1)) rfl), trivial⟩ ⟨hq.1, hq.2.1, (hq.2.2.sift fun y hy => Or.inr (N y hy)).mono (by decide) (by decide)⟩⟩
theorem main_1_1 : Claimed_1_1 := comes_1 fun _ _ _ _ _ _ h hF => ⟨h.1, hF⟩
theorem main_1_2 : Claimed_1_2 := comes_1 fun _ _ _ _ _ _ h hF => ⟨h.2.1, hF⟩
end Jvm.Pilot.@@N@@
namespace Jvm.Pilot.@@N@@
open Jvm Jvm.ClassFile Sem Op Lib Jvm.Free Jvm.Stand Jvm.Pilot.@@N@@.Jvm.D
/-! MADE BY PROGRAM (witnessworld.py) out of the Statement's table words and the real class files: 15 classes; the members and pool entries that the words name. The judged class is class 1, her method 1. -/
namespace start1
open Jvm.ClassFile
def u (s : String) : CpInfo := .utf8 (stringToUtf16 s)
/-- a pool by its gaps: so many unusable entries, then the entry; so many at the end -/
def gap : Nat → List CpInfo → List CpInfo
  | 0, r => r
  | n + 1, r => .unusable :: gap n r
def poolList (es : List (Nat × CpInfo)) (last : Nat) : List CpInfo := es.foldr (fun e r => gap e.1 (e.2 :: r)) (gap last [])
def pool (es : List (Nat × CpInfo)) (last : Nat) : Array CpInfo := ⟨poolList es last⟩
def fileOf (pool : Array CpInfo) (this : Nat) (attrs : Array Attribute := #[]) (ms : Array MethodInfo := #[]) (fl : Nat := 33) (sup : Nat := 0) (ifs : Array Nat := #[]) (fds : Array FieldInfo := #[]) : ClassFile where
  minorVersion := 0
  majorVersion := 65
  constantPool := pool
  accessFlags := fl
  thisClass := this
  superClass := sup
  interfaces := ifs
  fields := fds
  methods := ms
  attributes := attrs
def plain (name : String) (sup : Option ClassId) : Class where
  name := name
  kind := .ordinary
  loader := none
  accessFlags := 33
  super := sup
  interfaces := #[]
  cf := none
  fields := #[]
  methods := #[]
  instanceTypes := #[]
  staticTypes := #[]
  resolved := #[]
  callSites := []
  init := .initialized
  statics := none
  mirror := none

def pool0 : Array CpInfo := pool [(5, u "<init>"), (0, u "()V"), (1, .class_ 10), (1, u "java/lang/Object")] 113

def k0m0 : Method := { name := "<init>", desc := "()V", sig := { parameters := [], returnType := none }, accessFlags := 1, code := none }
/-- java/lang/Object -/
def k0 : Class := { plain "java/lang/Object" none with
  accessFlags := 33
  interfaces := #[]
  cf := some (fileOf pool0 8 #[] #[{ accessFlags := 1, nameIndex := 5, descriptorIndex := 6, attributes := #[] }] 33 0 #[] #[])
  fields := #[]
  methods := #[k0m0]
  instanceTypes := #[]
  staticTypes := #[]
  resolved := Array.replicate 124 none
  statics := none }

def pool1 : Array CpInfo := pool [(2, .class_ 4), (1, u "java/lang/Object"), (0, u "<init>"), (0, u "()V"), (0, .class_ 8), (0, u "com/example/knit_theories/knittheories/model/Builtin"), (0, .fieldref 7 10), (0, .nameAndType 11 12), (0, u "EQUAL"), (0, u "Lcom/example/knit_theories/knittheories/model/Builtin;"), (0, .fieldref 7 14), (0, .nameAndType 15 12), (0, u "UNEQUAL"), (0, .fieldref 7 17), (0, .nameAndType 18 12), (0, u "IF_THEN_ELSE"), (0, .fieldref 7 20), (0, .nameAndType 21 12), (0, u "SUCCESSOR"), (0, .fieldref 7 23), (0, .nameAndType 24 12), (0, u "NEGATION"), (0, .fieldref 7 26), (0, .nameAndType 27 12), (0, u "ADD"), (0, .fieldref 7 29), (0, .nameAndType 30 12), (0, u "SUBTRACT"), (0, .fieldref 7 32), (0, .nameAndType 33 12), (0, u "MULTIPLY"), (0, .fieldref 7 35), (0, .nameAndType 36 12), (0, u "DIVIDE"), (0, .fieldref 7 38), (0, .nameAndType 39 12), (0, u "QUOTIENT"), (0, .fieldref 7 41), (0, .nameAndType 42 12), (0, u "REMAINDER"), (0, .fieldref 7 44), (0, .nameAndType 45 12), (0, u "DISTANCE"), (0, .fieldref 7 47), (0, .nameAndType 48 12), (0, u "MAX"), (0, .fieldref 7 50), (0, .nameAndType 51 12), (0, u "MIN"), (0, .fieldref 7 53), (0, .nameAndType 54 12), (0, u "ABS"), (0, .fieldref 7 56), (0, .nameAndType 57 12), (0, u "LESS"), (0, .fieldref 7 59), (0, .nameAndType 60 12), (0, u "LESS_OR_EQUAL"), (0, .fieldref 7 62), (0, .nameAndType 63 12), (0, u "GREATER"), (0, .fieldref 7 65), (0, .nameAndType 66 12), (0, u "GREATER_OR_EQUAL"), (0, .fieldref 7 68), (0, .nameAndType 69 12), (0, u "MODEL_CHECK"), (0, .integer 2147483647), (0, .methodref 7 72), (0, .nameAndType 73 74), (0, u "makesNumerals"), (0, u "()Z"), (0, .class_ 76), (0, u "com/example/knit_theories/knittheories/model/BuiltinMakesNumeralsPinLaw"), (2, u "law"), (0, u "(I)Z")] 7

def k1m0 : Method := { name := "<init>", desc := "()V", sig := { parameters := [], returnType := none }, accessFlags := 1, code := none }
def k1c1 : Code := { maxStack := 4, maxLocals := 4, code := code, exceptionTable := #[], attributes := #[] }
def k1m1 : Method := { name := "law", desc := "(I)Z", sig := { parameters := [.int], returnType := some .boolean }, accessFlags := 9, code := some k1c1 }
/-- com/example/knit_theories/knittheories/model/BuiltinMakesNumeralsPinLaw -/
def k1 : Class := { plain "com/example/knit_theories/knittheories/model/BuiltinMakesNumeralsPinLaw" (some 0) with
  accessFlags := 49
  interfaces := #[]
  cf := some (fileOf pool1 75 #[] #[{ accessFlags := 1, nameIndex := 5, descriptorIndex := 6, attributes := #[] }, { accessFlags := 9, nameIndex := 79, descriptorIndex := 80, attributes := #[] }] 49 2 #[] #[])
  fields := #[]
  methods := #[k1m0, k1m1]
  instanceTypes := #[]
  staticTypes := #[]
  resolved := Array.replicate 88 none
  statics := none }

def pool2 : Array CpInfo := pool [(1, .class_ 2), (0, u "java/lang/constant/Constable"), (0, .class_ 4), (0, u "java/lang/Object")] 6

/-- java/lang/constant/Constable -/
def k2 : Class := { plain "java/lang/constant/Constable" (some 0) with
  accessFlags := 1537
  interfaces := #[]
  cf := some (fileOf pool2 1 #[] #[] 1537 3 #[] #[])
  fields := #[]
  methods := #[]
  instanceTypes := #[]
  staticTypes := #[]
  resolved := Array.replicate 11 none
  statics := none }

def pool3 : Array CpInfo := pool [(1, .class_ 2), (0, u "java/lang/Comparable"), (0, .class_ 4), (0, u "java/lang/Object")] 7

/-- java/lang/Comparable -/
def k3 : Class := { plain "java/lang/Comparable" (some 0) with
  accessFlags := 1537
  interfaces := #[]
  cf := some (fileOf pool3 1 #[] #[] 1537 3 #[] #[])
  fields := #[]
  methods := #[]
  instanceTypes := #[]
  staticTypes := #[]
  resolved := Array.replicate 12 none
  statics := none }

def pool4 : Array CpInfo := pool [(1, .class_ 2), (0, u "java/io/Serializable"), (0, .class_ 4), (0, u "java/lang/Object")] 2

/-- java/io/Serializable -/
def k4 : Class := { plain "java/io/Serializable" (some 0) with
  accessFlags := 1537
  interfaces := #[]
  cf := some (fileOf pool4 1 #[] #[] 1537 3 #[] #[])
  fields := #[]
  methods := #[]
  instanceTypes := #[]
  staticTypes := #[]
  resolved := Array.replicate 7 none
  statics := none }

def pool5 : Array CpInfo := pool [(2, .class_ 4), (1, u "java/lang/Enum"), (0, u "name"), (0, u "Ljava/lang/String;"), (2, u "ordinal"), (0, u "I"), (1, .class_ 14), (1, u "java/lang/Object"), (4, u "hash"), (86, .class_ 108), (1, u "java/lang/Enum$EnumDesc"), (2, .class_ 112), (0, u "java/lang/constant/Constable"), (0, .class_ 114), (0, u "java/lang/Comparable"), (0, .class_ 116), (0, u "java/io/Serializable")] 87

/-- java/lang/Enum -/
def k5 : Class := { plain "java/lang/Enum" (some 0) with
  accessFlags := 1057
  interfaces := #[2, 3, 4]
  cf := some (fileOf pool5 2 #[.nestMembers #[106]] #[] 1057 12 #[111, 113, 115] #[{ accessFlags := 18, nameIndex := 5, descriptorIndex := 6, attributes := #[] }, { accessFlags := 18, nameIndex := 9, descriptorIndex := 10, attributes := #[] }, { accessFlags := 2, nameIndex := 19, descriptorIndex := 10, attributes := #[] }])
  fields := #[{ name := "name", type := (.object "java/lang/String"), accessFlags := 18, slot := 0, constantValue := 0 }, { name := "ordinal", type := .int, accessFlags := 18, slot := 1, constantValue := 0 }, { name := "hash", type := .int, accessFlags := 2, slot := 2, constantValue := 0 }]
  methods := #[]
  instanceTypes := #[(.object "java/lang/String"), .int, .int]
  staticTypes := #[]
  resolved := Array.replicate 204 none
  statics := none }

def pool6 : Array CpInfo := pool [(1, .class_ 2), (0, u "com/example/knit_theories/knittheories/model/Builtin"), (2, u "EQUAL"), (0, u "Lcom/example/knit_theories/knittheories/model/Builtin;"), (2, u "UNEQUAL"), (2, u "IF_THEN_ELSE"), (0, .fieldref 1 14), (0, .nameAndType 15 6), (0, u "SUCCESSOR"), (0, .fieldref 1 17), (0, .nameAndType 18 6), (0, u "NEGATION"), (2, u "ADD"), (2, u "SUBTRACT"), (2, u "MULTIPLY"), (2, u "DIVIDE"), (2, u "QUOTIENT"), (2, u "REMAINDER"), (2, u "DISTANCE"), (2, u "MAX"), (2, u "MIN"), (2, u "ABS"), (2, u "LESS"), (2, u "LESS_OR_EQUAL"), (2, u "GREATER"), (2, u "GREATER_OR_EQUAL"), (2, u "MODEL_CHECK"), (2, u "$VALUES"), (0, u "[Lcom/example/knit_theories/knittheories/model/Builtin;"), (6, .class_ 76), (1, u "java/lang/Enum"), (38, u "makesNumerals"), (0, u "()Z")] 5

def k6c0 : Code := { maxStack := 2, maxLocals := 1, code := prog_57_method_4_code, exceptionTable := #[], attributes := #[] }
def k6m0 : Method := { name := "makesNumerals", desc := "()Z", sig := { parameters := [], returnType := some .boolean }, accessFlags := 1, code := some k6c0 }
/-- com/example/knit_theories/knittheories/model/Builtin -/
def k6 : Class := { plain "com/example/knit_theories/knittheories/model/Builtin" (some 5) with
  accessFlags := 16433
  interfaces := #[]
  cf := some (fileOf pool6 1 #[] #[{ accessFlags := 1, nameIndex := 115, descriptorIndex := 116, attributes := #[] }] 16433 74 #[] #[{ accessFlags := 16409, nameIndex := 5, descriptorIndex := 6, attributes := #[] }, { accessFlags := 16409, nameIndex := 9, descriptorIndex := 6, attributes := #[] }, { accessFlags := 16409, nameIndex := 12, descriptorIndex := 6, attributes := #[] }, { accessFlags := 16409, nameIndex := 15, descriptorIndex := 6, attributes := #[] }, { accessFlags := 16409, nameIndex := 18, descriptorIndex := 6, attributes := #[] }, { accessFlags := 16409, nameIndex := 21, descriptorIndex := 6, attributes := #[] }, { accessFlags := 16409, nameIndex := 24, descriptorIndex := 6, attributes := #[] }, { accessFlags := 16409, nameIndex := 27, descriptorIndex := 6, attributes := #[] }, { accessFlags := 16409, nameIndex := 30, descriptorIndex := 6, attributes := #[] }, { accessFlags := 16409, nameIndex := 33, descriptorIndex := 6, attributes := #[] }, { accessFlags := 16409, nameIndex := 36, descriptorIndex := 6, attributes := #[] }, { accessFlags := 16409, nameIndex := 39, descriptorIndex := 6, attributes := #[] }, { accessFlags := 16409, nameIndex := 42, descriptorIndex := 6, attributes := #[] }, { accessFlags := 16409, nameIndex := 45, descriptorIndex := 6, attributes := #[] }, { accessFlags := 16409, nameIndex := 48, descriptorIndex := 6, attributes := #[] }, { accessFlags := 16409, nameIndex := 51, descriptorIndex := 6, attributes := #[] }, { accessFlags := 16409, nameIndex := 54, descriptorIndex := 6, attributes := #[] }, { accessFlags := 16409, nameIndex := 57, descriptorIndex := 6, attributes := #[] }, { accessFlags := 16409, nameIndex := 60, descriptorIndex := 6, attributes := #[] }, { accessFlags := 16409, nameIndex := 63, descriptorIndex := 6, attributes := #[] }, { accessFlags := 4122, nameIndex := 66, descriptorIndex := 67, attributes := #[] }])
  fields := #[{ name := "EQUAL", type := (.object "com/example/knit_theories/knittheories/model/Builtin"), accessFlags := 16409, slot := 0, constantValue := 0 }, { name := "UNEQUAL", type := (.object "com/example/knit_theories/knittheories/model/Builtin"), accessFlags := 16409, slot := 1, constantValue := 0 }, { name := "IF_THEN_ELSE", type := (.object "com/example/knit_theories/knittheories/model/Builtin"), accessFlags := 16409, slot := 2, constantValue := 0 }, { name := "SUCCESSOR", type := (.object "com/example/knit_theories/knittheories/model/Builtin"), accessFlags := 16409, slot := 3, constantValue := 0 }, { name := "NEGATION", type := (.object "com/example/knit_theories/knittheories/model/Builtin"), accessFlags := 16409, slot := 4, constantValue := 0 }, { name := "ADD", type := (.object "com/example/knit_theories/knittheories/model/Builtin"), accessFlags := 16409, slot := 5, constantValue := 0 }, { name := "SUBTRACT", type := (.object "com/example/knit_theories/knittheories/model/Builtin"), accessFlags := 16409, slot := 6, constantValue := 0 }, { name := "MULTIPLY", type := (.object "com/example/knit_theories/knittheories/model/Builtin"), accessFlags := 16409, slot := 7, constantValue := 0 }, { name := "DIVIDE", type := (.object "com/example/knit_theories/knittheories/model/Builtin"), accessFlags := 16409, slot := 8, constantValue := 0 }, { name := "QUOTIENT", type := (.object "com/example/knit_theories/knittheories/model/Builtin"), accessFlags := 16409, slot := 9, constantValue := 0 }, { name := "REMAINDER", type := (.object "com/example/knit_theories/knittheories/model/Builtin"), accessFlags := 16409, slot := 10, constantValue := 0 }, { name := "DISTANCE", type := (.object "com/example/knit_theories/knittheories/model/Builtin"), accessFlags := 16409, slot := 11, constantValue := 0 }, { name := "MAX", type := (.object "com/example/knit_theories/knittheories/model/Builtin"), accessFlags := 16409, slot := 12, constantValue := 0 }, { name := "MIN", type := (.object "com/example/knit_theories/knittheories/model/Builtin"), accessFlags := 16409, slot := 13, constantValue := 0 }, { name := "ABS", type := (.object "com/example/knit_theories/knittheories/model/Builtin"), accessFlags := 16409, slot := 14, constantValue := 0 }, { name := "LESS", type := (.object "com/example/knit_theories/knittheories/model/Builtin"), accessFlags := 16409, slot := 15, constantValue := 0 }, { name := "LESS_OR_EQUAL", type := (.object "com/example/knit_theories/knittheories/model/Builtin"), accessFlags := 16409, slot := 16, constantValue := 0 }, { name := "GREATER", type := (.object "com/example/knit_theories/knittheories/model/Builtin"), accessFlags := 16409, slot := 17, constantValue := 0 }, { name := "GREATER_OR_EQUAL", type := (.object "com/example/knit_theories/knittheories/model/Builtin"), accessFlags := 16409, slot := 18, constantValue := 0 }, { name := "MODEL_CHECK", type := (.object "com/example/knit_theories/knittheories/model/Builtin"), accessFlags := 16409, slot := 19, constantValue := 0 }, { name := "$VALUES", type := (.array (.object "com/example/knit_theories/knittheories/model/Builtin")), accessFlags := 4122, slot := 20, constantValue := 0 }]
  methods := #[k6m0]
  instanceTypes := #[(.object "java/lang/String"), .int, .int]
  staticTypes := #[(.object "com/example/knit_theories/knittheories/model/Builtin"), (.object "com/example/knit_theories/knittheories/model/Builtin"), (.object "com/example/knit_theories/knittheories/model/Builtin"), (.object "com/example/knit_theories/knittheories/model/Builtin"), (.object "com/example/knit_theories/knittheories/model/Builtin"), (.object "com/example/knit_theories/knittheories/model/Builtin"), (.object "com/example/knit_theories/knittheories/model/Builtin"), (.object "com/example/knit_theories/knittheories/model/Builtin"), (.object "com/example/knit_theories/knittheories/model/Builtin"), (.object "com/example/knit_theories/knittheories/model/Builtin"), (.object "com/example/knit_theories/knittheories/model/Builtin"), (.object "com/example/knit_theories/knittheories/model/Builtin"), (.object "com/example/knit_theories/knittheories/model/Builtin"), (.object "com/example/knit_theories/knittheories/model/Builtin"), (.object "com/example/knit_theories/knittheories/model/Builtin"), (.object "com/example/knit_theories/knittheories/model/Builtin"), (.object "com/example/knit_theories/knittheories/model/Builtin"), (.object "com/example/knit_theories/knittheories/model/Builtin"), (.object "com/example/knit_theories/knittheories/model/Builtin"), (.object "com/example/knit_theories/knittheories/model/Builtin"), (.array (.object "com/example/knit_theories/knittheories/model/Builtin"))]
  resolved := Array.replicate 122 none
  statics := some 0 }

def pool7 : Array CpInfo := pool [(1, u "java/lang/Cloneable"), (0, .class_ 1), (0, u "java/lang/Object"), (0, .class_ 3)] 3

/-- java/lang/Cloneable -/
def k7 : Class := { plain "java/lang/Cloneable" (some 0) with
  accessFlags := 1537
  interfaces := #[]
  cf := some (fileOf pool7 2 #[] #[] 1537 4 #[] #[])
  fields := #[]
  methods := #[]
  instanceTypes := #[]
  staticTypes := #[]
  resolved := Array.replicate 8 none
  statics := none }

/-- the primitive boolean -/
def k8 : Class := { plain "boolean" none with kind := .primitive 'Z', accessFlags := 0x411 }
/-- [Z -/
def k9 : Class := { plain "[Z" (some 0) with kind := .array 8 .boolean, interfaces := #[7, 4], accessFlags := 1041 }

/-- the primitive byte -/
def k10 : Class := { plain "byte" none with kind := .primitive 'B', accessFlags := 0x411 }
/-- [B -/
def k11 : Class := { plain "[B" (some 0) with kind := .array 10 .byte, interfaces := #[7, 4], accessFlags := 1041 }

/-- the primitive int -/
def k12 : Class := { plain "int" none with kind := .primitive 'I', accessFlags := 0x411 }
/-- [I -/
def k13 : Class := { plain "[I" (some 0) with kind := .array 12 .int, interfaces := #[7, 4], accessFlags := 1041 }

/-- [Lcom/example/knit_theories/knittheories/model/Builtin; -/
def k14 : Class := { plain "[Lcom/example/knit_theories/knittheories/model/Builtin;" (some 0) with kind := .array 6 (.object "com/example/knit_theories/knittheories/model/Builtin"), interfaces := #[7, 4], accessFlags := 1041 }

def heap : Heap := #[{ cls := 6, slots := #[.ref 1, .ref 2, .ref 3, .ref 4, .ref 5, .ref 6, .ref 7, .ref 8, .ref 9, .ref 10, .ref 11, .ref 12, .ref 13, .ref 14, .ref 15, .ref 16, .ref 17, .ref 18, .ref 19, .ref 20, .null], vm := .statics 6 },
  { cls := 6, slots := #[.null, .int 0, .int 0], vm := .none },
  { cls := 6, slots := #[.null, .int 1, .int 0], vm := .none },
  { cls := 6, slots := #[.null, .int 2, .int 0], vm := .none },
  { cls := 6, slots := #[.null, .int 3, .int 0], vm := .none },
  { cls := 6, slots := #[.null, .int 4, .int 0], vm := .none },
  { cls := 6, slots := #[.null, .int 5, .int 0], vm := .none },
  { cls := 6, slots := #[.null, .int 6, .int 0], vm := .none },
  { cls := 6, slots := #[.null, .int 7, .int 0], vm := .none },
  { cls := 6, slots := #[.null, .int 8, .int 0], vm := .none },
  { cls := 6, slots := #[.null, .int 9, .int 0], vm := .none },
  { cls := 6, slots := #[.null, .int 10, .int 0], vm := .none },
  { cls := 6, slots := #[.null, .int 11, .int 0], vm := .none },
  { cls := 6, slots := #[.null, .int 12, .int 0], vm := .none },
  { cls := 6, slots := #[.null, .int 13, .int 0], vm := .none },
  { cls := 6, slots := #[.null, .int 14, .int 0], vm := .none },
  { cls := 6, slots := #[.null, .int 15, .int 0], vm := .none },
  { cls := 6, slots := #[.null, .int 16, .int 0], vm := .none },
  { cls := 6, slots := #[.null, .int 17, .int 0], vm := .none },
  { cls := 6, slots := #[.null, .int 18, .int 0], vm := .none },
  { cls := 6, slots := #[.null, .int 19, .int 0], vm := .none }]
def classes : Array Class := #[k0, k1, k2, k3, k4, k5, k6, k7, k8, k9, k10, k11, k12, k13, k14]
def interned : List (Array UInt16 × Addr) := []
def slotsUsed : Nat := 81
def theMethod : MethodId := ⟨1, 1⟩
def args0 : Array Value := #[.int 5]
def aboutOver (below : List Frame) : State where
  vm := { classes := classes, interned := interned.toArray }
  heap := heap
  slotsUsed := slotsUsed
  threads := #[{ frames := .invoking theMethod args0 :: below }]
def below0 : List Frame := [.native { method := ⟨0, 0⟩, args := #[] }]
def about1 : State := aboutOver below0
def p0 : Program := .bare "" "" ""
def e0 : Env := launch0.env 0 0 0
theorem w_frames : about1.frames = Frame.invoking theMethod args0 :: below0 := rfl
set_option maxRecDepth 65536 in
theorem w_args : argsFit about1.vm theMethod args0 = true := by decide +kernel
set_option maxRecDepth 65536 in
theorem w_heap : heapFits about1 = true := by decide +kernel
set_option maxRecDepth 65536 in
theorem w_runnable : about1.curStatus? = some .runnable := by decide +kernel
set_option maxRecDepth 65536 in
theorem w_alone : about1.alone = true := by decide +kernel
set_option maxRecDepth 65536 in
theorem w_named : about1.methodNamed? x = some theMethod := by decide +kernel
set_option maxRecDepth 65536 in
theorem w_hears : about1.hears theMethod below0 = true := by decide +kernel
set_option maxRecDepth 65536 in
theorem w_ripe : about1.ripe theMethod args0 below0 = true := by decide +kernel
theorem w_running : about1.status = .running := rfl
set_option maxRecDepth 65536 in
theorem w_room : about1.hasRoom e0.platform room_1 = true :=
  launch0.hasRoom_least _ room_1 (by decide +kernel) (by decide +kernel) (by decide +kernel) (by decide +kernel) (by decide +kernel) (by decide +kernel)
theorem allAtoms_all (ts : List Jvm.Cond) (a : Array Jvm.Value) (st : Jvm.State) : (allAtoms ts).before a st = ts.all (fun c => c.before a st) := by
  induction ts with
  | nil => rfl
  | cons c t ih =>
    show (Jvm.Cond.and c (allAtoms t)).before a st = _
    rw [Jvm.Cond.before_and, ih, List.all_cons]
def words1 : List Jvm.Cond := Jvm.Cond.code x code maxLocals ret :: tables_1
/-- a 'code' word, met by the world's own term for the bytes: nothing is compared byte by byte -/
theorem code_word {y : MethodName} {bytes : ByteArray} {mx : Nat} {rt : Option FieldType} {a : Array Value} {s : State} {m : MethodId} {meth : Method} {c : Code} (h1 : s.methodNamed? y = some m) (h2 : s.vm.method? m = some meth) (h3 : meth.code = some c) (h4 : c.code = bytes)
    (h5 : (c.maxLocals == mx && c.exceptionTable.isEmpty && decide (c.maxStack ≤ mostOperands) && decide (meth.sig.returnType = rt) && !meth.locks && decide (parseMethodDescriptor y.desc = some meth.sig)) = true) : (Jvm.Cond.code y bytes mx rt).before a s = true := by
  simp only [Bool.and_eq_true, beq_iff_eq, Bool.not_eq_true', decide_eq_true_eq] at h5
  obtain ⟨⟨⟨⟨⟨g1, g2⟩, g3⟩, g4⟩, g5⟩, g6⟩ := h5
  simp [Cond.before, Cond.holds, Cond.value, h1, h2, h3, h4, g1, g2, g3, g4, g5, g6]
def isCode : Jvm.Cond → Bool
  | .code _ _ _ _ => true
  | _ => false
theorem all_split {L : List Jvm.Cond} {P : Jvm.Cond → Bool} (h1 : L.all (fun c => isCode c || P c) = true) (h2 : ∀ c ∈ L.filter isCode, P c = true) : L.all P = true := by
  refine List.all_eq_true.mpr fun c hc => ?_
  have h := List.all_eq_true.mp h1 c hc
  rcases Bool.eq_false_or_eq_true (isCode c) with hi | hi
  · exact h2 c (List.mem_filter.mpr ⟨hc, hi⟩)
  · simpa [hi] using h
set_option maxRecDepth 65536 in
theorem w_c0 : (Jvm.Cond.code x code maxLocals ret).before args0 about1 = true := code_word (m := ⟨1, 1⟩) (meth := k1m1) (c := k1c1) (by decide +kernel) rfl rfl rfl (by decide +kernel)
set_option maxRecDepth 65536 in
theorem w_c1 : (Jvm.Cond.code ({ cls := "com/example/knit_theories/knittheories/model/Builtin", name := "makesNumerals", desc := "()Z" } : Jvm.MethodName) prog_57_method_4_code (1 : Nat) (Option.some Jvm.ClassFile.FieldType.boolean)).before args0 about1 = true := code_word (m := ⟨6, 0⟩) (meth := k6m0) (c := k6c0) (by decide +kernel) rfl rfl rfl (by decide +kernel)
def codes1 : List Jvm.Cond := [Jvm.Cond.code x code maxLocals ret, Jvm.Cond.code ({ cls := "com/example/knit_theories/knittheories/model/Builtin", name := "makesNumerals", desc := "()Z" } : Jvm.MethodName) prog_57_method_4_code (1 : Nat) (Option.some Jvm.ClassFile.FieldType.boolean)]
set_option maxRecDepth 65536 in
theorem codes_eq : words1.filter isCode = codes1 := rfl
theorem w_codes : ∀ c ∈ words1.filter isCode, c.before args0 about1 = true := by
  rw [codes_eq]
  intro c hc
  simp only [codes1, List.mem_cons, List.not_mem_nil, or_false] at hc
  rcases hc with rfl | rfl
  · exact w_c0
  · exact w_c1
set_option maxRecDepth 65536 in
theorem w_t1 : (words1.take 24).all (fun c => isCode c || c.before args0 about1) = true := by decide +kernel
set_option maxRecDepth 65536 in
theorem w_t2 : ((words1.drop 24).take 24).all (fun c => isCode c || c.before args0 about1) = true := by decide +kernel
set_option maxRecDepth 65536 in
theorem w_t3 : ((words1.drop 24).drop 24).all (fun c => isCode c || c.before args0 about1) = true := by decide +kernel
theorem w_tables : (allAtoms (Jvm.Cond.code x code maxLocals ret :: tables_1)).before args0 about1 = true := by
  rw [allAtoms_all]
  show words1.all (fun c => c.before args0 about1) = true
  refine all_split ?_ w_codes
  rw [← List.take_append_drop 24 words1, List.all_append, w_t1, ← List.take_append_drop 24 (words1.drop 24), List.all_append, w_t2, w_t3]
  rfl
set_option maxRecDepth 65536 in
theorem w_case : (Jvm.Cond.and given_1 narrow_1).before args0 about1 = true := by decide +kernel
theorem w_applies : (headSpec (Jvm.Cond.code x code maxLocals ret :: tables_1) room_1).applies x e0.platform about1 = true :=
  (Spec.applies_iff w_frames).mpr ⟨w_running, w_runnable, w_alone, w_named, w_hears, w_ripe, w_room, w_tables⟩
theorem atStart : AtStart classFile x code maxLocals ret World_1 tables_1 room_1 Calls_1 rest_1 Pre_1 launch0 p0 e0 about1 theMethod args0 below0 :=
  ⟨lists_1, trivial, launch0.admits_env _ _ _, launch0.least_env, fairChoices_fair.cas, fairChoices_fair.clock, w_frames, w_args, w_heap, w_applies, trivial, trivial, w_case⟩
end start1
theorem witness_1 : WitnessClaimed_1 := ⟨start1.p0, start1.e0, start1.about1, start1.theMethod, start1.args0, start1.below0, start1.atStart⟩
end Jvm.Pilot.@@N@@
