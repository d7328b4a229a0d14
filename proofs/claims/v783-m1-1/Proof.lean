import JvmDerived
import JvmDerived.Pilot.@@N@@Statement
import JvmDerived.Pilot.@@N@@Code
set_option linter.unusedVariables false
set_option linter.unusedSimpArgs false
namespace Jvm.Pilot.@@N@@
open Jvm Jvm.ClassFile Sem Op Lib Jvm.Free Jvm.Stand Jvm.LawKit Jvm.RoadKit Bundle Jvm.Pilot.@@N@@.Jvm.D
section OwnKit
variable {p : Program} {l : Launch} {e : Env} {R : Room} {s : State} {m : MethodId} {args : Array Value} {below : List Frame} {meth : Method} {c : Code} {T : State} {locs : List Loc} {cells slots : Nat} {Z : State} {a0 : Array Value} {h : Heap}
/-- from A the walk comes to an end of which F holds -/
def Rch (p : Program) (e : Env) (below : List Frame) (F : Outcome → State → Prop) (A : State) : Prop := ∃ s₂ o, Steps p.tables e below A s₂ ∧ s₂.status = .running ∧ Ended s₂ below o ∧ F o s₂
theorem Rch.go {F : Outcome → State → Prop} {A B : State} (h : ∀ t, Steps p.tables e below B t → Steps p.tables e below A t) (r : Rch p e below F B) : Rch p e below F A := by
  obtain ⟨t, o, h1, h2⟩ := r
  exact ⟨t, o, h t h1, h2⟩
/-- what a body leaves -/
def Leaves (s : State) (C S : Nat) (Q : Option Value → Heap → List Loc → Prop) (o : Outcome) (U : State) : Prop := ∃ v L, o = .returned v ∧ Q v U.heap L ∧ FrameEnd s o U L C S
/-- a body's contract, at one heap and one row of arguments -/
def Ctr (l : Launch) (Z : State) (ws : List Jvm.Cond) (y : MethodName) (bytes : ByteArray) (maxL : Nat) (ret : Option FieldType) (as' : Array Value) (h0 : Heap) (rm : Room) (Q : Option Value → Heap → List Loc → Prop) : Prop :=
  MetFree l y (head1 (Jvm.Cond.code y bytes maxL ret :: ws) rm) (fun a U => a = as' ∧ Z.Warmed39 U.vm ∧ U.heap = h0) (fun _ _ _ _ _ => True) (fun _ U o U' => ∃ v L, o = .returned v ∧ Q v U'.heap L ∧ FrameEnd U o U' L rm.cells rm.slots)
theorem Ctr.of {ws : List Jvm.Cond} {y : MethodName} {bytes : ByteArray} {maxL : Nat} {ret : Option FieldType} {as' : Array Value} {h0 : Heap} {rm : Room} {Q : Option Value → Heap → List Loc → Prop} {Ls : Array Slot} (hpn : plainFor y = true) (ef : ∀ m, entryFrame m as' maxL = mkF m 0 Ls [])
    (H : ∀ (p : Program) (e : Env) (s : State) (m : MethodId) (below : List Frame) (meth : Method) (c : Code) (T : State), p.tables.exec = Jvm.exec → Z.Warmed39 s.vm → c.code = bytes → c.maxLocals = maxL → s.vm.findClass y.cls = some m.cls → meth.name = y.name → meth.sig.returnType = ret → meth.locks = false →
      Stand p l e rm s m as' below meth c T [] 0 0 → T.heap = h0 → Rch p e below (Leaves s rm.cells rm.slots Q) (T.setTop (mkF m 0 Ls []))) : Ctr l Z ws y bytes maxL ret as' h0 rm Q := by
  refine MetFree.of_bodySF hpn hisR ?_
  intro p e s m args below meth c s₁ Bd hml0 hP hK
  obtain ⟨rfl, hZ, hh⟩ := hP
  have e0 : s₁.heap = h0 := by rw [← hh, Bd.state]; rfl
  obtain ⟨t, o, r1, r2, r3, r4⟩ := H p e s m below meth c s₁ Bd.exec hZ Bd.bytes hml0 (findClass_of_methodNamed Bd.named) (name_of_methodNamed Bd.named Bd.method).1 Bd.returns Bd.notSynchronized (Stand.of_body Bd) e0
  exact ⟨t, o, castTop (ef m) r1, r2, r3, r4⟩
theorem Rch.val (X : Stand p l e R s m args below meth c T locs cells slots) (hx : p.tables.exec = Jvm.exec) {pc : Nat} {Ls : Array Slot} {w : Value} {t : FieldType} {i : Instr} {rest : List Value} {Q : Option Value → Heap → List Loc → Prop} {C S : Nat} (hret : meth.sig.returnType = some t) (hlk : meth.locks = false) (hn : narrow t w = w)
    (hi : (i = .ireturn ∧ (t = .int ∨ t = .boolean ∨ t = .byte ∨ t = .char ∨ t = .short) ∧ ∃ z, w = .int z) ∨ (i = .lreturn ∧ t = .long ∧ ∃ z, w = .long z) ∨ (i = .dreturn ∧ t = .double ∧ ∃ z, w = .double z) ∨ (i = .freturn ∧ t = .float ∧ ∃ z, w = .float z) ∨ (i = .areturn ∧ t.isReference = true ∧ w.isRef = true))
    (hd : decode c.code pc = .ok (i, 1)) (hc : cells ≤ C) (hs : slots ≤ S) (hq : Q (some w) T.heap locs) : Rch p e below (Leaves s C S Q) (T.setTop (mkF m pc Ls (w :: rest))) := by
  obtain ⟨fs, hr, hrun, hended, hW, hsame⟩ := X.leave (v := some w) (fun h => by rw [hret] at h; cases h) hlk
  exact ⟨_, _, retOut X hx hret hn hi hd hr, hrun, hended, _, _, rfl, hq, ⟨_, rfl⟩, hW, hsame.mono hc hs⟩
theorem Rch.void (X : Stand p l e R s m args below meth c T locs cells slots) (hx : p.tables.exec = Jvm.exec) {pc : Nat} {Ls : Array Slot} {Q : Option Value → Heap → List Loc → Prop} {C S : Nat} (hret : meth.sig.returnType = none) (hlk : meth.locks = false)
    (hd : decode c.code pc = .ok (.return_, 1)) (hc : cells ≤ C) (hs : slots ≤ S) (hq : Q none T.heap locs) : Rch p e below (Leaves s C S Q) (T.setTop (mkF m pc Ls [])) := by
  obtain ⟨fs, hr, hrun, hended, hW, hsame⟩ := X.leave (v := none) (fun _ => rfl) hlk
  exact ⟨_, _, X.returnOut hx hret hd hr, hrun, hended, _, _, rfl, hq, ⟨_, rfl⟩, hW, hsame.mono hc hs⟩
theorem mayI {t : FieldType} {z : Int32} (ht : t = .int ∨ t = .boolean ∨ t = .byte ∨ t = .char ∨ t = .short) : ((Instr.ireturn : Instr) = .ireturn ∧ (t = .int ∨ t = .boolean ∨ t = .byte ∨ t = .char ∨ t = .short) ∧ ∃ y, (Value.int z) = .int y) ∨ ((Instr.ireturn : Instr) = .lreturn ∧ t = .long ∧ ∃ y, (Value.int z) = .long y) ∨ ((Instr.ireturn : Instr) = .dreturn ∧ t = .double ∧ ∃ y, (Value.int z) = .double y) ∨ ((Instr.ireturn : Instr) = .freturn ∧ t = .float ∧ ∃ y, (Value.int z) = .float y) ∨ ((Instr.ireturn : Instr) = .areturn ∧ t.isReference = true ∧ (Value.int z).isRef = true) := Or.inl ⟨rfl, ht, z, rfl⟩
end OwnKit
section OwnNum
theorem own_pos (x : Int32) : ¬ (x &&& 2147483647) < 0 := fun h => absurd ((XT.and_neg32 x 2147483647).mp h).2 (by decide)
theorem own_rem {y n : Int32} (h : ¬ y < 0) (hn : 0 < n.toInt) : 0 ≤ (y % n).toInt ∧ (y % n).toInt < n.toInt := by
  rw [Int32.toInt_mod]
  have h' : 0 ≤ y.toInt := Int.not_lt.mp fun q => h ((XT.negI32 y).mpr q)
  exact ⟨Int.tmod_nonneg _ h', Int.tmod_lt_of_pos _ hn⟩
end OwnNum
section OwnCase
variable {Z : State} {args : Array Value}
theorem own_fldI {t : Term} {a : Addr} {C n d : String} {k : Int32} (ev : t.eval args Z none [] Z = some (.ref a)) (h : (Cond.eq (.field t C n d) (.int k)).value args Z none Z [] = some true) : Fld Z Z.heap a C n d (.int k) := by
  refine Fld.start ?_
  rw [← fld_at (args := args) (first := Z) (o := none) (idx := []) (C := C) (n := n) (dd := d) ev]
  obtain ⟨x, y, h1, h2, h3, h4⟩ := cmp_v (Or.inl h)
  have h2' : y = .int k := (Option.some.inj ((Term.int_eval k).symm.trans h2)).symm
  subst h2'
  obtain ⟨z, rfl⟩ := h4
  have h5 : z = k := by simpa [Cond.value, h1, Term.int_eval] using h
  rw [h1, h5]
theorem own_fldR {t u : Term} {a b : Addr} {C n d : String} (ev : t.eval args Z none [] Z = some (.ref a)) (eu : u.eval args Z none [] Z = some (.ref b)) (h : (Cond.eq (.field t C n d) u).value args Z none Z [] = some true) : Fld Z Z.heap a C n d (.ref b) := by
  refine Fld.start ?_
  rw [← fld_at (args := args) (first := Z) (o := none) (idx := []) (C := C) (n := n) (dd := d) ev]
  obtain ⟨x, y, h1, h2, h3, h4⟩ := cmp_v (Or.inl h)
  obtain rfl : y = .ref b := Option.some.inj (h2.symm.trans eu)
  rw [h1]
  rcases ref_cases h4.2 with rfl | ⟨z, rfl⟩
  · simp [Cond.value, h1, eu] at h
  · have h5 : z = b := by simpa [Cond.value, h1, eu] using h
    rw [h5]
end OwnCase
section OwnSets
variable {Z : State} {args : Array Value}
theorem own_len {t : Term} {a : Addr} {ty : FieldType} {k : Int32} (ev : t.eval args Z none [] Z = some (.ref a)) (h1 : (Cond.arrayOf t ty).value args Z none Z [] = some true) (h2 : (Cond.eq (.length t) (.int k)).value args Z none Z [] = some true) : ∃ c, Arr Z Z.heap a c ty ∧ c.slots.size < 2 ^ 31 ∧ c.slots.size.toInt32 = k := by
  obtain ⟨c, A⟩ := Arr.start ev h1
  obtain ⟨x, y, e1, e2, e3, e4⟩ := cmp_v (Or.inl h2)
  have e2' : y = .int k := (Option.some.inj ((Term.int_eval k).symm.trans e2)).symm
  subst e2'
  obtain ⟨z, rfl⟩ := e4
  have h5 : z = k := by simpa [Cond.value, e1, Term.int_eval] using h2
  have hA : Z.arrayAt? a = some c := A.fin (Vm.Alike.refl _)
  simp only [Term.eval, ev, hA, Option.bind_eq_bind, Option.bind_some] at e1
  split at e1
  · rename_i hl
    refine ⟨c, A, hl, ?_⟩
    have := Option.some.inj e1
    rw [← h5]; exact Value.int.inj this
  · cases e1
theorem own_elem {t : Term} {a : Addr} {c : Cell} {ty : FieldType} {k : Int32} {v : Value} (A : Arr Z Z.heap a c ty) (ev : t.eval args Z none [] Z = some (.ref a)) (h : (Term.elem t (.int k)).eval args Z none [] Z = some v) : c.slots[k.toNatClampNeg]? = some v := (elem_in h ev (Term.int_eval k) A.1).2
theorem own_eqI {t : Term} {k : Int32} (h : (Cond.eq t (.int k)).value args Z none Z [] = some true) : t.eval args Z none [] Z = some (.int k) := by
  obtain ⟨x, y, e1, e2, e3, e4⟩ := cmp_v (Or.inl h)
  have e2' : y = .int k := (Option.some.inj ((Term.int_eval k).symm.trans e2)).symm
  subst e2'
  obtain ⟨z, rfl⟩ := e4
  have h5 : z = k := by simpa [Cond.value, e1, Term.int_eval] using h
  rw [e1, h5]
theorem own_eqR {t u : Term} {b : Addr} (eu : u.eval args Z none [] Z = some (.ref b)) (h : (Cond.eq t u).value args Z none Z [] = some true) : t.eval args Z none [] Z = some (.ref b) := by
  obtain ⟨x, y, h1, h2, h3, h4⟩ := cmp_v (Or.inl h)
  obtain rfl : y = .ref b := Option.some.inj (h2.symm.trans eu)
  rw [h1]
  rcases ref_cases h4.2 with rfl | ⟨z, rfl⟩
  · simp [Cond.value, h1, eu] at h
  · have h5 : z = b := by simpa [Cond.value, h1, eu] using h
    rw [h5]
theorem own_neI {t : Term} {x k : Int32} (ev : t.eval args Z none [] Z = some (.int x)) (h : (Cond.not (Cond.eq t (.int k))).value args Z none Z [] = some true) : ¬ x = k := fun q => by
  have h' := not_v h
  simp [Cond.value, ev, Term.int_eval, q] at h'
theorem own_fldV {t : Term} {a : Addr} {C n d : String} {v : Value} (ev : t.eval args Z none [] Z = some (.ref a)) (h : (Term.field t C n d).eval args Z none [] Z = some v) : Fld Z Z.heap a C n d v := Fld.start ((fld_at ev).symm.trans h)
theorem own_nref {v : Value} {t : FieldType} (h : v.isRef = true) : narrow t v = v := by cases v <;> first | rfl | (cases h; done) | (cases t <;> rfl)
end OwnSets
section OwnChar
theorem own_lcmp (x : Int64) : lcmpW x x = 0 := by simp [lcmpW]
theorem own_and255 (x : Int32) : ¬ (255 : Int32) < x &&& 255 ∧ ¬ x &&& 255 < 0 := by
  have h : (x &&& 255).toBitVec ≤ 255#32 := by
    show x.toBitVec &&& 255#32 ≤ 255#32
    rw [BitVec.le_def, BitVec.toNat_and]
    exact Nat.and_le_right
  have h2 : (x &&& 255).toInt = ((x &&& 255).toBitVec.toNat : Int) := by
    show (x &&& 255).toBitVec.toInt = _
    rw [BitVec.toInt_eq_toNat_of_lt]
    rw [BitVec.le_def] at h
    have : (255#32).toNat = 255 := rfl
    omega
  rw [BitVec.le_def] at h
  have h3 : (255#32).toNat = 255 := rfl
  rw [Int32.lt_iff_toInt_lt, Int32.lt_iff_toInt_lt, h2]
  have h4 : (255 : Int32).toInt = 255 := rfl
  have h5 : (0 : Int32).toInt = 0 := rfl
  rw [h4, h5]
  omega
/-- a char of eight bits -/
theorem own_chr (x : Int32) : ∃ c, (x &&& 255).toUInt32.toUInt16.toUInt32.toInt32 = c ∧ nar .char c = c ∧ ¬ (255 : Int32) < c ∧ ¬ c < 0 :=
  ⟨x &&& 255, i2c_mask x, i2c_mask x, (own_and255 x).1, (own_and255 x).2⟩
end OwnChar
section OwnCalls
variable {p : Program} {l : Launch} {e : Env} {R : Room} {s : State} {m : MethodId} {args : Array Value} {below : List Frame} {meth : Method} {c : Code} {T : State} {locs : List Loc} {cells slots : Nat} {Z : State} {a0 : Array Value} {h : Heap}
theorem callSt (X : Stand p l e R s m args below meth c T locs cells slots) (hx : p.tables.exec = Jvm.exec) (hZ : Z.Warmed39 s.vm) {own : String} {index : Nat} {y : MethodName} {bytes : ByteArray} {maxL : Nat} {ret : Option FieldType} {rm : Room} {as' : Array Value} {Q : Option Value → Heap → List Loc → Prop} (M : Ctr l Z [] y bytes maxL ret as' h rm Q) (eT : T.heap = h)
    (hown : s.vm.findClass own = some m.cls) (w1 : (Cond.methodLink own index y).before a0 Z = true) (w2 : (Cond.static y).before a0 Z = true) (w5 : (Cond.code y bytes maxL ret).before a0 Z = true) (w6 : (Cond.initialized y.cls).before a0 Z = true)
    (hy : y.cls ≠ "java/lang/invoke/MethodHandle" ∧ y.cls ≠ "java/lang/invoke/VarHandle") {pc : Nat} {Ls : Array Slot} {st : List Value} (hd : decode c.code pc = .ok (.invokestatic index, 3)) (W : Nat) (hf : rm.frames + 1 ≤ R.frames) (hl : W + (maxL + 11) + rm.locals ≤ R.locals) (hc : cells + rm.cells ≤ R.cells) (hs : slots + rm.slots ≤ R.slots)
    (hsz : Ls.size = c.maxLocals) (argsL rest : List Value) (has : argsL.toArray = as') (hlen : ∀ sig, parseMethodDescriptor y.desc = some sig → argsL.length = sig.parameters.length) (hst : st = argsL.reverse ++ rest) (hW : (rest.map fun v => v.category).sum ≤ W) :
    ∃ v T' L, Stand p l e R s m args below meth c T' (locs ++ L) (cells + rm.cells) (slots + rm.slots) ∧ Q v T'.heap L ∧ ∀ t, Steps p.tables e below (T'.setTop (mkF m (pc + 3) Ls (v.toList ++ rest))) t → Steps p.tables e below (T.setTop (mkF m pc Ls st)) t := by
  subst has
  obtain ⟨v, _, ⟨T', L', k', n'⟩, -, X', ⟨L, hQ, q1, q2, q3⟩, stp⟩ := Jvm.LawKit.callS X hx (y := y) hown (mvT hZ w1) (mvT hZ w2) (mvT hZ w6) (mvT hZ w5) hy (backOf (W := W) M hZ w5 w6 hf hl) (g := mkF m pc Ls st) rfl hsz (argsL := argsL) (rest := rest) hlen hst (by show 2 * 0 + _ ≤ _; rw [Nat.mul_zero, Nat.zero_add]; exact hW) hd (fun _ _ => ⟨rfl, eT, hc, hs⟩)
  dsimp only [Pt.U, Pt.locs, Pt.cells, Pt.slots] at X' q1 q2 q3 stp hQ
  subst q1 q2 q3
  exact ⟨v, T', L, X', hQ, stp⟩
theorem callVi (X : Stand p l e R s m args below meth c T locs cells slots) (hx : p.tables.exec = Jvm.exec) (hZ : Z.Warmed39 s.vm) {own C : String} {index : Nat} {y z : MethodName} {bytes : ByteArray} {maxL : Nat} {ret : Option FieldType} {rm : Room} {as' : Array Value} {Q : Option Value → Heap → List Loc → Prop} (M : Ctr l Z [] z bytes maxL ret as' h rm Q) (eT : T.heap = h)
    (hown : s.vm.findClass own = some m.cls) (w1 : (Cond.methodLink own index y).before a0 Z = true) (w2 : (Cond.declares y).before a0 Z = true) (w3 : (Cond.selects C y z).before a0 Z = true) (hnf : NotFace s y) (w4 : (Cond.instanceMethod z).before a0 Z = true) (w5 : (Cond.code z bytes maxL ret).before a0 Z = true) (w6 : (Cond.initialized z.cls).before a0 Z = true)
    (hy : y.cls ≠ "java/lang/invoke/MethodHandle" ∧ y.cls ≠ "java/lang/invoke/VarHandle") {pc : Nat} {Ls : Array Slot} {st : List Value} (hd : decode c.code pc = .ok (.invokevirtual index, 3)) (W : Nat) (hf : rm.frames + 1 ≤ R.frames) (hl : W + (maxL + 11) + rm.locals ≤ R.locals) (hc : cells + rm.cells ≤ R.cells) (hs : slots + rm.slots ≤ R.slots)
    (hsz : Ls.size = c.maxLocals) (a : Addr) (E : Exa Z h a C) (argsL rest : List Value) (has : (.ref a :: argsL).toArray = as') (hlen : ∀ sig, parseMethodDescriptor y.desc = some sig → argsL.length = sig.parameters.length) (hst : st = argsL.reverse ++ .ref a :: rest) (hW : (rest.map fun v => v.category).sum ≤ W) :
    ∃ v T' L, Stand p l e R s m args below meth c T' (locs ++ L) (cells + rm.cells) (slots + rm.slots) ∧ Q v T'.heap L ∧ ∀ t, Steps p.tables e below (T'.setTop (mkF m (pc + 3) Ls (v.toList ++ rest))) t → Steps p.tables e below (T.setTop (mkF m pc Ls st)) t := by
  subst has
  obtain ⟨cq, kq, qa, qb, qc⟩ := isOf hZ eT E
  obtain ⟨v, _, ⟨T', L', k', n'⟩, -, X', ⟨L, hQ, q1, q2, q3⟩, stp⟩ := X.virtualBack hx (y := y) (z := z) hown (mvT hZ w1) (mvT hZ w2) hnf (mvT hZ w3) (mvT hZ w4) hy (backOf (W := W) M hZ w5 w6 hf hl) qa qc (g := mkF m pc Ls st) rfl hsz (Steps.refl _) (argsL := argsL) (rest := rest) hlen hst (by show 2 * 0 + _ ≤ _; rw [Nat.mul_zero, Nat.zero_add]; exact hW) hd (fun _ _ => ⟨rfl, eT, hc, hs⟩)
  dsimp only [Pt.U, Pt.locs, Pt.cells, Pt.slots] at X' q1 q2 q3 stp hQ
  subst q1 q2 q3
  exact ⟨v, T', L, X', hQ, fun t k => stp.trans k⟩
end OwnCalls
def Olds (Z : State) (ro0 : Addr) (ro1 : Addr) (ro2 : Addr) (ro3 : Addr) (ro4 : Addr) (ro5 : Addr) (ro6 : Addr) (ro7 : Addr) (ro8 : Addr) (ro9 : Addr) : Prop := Sta Z Z.heap "com/example/pathlatch/pathlatch/lock/LockMode" "READ_SUBTREE" "Lcom/example/pathlatch/pathlatch/lock/LockMode;" (.ref ro0) ∧ Exa Z Z.heap ro0 "com/example/pathlatch/pathlatch/lock/LockMode" ∧ Sta Z Z.heap "com/example/pathlatch/pathlatch/lock/LockMode" "INTENTION_SHARED" "Lcom/example/pathlatch/pathlatch/lock/LockMode;" (.ref ro1) ∧ Exa Z Z.heap ro1 "com/example/pathlatch/pathlatch/lock/LockMode" ∧ Sta Z Z.heap "com/example/pathlatch/pathlatch/lock/LockMode" "INSERT_INTO" "Lcom/example/pathlatch/pathlatch/lock/LockMode;" (.ref ro2) ∧ Exa Z Z.heap ro2 "com/example/pathlatch/pathlatch/lock/LockMode" ∧ Sta Z Z.heap "com/example/pathlatch/pathlatch/lock/LockMode" "INTENTION_EXCLUSIVE" "Lcom/example/pathlatch/pathlatch/lock/LockMode;" (.ref ro3) ∧ Exa Z Z.heap ro3 "com/example/pathlatch/pathlatch/lock/LockMode" ∧ Sta Z Z.heap "com/example/pathlatch/pathlatch/lock/LockMode" "SHARED" "Lcom/example/pathlatch/pathlatch/lock/LockMode;" (.ref ro4) ∧ Exa Z Z.heap ro4 "com/example/pathlatch/pathlatch/lock/LockMode" ∧ Sta Z Z.heap "com/example/pathlatch/pathlatch/lock/LockMode" "INSERT_AFTER" "Lcom/example/pathlatch/pathlatch/lock/LockMode;" (.ref ro5) ∧ Exa Z Z.heap ro5 "com/example/pathlatch/pathlatch/lock/LockMode" ∧ Sta Z Z.heap "com/example/pathlatch/pathlatch/lock/LockMode" "DELETE" "Lcom/example/pathlatch/pathlatch/lock/LockMode;" (.ref ro6) ∧ Exa Z Z.heap ro6 "com/example/pathlatch/pathlatch/lock/LockMode" ∧ Sta Z Z.heap "com/example/pathlatch/pathlatch/lock/LockMode" "RENAME" "Lcom/example/pathlatch/pathlatch/lock/LockMode;" (.ref ro7) ∧ Exa Z Z.heap ro7 "com/example/pathlatch/pathlatch/lock/LockMode" ∧ Sta Z Z.heap "com/example/pathlatch/pathlatch/lock/LockMode" "INSERT_BEFORE" "Lcom/example/pathlatch/pathlatch/lock/LockMode;" (.ref ro8) ∧ Exa Z Z.heap ro8 "com/example/pathlatch/pathlatch/lock/LockMode" ∧ Sta Z Z.heap "com/example/pathlatch/pathlatch/lock/LockMode" "REPLACE" "Lcom/example/pathlatch/pathlatch/lock/LockMode;" (.ref ro9) ∧ Exa Z Z.heap ro9 "com/example/pathlatch/pathlatch/lock/LockMode" ∧ Fld Z Z.heap ro0 "com/example/pathlatch/pathlatch/lock/LockMode" "reads" "Z" (.int (1 : Int32)) ∧ Fld Z Z.heap ro1 "com/example/pathlatch/pathlatch/lock/LockMode" "reads" "Z" (.int (1 : Int32)) ∧ Fld Z Z.heap ro2 "com/example/pathlatch/pathlatch/lock/LockMode" "reads" "Z" (.int (0 : Int32)) ∧ Fld Z Z.heap ro3 "com/example/pathlatch/pathlatch/lock/LockMode" "reads" "Z" (.int (0 : Int32)) ∧ Fld Z Z.heap ro4 "com/example/pathlatch/pathlatch/lock/LockMode" "reads" "Z" (.int (1 : Int32)) ∧ Fld Z Z.heap ro5 "com/example/pathlatch/pathlatch/lock/LockMode" "reads" "Z" (.int (0 : Int32)) ∧ Fld Z Z.heap ro6 "com/example/pathlatch/pathlatch/lock/LockMode" "reads" "Z" (.int (0 : Int32)) ∧ Fld Z Z.heap ro7 "com/example/pathlatch/pathlatch/lock/LockMode" "reads" "Z" (.int (0 : Int32)) ∧ Fld Z Z.heap ro8 "com/example/pathlatch/pathlatch/lock/LockMode" "reads" "Z" (.int (0 : Int32)) ∧ Fld Z Z.heap ro9 "com/example/pathlatch/pathlatch/lock/LockMode" "reads" "Z" (.int (0 : Int32))
theorem wd_7 {Z : State} {a0 : Array Value} (hw : ∀ d ∈ tables_1, d.before a0 Z = true) : (Jvm.Cond.laysStatic "com/example/pathlatch/pathlatch/lock/LockMode" "READ_SUBTREE" "Lcom/example/pathlatch/pathlatch/lock/LockMode;").before a0 Z = true := hw _ (List.mem_of_getElem? (i := 7) rfl)
theorem wd_6 {Z : State} {a0 : Array Value} (hw : ∀ d ∈ tables_1, d.before a0 Z = true) : (Jvm.Cond.initialized "com/example/pathlatch/pathlatch/lock/LockMode").before a0 Z = true := hw _ (List.mem_of_getElem? (i := 6) rfl)
theorem wd_16 {Z : State} {a0 : Array Value} (hw : ∀ d ∈ tables_1, d.before a0 Z = true) : (Jvm.Cond.laysStatic "com/example/pathlatch/pathlatch/lock/LockMode" "INTENTION_SHARED" "Lcom/example/pathlatch/pathlatch/lock/LockMode;").before a0 Z = true := hw _ (List.mem_of_getElem? (i := 16) rfl)
theorem wd_22 {Z : State} {a0 : Array Value} (hw : ∀ d ∈ tables_1, d.before a0 Z = true) : (Jvm.Cond.laysStatic "com/example/pathlatch/pathlatch/lock/LockMode" "INSERT_INTO" "Lcom/example/pathlatch/pathlatch/lock/LockMode;").before a0 Z = true := hw _ (List.mem_of_getElem? (i := 22) rfl)
theorem wd_24 {Z : State} {a0 : Array Value} (hw : ∀ d ∈ tables_1, d.before a0 Z = true) : (Jvm.Cond.laysStatic "com/example/pathlatch/pathlatch/lock/LockMode" "INTENTION_EXCLUSIVE" "Lcom/example/pathlatch/pathlatch/lock/LockMode;").before a0 Z = true := hw _ (List.mem_of_getElem? (i := 24) rfl)
theorem wd_27 {Z : State} {a0 : Array Value} (hw : ∀ d ∈ tables_1, d.before a0 Z = true) : (Jvm.Cond.laysStatic "com/example/pathlatch/pathlatch/lock/LockMode" "SHARED" "Lcom/example/pathlatch/pathlatch/lock/LockMode;").before a0 Z = true := hw _ (List.mem_of_getElem? (i := 27) rfl)
theorem wd_29 {Z : State} {a0 : Array Value} (hw : ∀ d ∈ tables_1, d.before a0 Z = true) : (Jvm.Cond.laysStatic "com/example/pathlatch/pathlatch/lock/LockMode" "INSERT_AFTER" "Lcom/example/pathlatch/pathlatch/lock/LockMode;").before a0 Z = true := hw _ (List.mem_of_getElem? (i := 29) rfl)
theorem wd_31 {Z : State} {a0 : Array Value} (hw : ∀ d ∈ tables_1, d.before a0 Z = true) : (Jvm.Cond.laysStatic "com/example/pathlatch/pathlatch/lock/LockMode" "DELETE" "Lcom/example/pathlatch/pathlatch/lock/LockMode;").before a0 Z = true := hw _ (List.mem_of_getElem? (i := 31) rfl)
theorem wd_33 {Z : State} {a0 : Array Value} (hw : ∀ d ∈ tables_1, d.before a0 Z = true) : (Jvm.Cond.laysStatic "com/example/pathlatch/pathlatch/lock/LockMode" "RENAME" "Lcom/example/pathlatch/pathlatch/lock/LockMode;").before a0 Z = true := hw _ (List.mem_of_getElem? (i := 33) rfl)
theorem wd_35 {Z : State} {a0 : Array Value} (hw : ∀ d ∈ tables_1, d.before a0 Z = true) : (Jvm.Cond.laysStatic "com/example/pathlatch/pathlatch/lock/LockMode" "INSERT_BEFORE" "Lcom/example/pathlatch/pathlatch/lock/LockMode;").before a0 Z = true := hw _ (List.mem_of_getElem? (i := 35) rfl)
theorem wd_37 {Z : State} {a0 : Array Value} (hw : ∀ d ∈ tables_1, d.before a0 Z = true) : (Jvm.Cond.laysStatic "com/example/pathlatch/pathlatch/lock/LockMode" "REPLACE" "Lcom/example/pathlatch/pathlatch/lock/LockMode;").before a0 Z = true := hw _ (List.mem_of_getElem? (i := 37) rfl)
theorem d0_0 : decode method_2_code 0 = .ok (.iload_n 0, 1) := by decide +kernel
theorem d0_1 : decode method_2_code 1 = .ok (.ifCond .ne 7, 3) := by decide +kernel
theorem d0_4 : decode method_2_code 4 = .ok (.getstatic 7, 3) := by decide +kernel
theorem wd_5 {Z : State} {a0 : Array Value} (hw : ∀ d ∈ tables_1, d.before a0 Z = true) : (Jvm.Cond.fieldLink "com/example/pathlatch/pathlatch/lock/LockModeIntentionPinLaw" (7 : Nat) "com/example/pathlatch/pathlatch/lock/LockMode" "READ_SUBTREE" "Lcom/example/pathlatch/pathlatch/lock/LockMode;").before a0 Z = true := hw _ (List.mem_of_getElem? (i := 5) rfl)
theorem d0_7 : decode method_2_code 7 = .ok (.areturn, 1) := by decide +kernel
theorem pn_com_example_pathlatch_pathlatch_lock_LockModeIntentionPinLaw : plainName "com/example/pathlatch/pathlatch/lock/LockModeIntentionPinLaw" = true := by first | (simp [plainName, overriddenIn]; done) | decide +kernel
theorem ef_pick_0 (m : MethodId) (ro0 : Addr) (ro1 : Addr) (ro2 : Addr) (ro3 : Addr) (ro4 : Addr) (ro5 : Addr) (ro6 : Addr) (ro7 : Addr) (ro8 : Addr) (ro9 : Addr) : entryFrame m #[(.int (0 : Int32))] 1 = mkF m 0 #[.val (.int (0 : Int32))] [] := by first | rfl | (simp [entryFrame, mkF, argsToLocals, Value.category]; done)
set_option maxRecDepth 65536 in
set_option maxHeartbeats 40000000 in
theorem pick_0 (l : Launch) (Z : State) (a0 : Array Value) (hw : ∀ d ∈ tables_1, d.before a0 Z = true) (ro0 : Addr) (ro1 : Addr) (ro2 : Addr) (ro3 : Addr) (ro4 : Addr) (ro5 : Addr) (ro6 : Addr) (ro7 : Addr) (ro8 : Addr) (ro9 : Addr) (h0 : Heap) (n0 : Nat) (Z0 : n0 ≤ h0.size) (O0 : Old Z n0 h0) (G : Olds Z ro0 ro1 ro2 ro3 ro4 ro5 ro6 ro7 ro8 ro9) :
    Ctr l Z [] (⟨"com/example/pathlatch/pathlatch/lock/LockModeIntentionPinLaw", "pick", "(I)Lcom/example/pathlatch/pathlatch/lock/LockMode;"⟩ : MethodName) method_2_code 1 (some (.object "com/example/pathlatch/pathlatch/lock/LockMode")) #[(.int (0 : Int32))] h0 ({ frames := 0, cells := 0, slots := 0, locals := 0 } : Room) (fun v h L => v = some (.ref ro0) ∧ Fr n0 L ∧ h = h0) := by
  refine Ctr.of (plainFor_of_name pn_com_example_pathlatch_pathlatch_lock_LockModeIntentionPinLaw) (fun m => ef_pick_0 m ro0 ro1 ro2 ro3 ro4 ro5 ro6 ro7 ro8 ro9) ?_
  intro p e s m below meth c T0 hx hZ hby hml hown hnm hret hlk X0 e0
  have N0 := Fr.nil n0
  show Rch p e below _ (T0.setTop (mkF m 0 #[.val (.int (0 : Int32))] []))
  refine Rch.go (fun t k => XS.iloadN X0.here hx rfl (hb hby d0_0) rfl  k) ?_
  show Rch p e below _ (T0.setTop (mkF m 1 #[.val (.int (0 : Int32))] [(.int (0 : Int32))]))
  refine Rch.go (fun t k => XS.ifNo X0.here hx rfl (hb hby d0_1) rfl (by decide) k) ?_
  show Rch p e below _ (T0.setTop (mkF m 4 #[.val (.int (0 : Int32))] []))
  obtain ⟨T1, X1, e1, st1⟩ := getS2 X0 hx hZ hown (host := "") (Or.inl (wd_5 hw)) Via.refl e0 (G.1.ext O0.2) (g := (mkF m 4 #[.val (.int (0 : Int32))] [])) rfl (hb hby d0_4)
  refine Rch.go st1 ?_
  show Rch p e below _ (T1.setTop (mkF m 7 #[.val (.int (0 : Int32))] [(.ref ro0)]))
  refine Rch.val X1 hx (t := (.object "com/example/pathlatch/pathlatch/lock/LockMode")) hret hlk rfl (Or.inr (Or.inr (Or.inr (Or.inr ⟨rfl, rfl, rfl⟩)))) (hb hby d0_7) (by decide) (by decide) ?_
  try rw [e1]
  exact ⟨rfl, N0, rfl⟩
theorem d1_0 : decode method_3_code 0 = .ok (.iload_n 0, 1) := by decide +kernel
theorem d1_1 : decode method_3_code 1 = .ok (.ifCond .eq 14, 3) := by decide +kernel
theorem d1_15 : decode method_3_code 15 = .ok (.getstatic 34, 3) := by decide +kernel
theorem wd_20 {Z : State} {a0 : Array Value} (hw : ∀ d ∈ tables_1, d.before a0 Z = true) : (Jvm.Cond.fieldLink "com/example/pathlatch/pathlatch/lock/LockModeIntentionPinLaw" (34 : Nat) "com/example/pathlatch/pathlatch/lock/LockMode" "INTENTION_SHARED" "Lcom/example/pathlatch/pathlatch/lock/LockMode;").before a0 Z = true := hw _ (List.mem_of_getElem? (i := 20) rfl)
theorem d1_18 : decode method_3_code 18 = .ok (.areturn, 1) := by decide +kernel
theorem ef_exp_0 (m : MethodId) (ro0 : Addr) (ro1 : Addr) (ro2 : Addr) (ro3 : Addr) (ro4 : Addr) (ro5 : Addr) (ro6 : Addr) (ro7 : Addr) (ro8 : Addr) (ro9 : Addr) : entryFrame m #[(.int (0 : Int32))] 1 = mkF m 0 #[.val (.int (0 : Int32))] [] := by first | rfl | (simp [entryFrame, mkF, argsToLocals, Value.category]; done)
set_option maxRecDepth 65536 in
set_option maxHeartbeats 40000000 in
theorem exp_0 (l : Launch) (Z : State) (a0 : Array Value) (hw : ∀ d ∈ tables_1, d.before a0 Z = true) (ro0 : Addr) (ro1 : Addr) (ro2 : Addr) (ro3 : Addr) (ro4 : Addr) (ro5 : Addr) (ro6 : Addr) (ro7 : Addr) (ro8 : Addr) (ro9 : Addr) (h0 : Heap) (n0 : Nat) (Z0 : n0 ≤ h0.size) (O0 : Old Z n0 h0) (G : Olds Z ro0 ro1 ro2 ro3 ro4 ro5 ro6 ro7 ro8 ro9) :
    Ctr l Z [] (⟨"com/example/pathlatch/pathlatch/lock/LockModeIntentionPinLaw", "expected", "(I)Lcom/example/pathlatch/pathlatch/lock/LockMode;"⟩ : MethodName) method_3_code 1 (some (.object "com/example/pathlatch/pathlatch/lock/LockMode")) #[(.int (0 : Int32))] h0 ({ frames := 0, cells := 0, slots := 0, locals := 0 } : Room) (fun v h L => v = some (.ref ro1) ∧ Fr n0 L ∧ h = h0) := by
  refine Ctr.of (plainFor_of_name pn_com_example_pathlatch_pathlatch_lock_LockModeIntentionPinLaw) (fun m => ef_exp_0 m ro0 ro1 ro2 ro3 ro4 ro5 ro6 ro7 ro8 ro9) ?_
  intro p e s m below meth c T0 hx hZ hby hml hown hnm hret hlk X0 e0
  have N0 := Fr.nil n0
  show Rch p e below _ (T0.setTop (mkF m 0 #[.val (.int (0 : Int32))] []))
  refine Rch.go (fun t k => XS.iloadN X0.here hx rfl (hb hby d1_0) rfl  k) ?_
  show Rch p e below _ (T0.setTop (mkF m 1 #[.val (.int (0 : Int32))] [(.int (0 : Int32))]))
  refine Rch.go (fun t k => XS.ifYes X0.here hx rfl (pc0 := 1) (pc' := 15) rfl (hb hby d1_1) rfl (by decide) (by decide) (by decide) k) ?_
  show Rch p e below _ (T0.setTop (mkF m 15 #[.val (.int (0 : Int32))] []))
  obtain ⟨T1, X1, e1, st1⟩ := getS2 X0 hx hZ hown (host := "") (Or.inl (wd_20 hw)) Via.refl e0 (G.2.2.1.ext O0.2) (g := (mkF m 15 #[.val (.int (0 : Int32))] [])) rfl (hb hby d1_15)
  refine Rch.go st1 ?_
  show Rch p e below _ (T1.setTop (mkF m 18 #[.val (.int (0 : Int32))] [(.ref ro1)]))
  refine Rch.val X1 hx (t := (.object "com/example/pathlatch/pathlatch/lock/LockMode")) hret hlk rfl (Or.inr (Or.inr (Or.inr (Or.inr ⟨rfl, rfl, rfl⟩)))) (hb hby d1_18) (by decide) (by decide) ?_
  try rw [e1]
  exact ⟨rfl, N0, rfl⟩
theorem d0_8 : decode method_2_code 8 = .ok (.iload_n 0, 1) := by decide +kernel
theorem d0_9 : decode method_2_code 9 = .ok (.iconst 1, 1) := by decide +kernel
theorem d0_10 : decode method_2_code 10 = .ok (.if_icmp .ne 7, 3) := by decide +kernel
theorem d0_13 : decode method_2_code 13 = .ok (.getstatic 13, 3) := by decide +kernel
theorem wd_26 {Z : State} {a0 : Array Value} (hw : ∀ d ∈ tables_1, d.before a0 Z = true) : (Jvm.Cond.fieldLink "com/example/pathlatch/pathlatch/lock/LockModeIntentionPinLaw" (13 : Nat) "com/example/pathlatch/pathlatch/lock/LockMode" "SHARED" "Lcom/example/pathlatch/pathlatch/lock/LockMode;").before a0 Z = true := hw _ (List.mem_of_getElem? (i := 26) rfl)
theorem d0_16 : decode method_2_code 16 = .ok (.areturn, 1) := by decide +kernel
theorem ef_pick_1 (m : MethodId) (ro0 : Addr) (ro1 : Addr) (ro2 : Addr) (ro3 : Addr) (ro4 : Addr) (ro5 : Addr) (ro6 : Addr) (ro7 : Addr) (ro8 : Addr) (ro9 : Addr) : entryFrame m #[(.int (1 : Int32))] 1 = mkF m 0 #[.val (.int (1 : Int32))] [] := by first | rfl | (simp [entryFrame, mkF, argsToLocals, Value.category]; done)
set_option maxRecDepth 65536 in
set_option maxHeartbeats 40000000 in
theorem pick_1 (l : Launch) (Z : State) (a0 : Array Value) (hw : ∀ d ∈ tables_1, d.before a0 Z = true) (ro0 : Addr) (ro1 : Addr) (ro2 : Addr) (ro3 : Addr) (ro4 : Addr) (ro5 : Addr) (ro6 : Addr) (ro7 : Addr) (ro8 : Addr) (ro9 : Addr) (h0 : Heap) (n0 : Nat) (Z0 : n0 ≤ h0.size) (O0 : Old Z n0 h0) (G : Olds Z ro0 ro1 ro2 ro3 ro4 ro5 ro6 ro7 ro8 ro9) :
    Ctr l Z [] (⟨"com/example/pathlatch/pathlatch/lock/LockModeIntentionPinLaw", "pick", "(I)Lcom/example/pathlatch/pathlatch/lock/LockMode;"⟩ : MethodName) method_2_code 1 (some (.object "com/example/pathlatch/pathlatch/lock/LockMode")) #[(.int (1 : Int32))] h0 ({ frames := 0, cells := 0, slots := 0, locals := 0 } : Room) (fun v h L => v = some (.ref ro4) ∧ Fr n0 L ∧ h = h0) := by
  refine Ctr.of (plainFor_of_name pn_com_example_pathlatch_pathlatch_lock_LockModeIntentionPinLaw) (fun m => ef_pick_1 m ro0 ro1 ro2 ro3 ro4 ro5 ro6 ro7 ro8 ro9) ?_
  intro p e s m below meth c T0 hx hZ hby hml hown hnm hret hlk X0 e0
  have N0 := Fr.nil n0
  show Rch p e below _ (T0.setTop (mkF m 0 #[.val (.int (1 : Int32))] []))
  refine Rch.go (fun t k => XS.iloadN X0.here hx rfl (hb hby d0_0) rfl  k) ?_
  show Rch p e below _ (T0.setTop (mkF m 1 #[.val (.int (1 : Int32))] [(.int (1 : Int32))]))
  refine Rch.go (fun t k => XS.ifYes X0.here hx rfl (pc0 := 1) (pc' := 8) rfl (hb hby d0_1) rfl (by decide) (by decide) (by decide) k) ?_
  show Rch p e below _ (T0.setTop (mkF m 8 #[.val (.int (1 : Int32))] []))
  refine Rch.go (fun t k => XS.iloadN X0.here hx rfl (hb hby d0_8) rfl  k) ?_
  show Rch p e below _ (T0.setTop (mkF m 9 #[.val (.int (1 : Int32))] [(.int (1 : Int32))]))
  refine Rch.go (fun t k => XS.iconst X0.here hx rfl (hb hby d0_9) k) ?_
  show Rch p e below _ (T0.setTop (mkF m 10 #[.val (.int (1 : Int32))] [(.int (1 : Int32)), (.int (1 : Int32))]))
  refine Rch.go (fun t k => XS.icmpNo X0.here hx rfl (hb hby d0_10) rfl (by decide) k) ?_
  show Rch p e below _ (T0.setTop (mkF m 13 #[.val (.int (1 : Int32))] []))
  obtain ⟨T1, X1, e1, st1⟩ := getS2 X0 hx hZ hown (host := "") (Or.inl (wd_26 hw)) Via.refl e0 (G.2.2.2.2.2.2.2.2.1.ext O0.2) (g := (mkF m 13 #[.val (.int (1 : Int32))] [])) rfl (hb hby d0_13)
  refine Rch.go st1 ?_
  show Rch p e below _ (T1.setTop (mkF m 16 #[.val (.int (1 : Int32))] [(.ref ro4)]))
  refine Rch.val X1 hx (t := (.object "com/example/pathlatch/pathlatch/lock/LockMode")) hret hlk rfl (Or.inr (Or.inr (Or.inr (Or.inr ⟨rfl, rfl, rfl⟩)))) (hb hby d0_16) (by decide) (by decide) ?_
  try rw [e1]
  exact ⟨rfl, N0, rfl⟩
theorem d1_4 : decode method_3_code 4 = .ok (.iload_n 0, 1) := by decide +kernel
theorem d1_5 : decode method_3_code 5 = .ok (.iconst 1, 1) := by decide +kernel
theorem d1_6 : decode method_3_code 6 = .ok (.if_icmp .eq 9, 3) := by decide +kernel
theorem ef_exp_1 (m : MethodId) (ro0 : Addr) (ro1 : Addr) (ro2 : Addr) (ro3 : Addr) (ro4 : Addr) (ro5 : Addr) (ro6 : Addr) (ro7 : Addr) (ro8 : Addr) (ro9 : Addr) : entryFrame m #[(.int (1 : Int32))] 1 = mkF m 0 #[.val (.int (1 : Int32))] [] := by first | rfl | (simp [entryFrame, mkF, argsToLocals, Value.category]; done)
set_option maxRecDepth 65536 in
set_option maxHeartbeats 40000000 in
theorem exp_1 (l : Launch) (Z : State) (a0 : Array Value) (hw : ∀ d ∈ tables_1, d.before a0 Z = true) (ro0 : Addr) (ro1 : Addr) (ro2 : Addr) (ro3 : Addr) (ro4 : Addr) (ro5 : Addr) (ro6 : Addr) (ro7 : Addr) (ro8 : Addr) (ro9 : Addr) (h0 : Heap) (n0 : Nat) (Z0 : n0 ≤ h0.size) (O0 : Old Z n0 h0) (G : Olds Z ro0 ro1 ro2 ro3 ro4 ro5 ro6 ro7 ro8 ro9) :
    Ctr l Z [] (⟨"com/example/pathlatch/pathlatch/lock/LockModeIntentionPinLaw", "expected", "(I)Lcom/example/pathlatch/pathlatch/lock/LockMode;"⟩ : MethodName) method_3_code 1 (some (.object "com/example/pathlatch/pathlatch/lock/LockMode")) #[(.int (1 : Int32))] h0 ({ frames := 0, cells := 0, slots := 0, locals := 0 } : Room) (fun v h L => v = some (.ref ro1) ∧ Fr n0 L ∧ h = h0) := by
  refine Ctr.of (plainFor_of_name pn_com_example_pathlatch_pathlatch_lock_LockModeIntentionPinLaw) (fun m => ef_exp_1 m ro0 ro1 ro2 ro3 ro4 ro5 ro6 ro7 ro8 ro9) ?_
  intro p e s m below meth c T0 hx hZ hby hml hown hnm hret hlk X0 e0
  have N0 := Fr.nil n0
  show Rch p e below _ (T0.setTop (mkF m 0 #[.val (.int (1 : Int32))] []))
  refine Rch.go (fun t k => XS.iloadN X0.here hx rfl (hb hby d1_0) rfl  k) ?_
  show Rch p e below _ (T0.setTop (mkF m 1 #[.val (.int (1 : Int32))] [(.int (1 : Int32))]))
  refine Rch.go (fun t k => XS.ifNo X0.here hx rfl (hb hby d1_1) rfl (by decide) k) ?_
  show Rch p e below _ (T0.setTop (mkF m 4 #[.val (.int (1 : Int32))] []))
  refine Rch.go (fun t k => XS.iloadN X0.here hx rfl (hb hby d1_4) rfl  k) ?_
  show Rch p e below _ (T0.setTop (mkF m 5 #[.val (.int (1 : Int32))] [(.int (1 : Int32))]))
  refine Rch.go (fun t k => XS.iconst X0.here hx rfl (hb hby d1_5) k) ?_
  show Rch p e below _ (T0.setTop (mkF m 6 #[.val (.int (1 : Int32))] [(.int (1 : Int32)), (.int (1 : Int32))]))
  refine Rch.go (fun t k => XS.icmpYes X0.here hx rfl (pc0 := 6) (pc' := 15) rfl (hb hby d1_6) rfl (by decide) (by decide) (by decide) k) ?_
  show Rch p e below _ (T0.setTop (mkF m 15 #[.val (.int (1 : Int32))] []))
  obtain ⟨T1, X1, e1, st1⟩ := getS2 X0 hx hZ hown (host := "") (Or.inl (wd_20 hw)) Via.refl e0 (G.2.2.1.ext O0.2) (g := (mkF m 15 #[.val (.int (1 : Int32))] [])) rfl (hb hby d1_15)
  refine Rch.go st1 ?_
  show Rch p e below _ (T1.setTop (mkF m 18 #[.val (.int (1 : Int32))] [(.ref ro1)]))
  refine Rch.val X1 hx (t := (.object "com/example/pathlatch/pathlatch/lock/LockMode")) hret hlk rfl (Or.inr (Or.inr (Or.inr (Or.inr ⟨rfl, rfl, rfl⟩)))) (hb hby d1_18) (by decide) (by decide) ?_
  try rw [e1]
  exact ⟨rfl, N0, rfl⟩
theorem d0_17 : decode method_2_code 17 = .ok (.iload_n 0, 1) := by decide +kernel
theorem d0_18 : decode method_2_code 18 = .ok (.iconst 2, 1) := by decide +kernel
theorem d0_19 : decode method_2_code 19 = .ok (.if_icmp .ne 7, 3) := by decide +kernel
theorem d0_22 : decode method_2_code 22 = .ok (.getstatic 16, 3) := by decide +kernel
theorem wd_32 {Z : State} {a0 : Array Value} (hw : ∀ d ∈ tables_1, d.before a0 Z = true) : (Jvm.Cond.fieldLink "com/example/pathlatch/pathlatch/lock/LockModeIntentionPinLaw" (16 : Nat) "com/example/pathlatch/pathlatch/lock/LockMode" "RENAME" "Lcom/example/pathlatch/pathlatch/lock/LockMode;").before a0 Z = true := hw _ (List.mem_of_getElem? (i := 32) rfl)
theorem d0_25 : decode method_2_code 25 = .ok (.areturn, 1) := by decide +kernel
theorem ef_pick_2 (m : MethodId) (ro0 : Addr) (ro1 : Addr) (ro2 : Addr) (ro3 : Addr) (ro4 : Addr) (ro5 : Addr) (ro6 : Addr) (ro7 : Addr) (ro8 : Addr) (ro9 : Addr) : entryFrame m #[(.int (2 : Int32))] 1 = mkF m 0 #[.val (.int (2 : Int32))] [] := by first | rfl | (simp [entryFrame, mkF, argsToLocals, Value.category]; done)
set_option maxRecDepth 65536 in
set_option maxHeartbeats 40000000 in
theorem pick_2 (l : Launch) (Z : State) (a0 : Array Value) (hw : ∀ d ∈ tables_1, d.before a0 Z = true) (ro0 : Addr) (ro1 : Addr) (ro2 : Addr) (ro3 : Addr) (ro4 : Addr) (ro5 : Addr) (ro6 : Addr) (ro7 : Addr) (ro8 : Addr) (ro9 : Addr) (h0 : Heap) (n0 : Nat) (Z0 : n0 ≤ h0.size) (O0 : Old Z n0 h0) (G : Olds Z ro0 ro1 ro2 ro3 ro4 ro5 ro6 ro7 ro8 ro9) :
    Ctr l Z [] (⟨"com/example/pathlatch/pathlatch/lock/LockModeIntentionPinLaw", "pick", "(I)Lcom/example/pathlatch/pathlatch/lock/LockMode;"⟩ : MethodName) method_2_code 1 (some (.object "com/example/pathlatch/pathlatch/lock/LockMode")) #[(.int (2 : Int32))] h0 ({ frames := 0, cells := 0, slots := 0, locals := 0 } : Room) (fun v h L => v = some (.ref ro7) ∧ Fr n0 L ∧ h = h0) := by
  refine Ctr.of (plainFor_of_name pn_com_example_pathlatch_pathlatch_lock_LockModeIntentionPinLaw) (fun m => ef_pick_2 m ro0 ro1 ro2 ro3 ro4 ro5 ro6 ro7 ro8 ro9) ?_
  intro p e s m below meth c T0 hx hZ hby hml hown hnm hret hlk X0 e0
  have N0 := Fr.nil n0
  show Rch p e below _ (T0.setTop (mkF m 0 #[.val (.int (2 : Int32))] []))
  refine Rch.go (fun t k => XS.iloadN X0.here hx rfl (hb hby d0_0) rfl  k) ?_
  show Rch p e below _ (T0.setTop (mkF m 1 #[.val (.int (2 : Int32))] [(.int (2 : Int32))]))
  refine Rch.go (fun t k => XS.ifYes X0.here hx rfl (pc0 := 1) (pc' := 8) rfl (hb hby d0_1) rfl (by decide) (by decide) (by decide) k) ?_
  show Rch p e below _ (T0.setTop (mkF m 8 #[.val (.int (2 : Int32))] []))
  refine Rch.go (fun t k => XS.iloadN X0.here hx rfl (hb hby d0_8) rfl  k) ?_
  show Rch p e below _ (T0.setTop (mkF m 9 #[.val (.int (2 : Int32))] [(.int (2 : Int32))]))
  refine Rch.go (fun t k => XS.iconst X0.here hx rfl (hb hby d0_9) k) ?_
  show Rch p e below _ (T0.setTop (mkF m 10 #[.val (.int (2 : Int32))] [(.int (1 : Int32)), (.int (2 : Int32))]))
  refine Rch.go (fun t k => XS.icmpYes X0.here hx rfl (pc0 := 10) (pc' := 17) rfl (hb hby d0_10) rfl (by decide) (by decide) (by decide) k) ?_
  show Rch p e below _ (T0.setTop (mkF m 17 #[.val (.int (2 : Int32))] []))
  refine Rch.go (fun t k => XS.iloadN X0.here hx rfl (hb hby d0_17) rfl  k) ?_
  show Rch p e below _ (T0.setTop (mkF m 18 #[.val (.int (2 : Int32))] [(.int (2 : Int32))]))
  refine Rch.go (fun t k => XS.iconst X0.here hx rfl (hb hby d0_18) k) ?_
  show Rch p e below _ (T0.setTop (mkF m 19 #[.val (.int (2 : Int32))] [(.int (2 : Int32)), (.int (2 : Int32))]))
  refine Rch.go (fun t k => XS.icmpNo X0.here hx rfl (hb hby d0_19) rfl (by decide) k) ?_
  show Rch p e below _ (T0.setTop (mkF m 22 #[.val (.int (2 : Int32))] []))
  obtain ⟨T1, X1, e1, st1⟩ := getS2 X0 hx hZ hown (host := "") (Or.inl (wd_32 hw)) Via.refl e0 (G.2.2.2.2.2.2.2.2.2.2.2.2.2.2.1.ext O0.2) (g := (mkF m 22 #[.val (.int (2 : Int32))] [])) rfl (hb hby d0_22)
  refine Rch.go st1 ?_
  show Rch p e below _ (T1.setTop (mkF m 25 #[.val (.int (2 : Int32))] [(.ref ro7)]))
  refine Rch.val X1 hx (t := (.object "com/example/pathlatch/pathlatch/lock/LockMode")) hret hlk rfl (Or.inr (Or.inr (Or.inr (Or.inr ⟨rfl, rfl, rfl⟩)))) (hb hby d0_25) (by decide) (by decide) ?_
  try rw [e1]
  exact ⟨rfl, N0, rfl⟩
theorem d1_9 : decode method_3_code 9 = .ok (.iload_n 0, 1) := by decide +kernel
theorem d1_10 : decode method_3_code 10 = .ok (.bipush 8, 2) := by decide +kernel
theorem d1_12 : decode method_3_code 12 = .ok (.if_icmp .ne 7, 3) := by decide +kernel
theorem d1_19 : decode method_3_code 19 = .ok (.getstatic 37, 3) := by decide +kernel
theorem wd_25 {Z : State} {a0 : Array Value} (hw : ∀ d ∈ tables_1, d.before a0 Z = true) : (Jvm.Cond.fieldLink "com/example/pathlatch/pathlatch/lock/LockModeIntentionPinLaw" (37 : Nat) "com/example/pathlatch/pathlatch/lock/LockMode" "INTENTION_EXCLUSIVE" "Lcom/example/pathlatch/pathlatch/lock/LockMode;").before a0 Z = true := hw _ (List.mem_of_getElem? (i := 25) rfl)
theorem d1_22 : decode method_3_code 22 = .ok (.areturn, 1) := by decide +kernel
theorem ef_exp_2 (m : MethodId) (ro0 : Addr) (ro1 : Addr) (ro2 : Addr) (ro3 : Addr) (ro4 : Addr) (ro5 : Addr) (ro6 : Addr) (ro7 : Addr) (ro8 : Addr) (ro9 : Addr) : entryFrame m #[(.int (2 : Int32))] 1 = mkF m 0 #[.val (.int (2 : Int32))] [] := by first | rfl | (simp [entryFrame, mkF, argsToLocals, Value.category]; done)
set_option maxRecDepth 65536 in
set_option maxHeartbeats 40000000 in
theorem exp_2 (l : Launch) (Z : State) (a0 : Array Value) (hw : ∀ d ∈ tables_1, d.before a0 Z = true) (ro0 : Addr) (ro1 : Addr) (ro2 : Addr) (ro3 : Addr) (ro4 : Addr) (ro5 : Addr) (ro6 : Addr) (ro7 : Addr) (ro8 : Addr) (ro9 : Addr) (h0 : Heap) (n0 : Nat) (Z0 : n0 ≤ h0.size) (O0 : Old Z n0 h0) (G : Olds Z ro0 ro1 ro2 ro3 ro4 ro5 ro6 ro7 ro8 ro9) :
    Ctr l Z [] (⟨"com/example/pathlatch/pathlatch/lock/LockModeIntentionPinLaw", "expected", "(I)Lcom/example/pathlatch/pathlatch/lock/LockMode;"⟩ : MethodName) method_3_code 1 (some (.object "com/example/pathlatch/pathlatch/lock/LockMode")) #[(.int (2 : Int32))] h0 ({ frames := 0, cells := 0, slots := 0, locals := 0 } : Room) (fun v h L => v = some (.ref ro3) ∧ Fr n0 L ∧ h = h0) := by
  refine Ctr.of (plainFor_of_name pn_com_example_pathlatch_pathlatch_lock_LockModeIntentionPinLaw) (fun m => ef_exp_2 m ro0 ro1 ro2 ro3 ro4 ro5 ro6 ro7 ro8 ro9) ?_
  intro p e s m below meth c T0 hx hZ hby hml hown hnm hret hlk X0 e0
  have N0 := Fr.nil n0
  show Rch p e below _ (T0.setTop (mkF m 0 #[.val (.int (2 : Int32))] []))
  refine Rch.go (fun t k => XS.iloadN X0.here hx rfl (hb hby d1_0) rfl  k) ?_
  show Rch p e below _ (T0.setTop (mkF m 1 #[.val (.int (2 : Int32))] [(.int (2 : Int32))]))
  refine Rch.go (fun t k => XS.ifNo X0.here hx rfl (hb hby d1_1) rfl (by decide) k) ?_
  show Rch p e below _ (T0.setTop (mkF m 4 #[.val (.int (2 : Int32))] []))
  refine Rch.go (fun t k => XS.iloadN X0.here hx rfl (hb hby d1_4) rfl  k) ?_
  show Rch p e below _ (T0.setTop (mkF m 5 #[.val (.int (2 : Int32))] [(.int (2 : Int32))]))
  refine Rch.go (fun t k => XS.iconst X0.here hx rfl (hb hby d1_5) k) ?_
  show Rch p e below _ (T0.setTop (mkF m 6 #[.val (.int (2 : Int32))] [(.int (1 : Int32)), (.int (2 : Int32))]))
  refine Rch.go (fun t k => XS.icmpNo X0.here hx rfl (hb hby d1_6) rfl (by decide) k) ?_
  show Rch p e below _ (T0.setTop (mkF m 9 #[.val (.int (2 : Int32))] []))
  refine Rch.go (fun t k => XS.iloadN X0.here hx rfl (hb hby d1_9) rfl  k) ?_
  show Rch p e below _ (T0.setTop (mkF m 10 #[.val (.int (2 : Int32))] [(.int (2 : Int32))]))
  refine Rch.go (fun t k => XS.bipush X0.here hx rfl (hb hby d1_10) k) ?_
  show Rch p e below _ (T0.setTop (mkF m 12 #[.val (.int (2 : Int32))] [(.int (8 : Int32)), (.int (2 : Int32))]))
  refine Rch.go (fun t k => XS.icmpYes X0.here hx rfl (pc0 := 12) (pc' := 19) rfl (hb hby d1_12) rfl (by decide) (by decide) (by decide) k) ?_
  show Rch p e below _ (T0.setTop (mkF m 19 #[.val (.int (2 : Int32))] []))
  obtain ⟨T1, X1, e1, st1⟩ := getS2 X0 hx hZ hown (host := "") (Or.inl (wd_25 hw)) Via.refl e0 (G.2.2.2.2.2.2.1.ext O0.2) (g := (mkF m 19 #[.val (.int (2 : Int32))] [])) rfl (hb hby d1_19)
  refine Rch.go st1 ?_
  show Rch p e below _ (T1.setTop (mkF m 22 #[.val (.int (2 : Int32))] [(.ref ro3)]))
  refine Rch.val X1 hx (t := (.object "com/example/pathlatch/pathlatch/lock/LockMode")) hret hlk rfl (Or.inr (Or.inr (Or.inr (Or.inr ⟨rfl, rfl, rfl⟩)))) (hb hby d1_22) (by decide) (by decide) ?_
  try rw [e1]
  exact ⟨rfl, N0, rfl⟩
theorem d0_26 : decode method_2_code 26 = .ok (.iload_n 0, 1) := by decide +kernel
theorem d0_27 : decode method_2_code 27 = .ok (.iconst 3, 1) := by decide +kernel
theorem d0_28 : decode method_2_code 28 = .ok (.if_icmp .ne 7, 3) := by decide +kernel
theorem d0_31 : decode method_2_code 31 = .ok (.getstatic 19, 3) := by decide +kernel
theorem wd_21 {Z : State} {a0 : Array Value} (hw : ∀ d ∈ tables_1, d.before a0 Z = true) : (Jvm.Cond.fieldLink "com/example/pathlatch/pathlatch/lock/LockModeIntentionPinLaw" (19 : Nat) "com/example/pathlatch/pathlatch/lock/LockMode" "INSERT_INTO" "Lcom/example/pathlatch/pathlatch/lock/LockMode;").before a0 Z = true := hw _ (List.mem_of_getElem? (i := 21) rfl)
theorem d0_34 : decode method_2_code 34 = .ok (.areturn, 1) := by decide +kernel
theorem ef_pick_3 (m : MethodId) (ro0 : Addr) (ro1 : Addr) (ro2 : Addr) (ro3 : Addr) (ro4 : Addr) (ro5 : Addr) (ro6 : Addr) (ro7 : Addr) (ro8 : Addr) (ro9 : Addr) : entryFrame m #[(.int (3 : Int32))] 1 = mkF m 0 #[.val (.int (3 : Int32))] [] := by first | rfl | (simp [entryFrame, mkF, argsToLocals, Value.category]; done)
set_option maxRecDepth 65536 in
set_option maxHeartbeats 40000000 in
theorem pick_3 (l : Launch) (Z : State) (a0 : Array Value) (hw : ∀ d ∈ tables_1, d.before a0 Z = true) (ro0 : Addr) (ro1 : Addr) (ro2 : Addr) (ro3 : Addr) (ro4 : Addr) (ro5 : Addr) (ro6 : Addr) (ro7 : Addr) (ro8 : Addr) (ro9 : Addr) (h0 : Heap) (n0 : Nat) (Z0 : n0 ≤ h0.size) (O0 : Old Z n0 h0) (G : Olds Z ro0 ro1 ro2 ro3 ro4 ro5 ro6 ro7 ro8 ro9) :
    Ctr l Z [] (⟨"com/example/pathlatch/pathlatch/lock/LockModeIntentionPinLaw", "pick", "(I)Lcom/example/pathlatch/pathlatch/lock/LockMode;"⟩ : MethodName) method_2_code 1 (some (.object "com/example/pathlatch/pathlatch/lock/LockMode")) #[(.int (3 : Int32))] h0 ({ frames := 0, cells := 0, slots := 0, locals := 0 } : Room) (fun v h L => v = some (.ref ro2) ∧ Fr n0 L ∧ h = h0) := by
  refine Ctr.of (plainFor_of_name pn_com_example_pathlatch_pathlatch_lock_LockModeIntentionPinLaw) (fun m => ef_pick_3 m ro0 ro1 ro2 ro3 ro4 ro5 ro6 ro7 ro8 ro9) ?_
  intro p e s m below meth c T0 hx hZ hby hml hown hnm hret hlk X0 e0
  have N0 := Fr.nil n0
  show Rch p e below _ (T0.setTop (mkF m 0 #[.val (.int (3 : Int32))] []))
  refine Rch.go (fun t k => XS.iloadN X0.here hx rfl (hb hby d0_0) rfl  k) ?_
  show Rch p e below _ (T0.setTop (mkF m 1 #[.val (.int (3 : Int32))] [(.int (3 : Int32))]))
  refine Rch.go (fun t k => XS.ifYes X0.here hx rfl (pc0 := 1) (pc' := 8) rfl (hb hby d0_1) rfl (by decide) (by decide) (by decide) k) ?_
  show Rch p e below _ (T0.setTop (mkF m 8 #[.val (.int (3 : Int32))] []))
  refine Rch.go (fun t k => XS.iloadN X0.here hx rfl (hb hby d0_8) rfl  k) ?_
  show Rch p e below _ (T0.setTop (mkF m 9 #[.val (.int (3 : Int32))] [(.int (3 : Int32))]))
  refine Rch.go (fun t k => XS.iconst X0.here hx rfl (hb hby d0_9) k) ?_
  show Rch p e below _ (T0.setTop (mkF m 10 #[.val (.int (3 : Int32))] [(.int (1 : Int32)), (.int (3 : Int32))]))
  refine Rch.go (fun t k => XS.icmpYes X0.here hx rfl (pc0 := 10) (pc' := 17) rfl (hb hby d0_10) rfl (by decide) (by decide) (by decide) k) ?_
  show Rch p e below _ (T0.setTop (mkF m 17 #[.val (.int (3 : Int32))] []))
  refine Rch.go (fun t k => XS.iloadN X0.here hx rfl (hb hby d0_17) rfl  k) ?_
  show Rch p e below _ (T0.setTop (mkF m 18 #[.val (.int (3 : Int32))] [(.int (3 : Int32))]))
  refine Rch.go (fun t k => XS.iconst X0.here hx rfl (hb hby d0_18) k) ?_
  show Rch p e below _ (T0.setTop (mkF m 19 #[.val (.int (3 : Int32))] [(.int (2 : Int32)), (.int (3 : Int32))]))
  refine Rch.go (fun t k => XS.icmpYes X0.here hx rfl (pc0 := 19) (pc' := 26) rfl (hb hby d0_19) rfl (by decide) (by decide) (by decide) k) ?_
  show Rch p e below _ (T0.setTop (mkF m 26 #[.val (.int (3 : Int32))] []))
  refine Rch.go (fun t k => XS.iloadN X0.here hx rfl (hb hby d0_26) rfl  k) ?_
  show Rch p e below _ (T0.setTop (mkF m 27 #[.val (.int (3 : Int32))] [(.int (3 : Int32))]))
  refine Rch.go (fun t k => XS.iconst X0.here hx rfl (hb hby d0_27) k) ?_
  show Rch p e below _ (T0.setTop (mkF m 28 #[.val (.int (3 : Int32))] [(.int (3 : Int32)), (.int (3 : Int32))]))
  refine Rch.go (fun t k => XS.icmpNo X0.here hx rfl (hb hby d0_28) rfl (by decide) k) ?_
  show Rch p e below _ (T0.setTop (mkF m 31 #[.val (.int (3 : Int32))] []))
  obtain ⟨T1, X1, e1, st1⟩ := getS2 X0 hx hZ hown (host := "") (Or.inl (wd_21 hw)) Via.refl e0 (G.2.2.2.2.1.ext O0.2) (g := (mkF m 31 #[.val (.int (3 : Int32))] [])) rfl (hb hby d0_31)
  refine Rch.go st1 ?_
  show Rch p e below _ (T1.setTop (mkF m 34 #[.val (.int (3 : Int32))] [(.ref ro2)]))
  refine Rch.val X1 hx (t := (.object "com/example/pathlatch/pathlatch/lock/LockMode")) hret hlk rfl (Or.inr (Or.inr (Or.inr (Or.inr ⟨rfl, rfl, rfl⟩)))) (hb hby d0_34) (by decide) (by decide) ?_
  try rw [e1]
  exact ⟨rfl, N0, rfl⟩
theorem ef_exp_3 (m : MethodId) (ro0 : Addr) (ro1 : Addr) (ro2 : Addr) (ro3 : Addr) (ro4 : Addr) (ro5 : Addr) (ro6 : Addr) (ro7 : Addr) (ro8 : Addr) (ro9 : Addr) : entryFrame m #[(.int (3 : Int32))] 1 = mkF m 0 #[.val (.int (3 : Int32))] [] := by first | rfl | (simp [entryFrame, mkF, argsToLocals, Value.category]; done)
set_option maxRecDepth 65536 in
set_option maxHeartbeats 40000000 in
theorem exp_3 (l : Launch) (Z : State) (a0 : Array Value) (hw : ∀ d ∈ tables_1, d.before a0 Z = true) (ro0 : Addr) (ro1 : Addr) (ro2 : Addr) (ro3 : Addr) (ro4 : Addr) (ro5 : Addr) (ro6 : Addr) (ro7 : Addr) (ro8 : Addr) (ro9 : Addr) (h0 : Heap) (n0 : Nat) (Z0 : n0 ≤ h0.size) (O0 : Old Z n0 h0) (G : Olds Z ro0 ro1 ro2 ro3 ro4 ro5 ro6 ro7 ro8 ro9) :
    Ctr l Z [] (⟨"com/example/pathlatch/pathlatch/lock/LockModeIntentionPinLaw", "expected", "(I)Lcom/example/pathlatch/pathlatch/lock/LockMode;"⟩ : MethodName) method_3_code 1 (some (.object "com/example/pathlatch/pathlatch/lock/LockMode")) #[(.int (3 : Int32))] h0 ({ frames := 0, cells := 0, slots := 0, locals := 0 } : Room) (fun v h L => v = some (.ref ro3) ∧ Fr n0 L ∧ h = h0) := by
  refine Ctr.of (plainFor_of_name pn_com_example_pathlatch_pathlatch_lock_LockModeIntentionPinLaw) (fun m => ef_exp_3 m ro0 ro1 ro2 ro3 ro4 ro5 ro6 ro7 ro8 ro9) ?_
  intro p e s m below meth c T0 hx hZ hby hml hown hnm hret hlk X0 e0
  have N0 := Fr.nil n0
  show Rch p e below _ (T0.setTop (mkF m 0 #[.val (.int (3 : Int32))] []))
  refine Rch.go (fun t k => XS.iloadN X0.here hx rfl (hb hby d1_0) rfl  k) ?_
  show Rch p e below _ (T0.setTop (mkF m 1 #[.val (.int (3 : Int32))] [(.int (3 : Int32))]))
  refine Rch.go (fun t k => XS.ifNo X0.here hx rfl (hb hby d1_1) rfl (by decide) k) ?_
  show Rch p e below _ (T0.setTop (mkF m 4 #[.val (.int (3 : Int32))] []))
  refine Rch.go (fun t k => XS.iloadN X0.here hx rfl (hb hby d1_4) rfl  k) ?_
  show Rch p e below _ (T0.setTop (mkF m 5 #[.val (.int (3 : Int32))] [(.int (3 : Int32))]))
  refine Rch.go (fun t k => XS.iconst X0.here hx rfl (hb hby d1_5) k) ?_
  show Rch p e below _ (T0.setTop (mkF m 6 #[.val (.int (3 : Int32))] [(.int (1 : Int32)), (.int (3 : Int32))]))
  refine Rch.go (fun t k => XS.icmpNo X0.here hx rfl (hb hby d1_6) rfl (by decide) k) ?_
  show Rch p e below _ (T0.setTop (mkF m 9 #[.val (.int (3 : Int32))] []))
  refine Rch.go (fun t k => XS.iloadN X0.here hx rfl (hb hby d1_9) rfl  k) ?_
  show Rch p e below _ (T0.setTop (mkF m 10 #[.val (.int (3 : Int32))] [(.int (3 : Int32))]))
  refine Rch.go (fun t k => XS.bipush X0.here hx rfl (hb hby d1_10) k) ?_
  show Rch p e below _ (T0.setTop (mkF m 12 #[.val (.int (3 : Int32))] [(.int (8 : Int32)), (.int (3 : Int32))]))
  refine Rch.go (fun t k => XS.icmpYes X0.here hx rfl (pc0 := 12) (pc' := 19) rfl (hb hby d1_12) rfl (by decide) (by decide) (by decide) k) ?_
  show Rch p e below _ (T0.setTop (mkF m 19 #[.val (.int (3 : Int32))] []))
  obtain ⟨T1, X1, e1, st1⟩ := getS2 X0 hx hZ hown (host := "") (Or.inl (wd_25 hw)) Via.refl e0 (G.2.2.2.2.2.2.1.ext O0.2) (g := (mkF m 19 #[.val (.int (3 : Int32))] [])) rfl (hb hby d1_19)
  refine Rch.go st1 ?_
  show Rch p e below _ (T1.setTop (mkF m 22 #[.val (.int (3 : Int32))] [(.ref ro3)]))
  refine Rch.val X1 hx (t := (.object "com/example/pathlatch/pathlatch/lock/LockMode")) hret hlk rfl (Or.inr (Or.inr (Or.inr (Or.inr ⟨rfl, rfl, rfl⟩)))) (hb hby d1_22) (by decide) (by decide) ?_
  try rw [e1]
  exact ⟨rfl, N0, rfl⟩
theorem d0_35 : decode method_2_code 35 = .ok (.iload_n 0, 1) := by decide +kernel
theorem d0_36 : decode method_2_code 36 = .ok (.iconst 4, 1) := by decide +kernel
theorem d0_37 : decode method_2_code 37 = .ok (.if_icmp .ne 7, 3) := by decide +kernel
theorem d0_40 : decode method_2_code 40 = .ok (.getstatic 22, 3) := by decide +kernel
theorem wd_28 {Z : State} {a0 : Array Value} (hw : ∀ d ∈ tables_1, d.before a0 Z = true) : (Jvm.Cond.fieldLink "com/example/pathlatch/pathlatch/lock/LockModeIntentionPinLaw" (22 : Nat) "com/example/pathlatch/pathlatch/lock/LockMode" "INSERT_AFTER" "Lcom/example/pathlatch/pathlatch/lock/LockMode;").before a0 Z = true := hw _ (List.mem_of_getElem? (i := 28) rfl)
theorem d0_43 : decode method_2_code 43 = .ok (.areturn, 1) := by decide +kernel
theorem ef_pick_4 (m : MethodId) (ro0 : Addr) (ro1 : Addr) (ro2 : Addr) (ro3 : Addr) (ro4 : Addr) (ro5 : Addr) (ro6 : Addr) (ro7 : Addr) (ro8 : Addr) (ro9 : Addr) : entryFrame m #[(.int (4 : Int32))] 1 = mkF m 0 #[.val (.int (4 : Int32))] [] := by first | rfl | (simp [entryFrame, mkF, argsToLocals, Value.category]; done)
set_option maxRecDepth 65536 in
set_option maxHeartbeats 40000000 in
theorem pick_4 (l : Launch) (Z : State) (a0 : Array Value) (hw : ∀ d ∈ tables_1, d.before a0 Z = true) (ro0 : Addr) (ro1 : Addr) (ro2 : Addr) (ro3 : Addr) (ro4 : Addr) (ro5 : Addr) (ro6 : Addr) (ro7 : Addr) (ro8 : Addr) (ro9 : Addr) (h0 : Heap) (n0 : Nat) (Z0 : n0 ≤ h0.size) (O0 : Old Z n0 h0) (G : Olds Z ro0 ro1 ro2 ro3 ro4 ro5 ro6 ro7 ro8 ro9) :
    Ctr l Z [] (⟨"com/example/pathlatch/pathlatch/lock/LockModeIntentionPinLaw", "pick", "(I)Lcom/example/pathlatch/pathlatch/lock/LockMode;"⟩ : MethodName) method_2_code 1 (some (.object "com/example/pathlatch/pathlatch/lock/LockMode")) #[(.int (4 : Int32))] h0 ({ frames := 0, cells := 0, slots := 0, locals := 0 } : Room) (fun v h L => v = some (.ref ro5) ∧ Fr n0 L ∧ h = h0) := by
  refine Ctr.of (plainFor_of_name pn_com_example_pathlatch_pathlatch_lock_LockModeIntentionPinLaw) (fun m => ef_pick_4 m ro0 ro1 ro2 ro3 ro4 ro5 ro6 ro7 ro8 ro9) ?_
  intro p e s m below meth c T0 hx hZ hby hml hown hnm hret hlk X0 e0
  have N0 := Fr.nil n0
  show Rch p e below _ (T0.setTop (mkF m 0 #[.val (.int (4 : Int32))] []))
  refine Rch.go (fun t k => XS.iloadN X0.here hx rfl (hb hby d0_0) rfl  k) ?_
  show Rch p e below _ (T0.setTop (mkF m 1 #[.val (.int (4 : Int32))] [(.int (4 : Int32))]))
  refine Rch.go (fun t k => XS.ifYes X0.here hx rfl (pc0 := 1) (pc' := 8) rfl (hb hby d0_1) rfl (by decide) (by decide) (by decide) k) ?_
  show Rch p e below _ (T0.setTop (mkF m 8 #[.val (.int (4 : Int32))] []))
  refine Rch.go (fun t k => XS.iloadN X0.here hx rfl (hb hby d0_8) rfl  k) ?_
  show Rch p e below _ (T0.setTop (mkF m 9 #[.val (.int (4 : Int32))] [(.int (4 : Int32))]))
  refine Rch.go (fun t k => XS.iconst X0.here hx rfl (hb hby d0_9) k) ?_
  show Rch p e below _ (T0.setTop (mkF m 10 #[.val (.int (4 : Int32))] [(.int (1 : Int32)), (.int (4 : Int32))]))
  refine Rch.go (fun t k => XS.icmpYes X0.here hx rfl (pc0 := 10) (pc' := 17) rfl (hb hby d0_10) rfl (by decide) (by decide) (by decide) k) ?_
  show Rch p e below _ (T0.setTop (mkF m 17 #[.val (.int (4 : Int32))] []))
  refine Rch.go (fun t k => XS.iloadN X0.here hx rfl (hb hby d0_17) rfl  k) ?_
  show Rch p e below _ (T0.setTop (mkF m 18 #[.val (.int (4 : Int32))] [(.int (4 : Int32))]))
  refine Rch.go (fun t k => XS.iconst X0.here hx rfl (hb hby d0_18) k) ?_
  show Rch p e below _ (T0.setTop (mkF m 19 #[.val (.int (4 : Int32))] [(.int (2 : Int32)), (.int (4 : Int32))]))
  refine Rch.go (fun t k => XS.icmpYes X0.here hx rfl (pc0 := 19) (pc' := 26) rfl (hb hby d0_19) rfl (by decide) (by decide) (by decide) k) ?_
  show Rch p e below _ (T0.setTop (mkF m 26 #[.val (.int (4 : Int32))] []))
  refine Rch.go (fun t k => XS.iloadN X0.here hx rfl (hb hby d0_26) rfl  k) ?_
  show Rch p e below _ (T0.setTop (mkF m 27 #[.val (.int (4 : Int32))] [(.int (4 : Int32))]))
  refine Rch.go (fun t k => XS.iconst X0.here hx rfl (hb hby d0_27) k) ?_
  show Rch p e below _ (T0.setTop (mkF m 28 #[.val (.int (4 : Int32))] [(.int (3 : Int32)), (.int (4 : Int32))]))
  refine Rch.go (fun t k => XS.icmpYes X0.here hx rfl (pc0 := 28) (pc' := 35) rfl (hb hby d0_28) rfl (by decide) (by decide) (by decide) k) ?_
  show Rch p e below _ (T0.setTop (mkF m 35 #[.val (.int (4 : Int32))] []))
  refine Rch.go (fun t k => XS.iloadN X0.here hx rfl (hb hby d0_35) rfl  k) ?_
  show Rch p e below _ (T0.setTop (mkF m 36 #[.val (.int (4 : Int32))] [(.int (4 : Int32))]))
  refine Rch.go (fun t k => XS.iconst X0.here hx rfl (hb hby d0_36) k) ?_
  show Rch p e below _ (T0.setTop (mkF m 37 #[.val (.int (4 : Int32))] [(.int (4 : Int32)), (.int (4 : Int32))]))
  refine Rch.go (fun t k => XS.icmpNo X0.here hx rfl (hb hby d0_37) rfl (by decide) k) ?_
  show Rch p e below _ (T0.setTop (mkF m 40 #[.val (.int (4 : Int32))] []))
  obtain ⟨T1, X1, e1, st1⟩ := getS2 X0 hx hZ hown (host := "") (Or.inl (wd_28 hw)) Via.refl e0 (G.2.2.2.2.2.2.2.2.2.2.1.ext O0.2) (g := (mkF m 40 #[.val (.int (4 : Int32))] [])) rfl (hb hby d0_40)
  refine Rch.go st1 ?_
  show Rch p e below _ (T1.setTop (mkF m 43 #[.val (.int (4 : Int32))] [(.ref ro5)]))
  refine Rch.val X1 hx (t := (.object "com/example/pathlatch/pathlatch/lock/LockMode")) hret hlk rfl (Or.inr (Or.inr (Or.inr (Or.inr ⟨rfl, rfl, rfl⟩)))) (hb hby d0_43) (by decide) (by decide) ?_
  try rw [e1]
  exact ⟨rfl, N0, rfl⟩
theorem ef_exp_4 (m : MethodId) (ro0 : Addr) (ro1 : Addr) (ro2 : Addr) (ro3 : Addr) (ro4 : Addr) (ro5 : Addr) (ro6 : Addr) (ro7 : Addr) (ro8 : Addr) (ro9 : Addr) : entryFrame m #[(.int (4 : Int32))] 1 = mkF m 0 #[.val (.int (4 : Int32))] [] := by first | rfl | (simp [entryFrame, mkF, argsToLocals, Value.category]; done)
set_option maxRecDepth 65536 in
set_option maxHeartbeats 40000000 in
theorem exp_4 (l : Launch) (Z : State) (a0 : Array Value) (hw : ∀ d ∈ tables_1, d.before a0 Z = true) (ro0 : Addr) (ro1 : Addr) (ro2 : Addr) (ro3 : Addr) (ro4 : Addr) (ro5 : Addr) (ro6 : Addr) (ro7 : Addr) (ro8 : Addr) (ro9 : Addr) (h0 : Heap) (n0 : Nat) (Z0 : n0 ≤ h0.size) (O0 : Old Z n0 h0) (G : Olds Z ro0 ro1 ro2 ro3 ro4 ro5 ro6 ro7 ro8 ro9) :
    Ctr l Z [] (⟨"com/example/pathlatch/pathlatch/lock/LockModeIntentionPinLaw", "expected", "(I)Lcom/example/pathlatch/pathlatch/lock/LockMode;"⟩ : MethodName) method_3_code 1 (some (.object "com/example/pathlatch/pathlatch/lock/LockMode")) #[(.int (4 : Int32))] h0 ({ frames := 0, cells := 0, slots := 0, locals := 0 } : Room) (fun v h L => v = some (.ref ro3) ∧ Fr n0 L ∧ h = h0) := by
  refine Ctr.of (plainFor_of_name pn_com_example_pathlatch_pathlatch_lock_LockModeIntentionPinLaw) (fun m => ef_exp_4 m ro0 ro1 ro2 ro3 ro4 ro5 ro6 ro7 ro8 ro9) ?_
  intro p e s m below meth c T0 hx hZ hby hml hown hnm hret hlk X0 e0
  have N0 := Fr.nil n0
  show Rch p e below _ (T0.setTop (mkF m 0 #[.val (.int (4 : Int32))] []))
  refine Rch.go (fun t k => XS.iloadN X0.here hx rfl (hb hby d1_0) rfl  k) ?_
  show Rch p e below _ (T0.setTop (mkF m 1 #[.val (.int (4 : Int32))] [(.int (4 : Int32))]))
  refine Rch.go (fun t k => XS.ifNo X0.here hx rfl (hb hby d1_1) rfl (by decide) k) ?_
  show Rch p e below _ (T0.setTop (mkF m 4 #[.val (.int (4 : Int32))] []))
  refine Rch.go (fun t k => XS.iloadN X0.here hx rfl (hb hby d1_4) rfl  k) ?_
  show Rch p e below _ (T0.setTop (mkF m 5 #[.val (.int (4 : Int32))] [(.int (4 : Int32))]))
  refine Rch.go (fun t k => XS.iconst X0.here hx rfl (hb hby d1_5) k) ?_
  show Rch p e below _ (T0.setTop (mkF m 6 #[.val (.int (4 : Int32))] [(.int (1 : Int32)), (.int (4 : Int32))]))
  refine Rch.go (fun t k => XS.icmpNo X0.here hx rfl (hb hby d1_6) rfl (by decide) k) ?_
  show Rch p e below _ (T0.setTop (mkF m 9 #[.val (.int (4 : Int32))] []))
  refine Rch.go (fun t k => XS.iloadN X0.here hx rfl (hb hby d1_9) rfl  k) ?_
  show Rch p e below _ (T0.setTop (mkF m 10 #[.val (.int (4 : Int32))] [(.int (4 : Int32))]))
  refine Rch.go (fun t k => XS.bipush X0.here hx rfl (hb hby d1_10) k) ?_
  show Rch p e below _ (T0.setTop (mkF m 12 #[.val (.int (4 : Int32))] [(.int (8 : Int32)), (.int (4 : Int32))]))
  refine Rch.go (fun t k => XS.icmpYes X0.here hx rfl (pc0 := 12) (pc' := 19) rfl (hb hby d1_12) rfl (by decide) (by decide) (by decide) k) ?_
  show Rch p e below _ (T0.setTop (mkF m 19 #[.val (.int (4 : Int32))] []))
  obtain ⟨T1, X1, e1, st1⟩ := getS2 X0 hx hZ hown (host := "") (Or.inl (wd_25 hw)) Via.refl e0 (G.2.2.2.2.2.2.1.ext O0.2) (g := (mkF m 19 #[.val (.int (4 : Int32))] [])) rfl (hb hby d1_19)
  refine Rch.go st1 ?_
  show Rch p e below _ (T1.setTop (mkF m 22 #[.val (.int (4 : Int32))] [(.ref ro3)]))
  refine Rch.val X1 hx (t := (.object "com/example/pathlatch/pathlatch/lock/LockMode")) hret hlk rfl (Or.inr (Or.inr (Or.inr (Or.inr ⟨rfl, rfl, rfl⟩)))) (hb hby d1_22) (by decide) (by decide) ?_
  try rw [e1]
  exact ⟨rfl, N0, rfl⟩
theorem d0_44 : decode method_2_code 44 = .ok (.iload_n 0, 1) := by decide +kernel
theorem d0_45 : decode method_2_code 45 = .ok (.iconst 5, 1) := by decide +kernel
theorem d0_46 : decode method_2_code 46 = .ok (.if_icmp .ne 7, 3) := by decide +kernel
theorem d0_49 : decode method_2_code 49 = .ok (.getstatic 25, 3) := by decide +kernel
theorem wd_34 {Z : State} {a0 : Array Value} (hw : ∀ d ∈ tables_1, d.before a0 Z = true) : (Jvm.Cond.fieldLink "com/example/pathlatch/pathlatch/lock/LockModeIntentionPinLaw" (25 : Nat) "com/example/pathlatch/pathlatch/lock/LockMode" "INSERT_BEFORE" "Lcom/example/pathlatch/pathlatch/lock/LockMode;").before a0 Z = true := hw _ (List.mem_of_getElem? (i := 34) rfl)
theorem d0_52 : decode method_2_code 52 = .ok (.areturn, 1) := by decide +kernel
theorem ef_pick_5 (m : MethodId) (ro0 : Addr) (ro1 : Addr) (ro2 : Addr) (ro3 : Addr) (ro4 : Addr) (ro5 : Addr) (ro6 : Addr) (ro7 : Addr) (ro8 : Addr) (ro9 : Addr) : entryFrame m #[(.int (5 : Int32))] 1 = mkF m 0 #[.val (.int (5 : Int32))] [] := by first | rfl | (simp [entryFrame, mkF, argsToLocals, Value.category]; done)
set_option maxRecDepth 65536 in
set_option maxHeartbeats 40000000 in
theorem pick_5 (l : Launch) (Z : State) (a0 : Array Value) (hw : ∀ d ∈ tables_1, d.before a0 Z = true) (ro0 : Addr) (ro1 : Addr) (ro2 : Addr) (ro3 : Addr) (ro4 : Addr) (ro5 : Addr) (ro6 : Addr) (ro7 : Addr) (ro8 : Addr) (ro9 : Addr) (h0 : Heap) (n0 : Nat) (Z0 : n0 ≤ h0.size) (O0 : Old Z n0 h0) (G : Olds Z ro0 ro1 ro2 ro3 ro4 ro5 ro6 ro7 ro8 ro9) :
    Ctr l Z [] (⟨"com/example/pathlatch/pathlatch/lock/LockModeIntentionPinLaw", "pick", "(I)Lcom/example/pathlatch/pathlatch/lock/LockMode;"⟩ : MethodName) method_2_code 1 (some (.object "com/example/pathlatch/pathlatch/lock/LockMode")) #[(.int (5 : Int32))] h0 ({ frames := 0, cells := 0, slots := 0, locals := 0 } : Room) (fun v h L => v = some (.ref ro8) ∧ Fr n0 L ∧ h = h0) := by
  refine Ctr.of (plainFor_of_name pn_com_example_pathlatch_pathlatch_lock_LockModeIntentionPinLaw) (fun m => ef_pick_5 m ro0 ro1 ro2 ro3 ro4 ro5 ro6 ro7 ro8 ro9) ?_
  intro p e s m below meth c T0 hx hZ hby hml hown hnm hret hlk X0 e0
  have N0 := Fr.nil n0
  show Rch p e below _ (T0.setTop (mkF m 0 #[.val (.int (5 : Int32))] []))
  refine Rch.go (fun t k => XS.iloadN X0.here hx rfl (hb hby d0_0) rfl  k) ?_
  show Rch p e below _ (T0.setTop (mkF m 1 #[.val (.int (5 : Int32))] [(.int (5 : Int32))]))
  refine Rch.go (fun t k => XS.ifYes X0.here hx rfl (pc0 := 1) (pc' := 8) rfl (hb hby d0_1) rfl (by decide) (by decide) (by decide) k) ?_
  show Rch p e below _ (T0.setTop (mkF m 8 #[.val (.int (5 : Int32))] []))
  refine Rch.go (fun t k => XS.iloadN X0.here hx rfl (hb hby d0_8) rfl  k) ?_
  show Rch p e below _ (T0.setTop (mkF m 9 #[.val (.int (5 : Int32))] [(.int (5 : Int32))]))
  refine Rch.go (fun t k => XS.iconst X0.here hx rfl (hb hby d0_9) k) ?_
  show Rch p e below _ (T0.setTop (mkF m 10 #[.val (.int (5 : Int32))] [(.int (1 : Int32)), (.int (5 : Int32))]))
  refine Rch.go (fun t k => XS.icmpYes X0.here hx rfl (pc0 := 10) (pc' := 17) rfl (hb hby d0_10) rfl (by decide) (by decide) (by decide) k) ?_
  show Rch p e below _ (T0.setTop (mkF m 17 #[.val (.int (5 : Int32))] []))
  refine Rch.go (fun t k => XS.iloadN X0.here hx rfl (hb hby d0_17) rfl  k) ?_
  show Rch p e below _ (T0.setTop (mkF m 18 #[.val (.int (5 : Int32))] [(.int (5 : Int32))]))
  refine Rch.go (fun t k => XS.iconst X0.here hx rfl (hb hby d0_18) k) ?_
  show Rch p e below _ (T0.setTop (mkF m 19 #[.val (.int (5 : Int32))] [(.int (2 : Int32)), (.int (5 : Int32))]))
  refine Rch.go (fun t k => XS.icmpYes X0.here hx rfl (pc0 := 19) (pc' := 26) rfl (hb hby d0_19) rfl (by decide) (by decide) (by decide) k) ?_
  show Rch p e below _ (T0.setTop (mkF m 26 #[.val (.int (5 : Int32))] []))
  refine Rch.go (fun t k => XS.iloadN X0.here hx rfl (hb hby d0_26) rfl  k) ?_
  show Rch p e below _ (T0.setTop (mkF m 27 #[.val (.int (5 : Int32))] [(.int (5 : Int32))]))
  refine Rch.go (fun t k => XS.iconst X0.here hx rfl (hb hby d0_27) k) ?_
  show Rch p e below _ (T0.setTop (mkF m 28 #[.val (.int (5 : Int32))] [(.int (3 : Int32)), (.int (5 : Int32))]))
  refine Rch.go (fun t k => XS.icmpYes X0.here hx rfl (pc0 := 28) (pc' := 35) rfl (hb hby d0_28) rfl (by decide) (by decide) (by decide) k) ?_
  show Rch p e below _ (T0.setTop (mkF m 35 #[.val (.int (5 : Int32))] []))
  refine Rch.go (fun t k => XS.iloadN X0.here hx rfl (hb hby d0_35) rfl  k) ?_
  show Rch p e below _ (T0.setTop (mkF m 36 #[.val (.int (5 : Int32))] [(.int (5 : Int32))]))
  refine Rch.go (fun t k => XS.iconst X0.here hx rfl (hb hby d0_36) k) ?_
  show Rch p e below _ (T0.setTop (mkF m 37 #[.val (.int (5 : Int32))] [(.int (4 : Int32)), (.int (5 : Int32))]))
  refine Rch.go (fun t k => XS.icmpYes X0.here hx rfl (pc0 := 37) (pc' := 44) rfl (hb hby d0_37) rfl (by decide) (by decide) (by decide) k) ?_
  show Rch p e below _ (T0.setTop (mkF m 44 #[.val (.int (5 : Int32))] []))
  refine Rch.go (fun t k => XS.iloadN X0.here hx rfl (hb hby d0_44) rfl  k) ?_
  show Rch p e below _ (T0.setTop (mkF m 45 #[.val (.int (5 : Int32))] [(.int (5 : Int32))]))
  refine Rch.go (fun t k => XS.iconst X0.here hx rfl (hb hby d0_45) k) ?_
  show Rch p e below _ (T0.setTop (mkF m 46 #[.val (.int (5 : Int32))] [(.int (5 : Int32)), (.int (5 : Int32))]))
  refine Rch.go (fun t k => XS.icmpNo X0.here hx rfl (hb hby d0_46) rfl (by decide) k) ?_
  show Rch p e below _ (T0.setTop (mkF m 49 #[.val (.int (5 : Int32))] []))
  obtain ⟨T1, X1, e1, st1⟩ := getS2 X0 hx hZ hown (host := "") (Or.inl (wd_34 hw)) Via.refl e0 (G.2.2.2.2.2.2.2.2.2.2.2.2.2.2.2.2.1.ext O0.2) (g := (mkF m 49 #[.val (.int (5 : Int32))] [])) rfl (hb hby d0_49)
  refine Rch.go st1 ?_
  show Rch p e below _ (T1.setTop (mkF m 52 #[.val (.int (5 : Int32))] [(.ref ro8)]))
  refine Rch.val X1 hx (t := (.object "com/example/pathlatch/pathlatch/lock/LockMode")) hret hlk rfl (Or.inr (Or.inr (Or.inr (Or.inr ⟨rfl, rfl, rfl⟩)))) (hb hby d0_52) (by decide) (by decide) ?_
  try rw [e1]
  exact ⟨rfl, N0, rfl⟩
theorem ef_exp_5 (m : MethodId) (ro0 : Addr) (ro1 : Addr) (ro2 : Addr) (ro3 : Addr) (ro4 : Addr) (ro5 : Addr) (ro6 : Addr) (ro7 : Addr) (ro8 : Addr) (ro9 : Addr) : entryFrame m #[(.int (5 : Int32))] 1 = mkF m 0 #[.val (.int (5 : Int32))] [] := by first | rfl | (simp [entryFrame, mkF, argsToLocals, Value.category]; done)
set_option maxRecDepth 65536 in
set_option maxHeartbeats 40000000 in
theorem exp_5 (l : Launch) (Z : State) (a0 : Array Value) (hw : ∀ d ∈ tables_1, d.before a0 Z = true) (ro0 : Addr) (ro1 : Addr) (ro2 : Addr) (ro3 : Addr) (ro4 : Addr) (ro5 : Addr) (ro6 : Addr) (ro7 : Addr) (ro8 : Addr) (ro9 : Addr) (h0 : Heap) (n0 : Nat) (Z0 : n0 ≤ h0.size) (O0 : Old Z n0 h0) (G : Olds Z ro0 ro1 ro2 ro3 ro4 ro5 ro6 ro7 ro8 ro9) :
    Ctr l Z [] (⟨"com/example/pathlatch/pathlatch/lock/LockModeIntentionPinLaw", "expected", "(I)Lcom/example/pathlatch/pathlatch/lock/LockMode;"⟩ : MethodName) method_3_code 1 (some (.object "com/example/pathlatch/pathlatch/lock/LockMode")) #[(.int (5 : Int32))] h0 ({ frames := 0, cells := 0, slots := 0, locals := 0 } : Room) (fun v h L => v = some (.ref ro3) ∧ Fr n0 L ∧ h = h0) := by
  refine Ctr.of (plainFor_of_name pn_com_example_pathlatch_pathlatch_lock_LockModeIntentionPinLaw) (fun m => ef_exp_5 m ro0 ro1 ro2 ro3 ro4 ro5 ro6 ro7 ro8 ro9) ?_
  intro p e s m below meth c T0 hx hZ hby hml hown hnm hret hlk X0 e0
  have N0 := Fr.nil n0
  show Rch p e below _ (T0.setTop (mkF m 0 #[.val (.int (5 : Int32))] []))
  refine Rch.go (fun t k => XS.iloadN X0.here hx rfl (hb hby d1_0) rfl  k) ?_
  show Rch p e below _ (T0.setTop (mkF m 1 #[.val (.int (5 : Int32))] [(.int (5 : Int32))]))
  refine Rch.go (fun t k => XS.ifNo X0.here hx rfl (hb hby d1_1) rfl (by decide) k) ?_
  show Rch p e below _ (T0.setTop (mkF m 4 #[.val (.int (5 : Int32))] []))
  refine Rch.go (fun t k => XS.iloadN X0.here hx rfl (hb hby d1_4) rfl  k) ?_
  show Rch p e below _ (T0.setTop (mkF m 5 #[.val (.int (5 : Int32))] [(.int (5 : Int32))]))
  refine Rch.go (fun t k => XS.iconst X0.here hx rfl (hb hby d1_5) k) ?_
  show Rch p e below _ (T0.setTop (mkF m 6 #[.val (.int (5 : Int32))] [(.int (1 : Int32)), (.int (5 : Int32))]))
  refine Rch.go (fun t k => XS.icmpNo X0.here hx rfl (hb hby d1_6) rfl (by decide) k) ?_
  show Rch p e below _ (T0.setTop (mkF m 9 #[.val (.int (5 : Int32))] []))
  refine Rch.go (fun t k => XS.iloadN X0.here hx rfl (hb hby d1_9) rfl  k) ?_
  show Rch p e below _ (T0.setTop (mkF m 10 #[.val (.int (5 : Int32))] [(.int (5 : Int32))]))
  refine Rch.go (fun t k => XS.bipush X0.here hx rfl (hb hby d1_10) k) ?_
  show Rch p e below _ (T0.setTop (mkF m 12 #[.val (.int (5 : Int32))] [(.int (8 : Int32)), (.int (5 : Int32))]))
  refine Rch.go (fun t k => XS.icmpYes X0.here hx rfl (pc0 := 12) (pc' := 19) rfl (hb hby d1_12) rfl (by decide) (by decide) (by decide) k) ?_
  show Rch p e below _ (T0.setTop (mkF m 19 #[.val (.int (5 : Int32))] []))
  obtain ⟨T1, X1, e1, st1⟩ := getS2 X0 hx hZ hown (host := "") (Or.inl (wd_25 hw)) Via.refl e0 (G.2.2.2.2.2.2.1.ext O0.2) (g := (mkF m 19 #[.val (.int (5 : Int32))] [])) rfl (hb hby d1_19)
  refine Rch.go st1 ?_
  show Rch p e below _ (T1.setTop (mkF m 22 #[.val (.int (5 : Int32))] [(.ref ro3)]))
  refine Rch.val X1 hx (t := (.object "com/example/pathlatch/pathlatch/lock/LockMode")) hret hlk rfl (Or.inr (Or.inr (Or.inr (Or.inr ⟨rfl, rfl, rfl⟩)))) (hb hby d1_22) (by decide) (by decide) ?_
  try rw [e1]
  exact ⟨rfl, N0, rfl⟩
theorem d0_53 : decode method_2_code 53 = .ok (.iload_n 0, 1) := by decide +kernel
theorem d0_54 : decode method_2_code 54 = .ok (.bipush 6, 2) := by decide +kernel
theorem d0_56 : decode method_2_code 56 = .ok (.if_icmp .ne 7, 3) := by decide +kernel
theorem d0_59 : decode method_2_code 59 = .ok (.getstatic 28, 3) := by decide +kernel
theorem wd_36 {Z : State} {a0 : Array Value} (hw : ∀ d ∈ tables_1, d.before a0 Z = true) : (Jvm.Cond.fieldLink "com/example/pathlatch/pathlatch/lock/LockModeIntentionPinLaw" (28 : Nat) "com/example/pathlatch/pathlatch/lock/LockMode" "REPLACE" "Lcom/example/pathlatch/pathlatch/lock/LockMode;").before a0 Z = true := hw _ (List.mem_of_getElem? (i := 36) rfl)
theorem d0_62 : decode method_2_code 62 = .ok (.areturn, 1) := by decide +kernel
theorem ef_pick_6 (m : MethodId) (ro0 : Addr) (ro1 : Addr) (ro2 : Addr) (ro3 : Addr) (ro4 : Addr) (ro5 : Addr) (ro6 : Addr) (ro7 : Addr) (ro8 : Addr) (ro9 : Addr) : entryFrame m #[(.int (6 : Int32))] 1 = mkF m 0 #[.val (.int (6 : Int32))] [] := by first | rfl | (simp [entryFrame, mkF, argsToLocals, Value.category]; done)
set_option maxRecDepth 65536 in
set_option maxHeartbeats 40000000 in
theorem pick_6 (l : Launch) (Z : State) (a0 : Array Value) (hw : ∀ d ∈ tables_1, d.before a0 Z = true) (ro0 : Addr) (ro1 : Addr) (ro2 : Addr) (ro3 : Addr) (ro4 : Addr) (ro5 : Addr) (ro6 : Addr) (ro7 : Addr) (ro8 : Addr) (ro9 : Addr) (h0 : Heap) (n0 : Nat) (Z0 : n0 ≤ h0.size) (O0 : Old Z n0 h0) (G : Olds Z ro0 ro1 ro2 ro3 ro4 ro5 ro6 ro7 ro8 ro9) :
    Ctr l Z [] (⟨"com/example/pathlatch/pathlatch/lock/LockModeIntentionPinLaw", "pick", "(I)Lcom/example/pathlatch/pathlatch/lock/LockMode;"⟩ : MethodName) method_2_code 1 (some (.object "com/example/pathlatch/pathlatch/lock/LockMode")) #[(.int (6 : Int32))] h0 ({ frames := 0, cells := 0, slots := 0, locals := 0 } : Room) (fun v h L => v = some (.ref ro9) ∧ Fr n0 L ∧ h = h0) := by
  refine Ctr.of (plainFor_of_name pn_com_example_pathlatch_pathlatch_lock_LockModeIntentionPinLaw) (fun m => ef_pick_6 m ro0 ro1 ro2 ro3 ro4 ro5 ro6 ro7 ro8 ro9) ?_
  intro p e s m below meth c T0 hx hZ hby hml hown hnm hret hlk X0 e0
  have N0 := Fr.nil n0
  show Rch p e below _ (T0.setTop (mkF m 0 #[.val (.int (6 : Int32))] []))
  refine Rch.go (fun t k => XS.iloadN X0.here hx rfl (hb hby d0_0) rfl  k) ?_
  show Rch p e below _ (T0.setTop (mkF m 1 #[.val (.int (6 : Int32))] [(.int (6 : Int32))]))
  refine Rch.go (fun t k => XS.ifYes X0.here hx rfl (pc0 := 1) (pc' := 8) rfl (hb hby d0_1) rfl (by decide) (by decide) (by decide) k) ?_
  show Rch p e below _ (T0.setTop (mkF m 8 #[.val (.int (6 : Int32))] []))
  refine Rch.go (fun t k => XS.iloadN X0.here hx rfl (hb hby d0_8) rfl  k) ?_
  show Rch p e below _ (T0.setTop (mkF m 9 #[.val (.int (6 : Int32))] [(.int (6 : Int32))]))
  refine Rch.go (fun t k => XS.iconst X0.here hx rfl (hb hby d0_9) k) ?_
  show Rch p e below _ (T0.setTop (mkF m 10 #[.val (.int (6 : Int32))] [(.int (1 : Int32)), (.int (6 : Int32))]))
  refine Rch.go (fun t k => XS.icmpYes X0.here hx rfl (pc0 := 10) (pc' := 17) rfl (hb hby d0_10) rfl (by decide) (by decide) (by decide) k) ?_
  show Rch p e below _ (T0.setTop (mkF m 17 #[.val (.int (6 : Int32))] []))
  refine Rch.go (fun t k => XS.iloadN X0.here hx rfl (hb hby d0_17) rfl  k) ?_
  show Rch p e below _ (T0.setTop (mkF m 18 #[.val (.int (6 : Int32))] [(.int (6 : Int32))]))
  refine Rch.go (fun t k => XS.iconst X0.here hx rfl (hb hby d0_18) k) ?_
  show Rch p e below _ (T0.setTop (mkF m 19 #[.val (.int (6 : Int32))] [(.int (2 : Int32)), (.int (6 : Int32))]))
  refine Rch.go (fun t k => XS.icmpYes X0.here hx rfl (pc0 := 19) (pc' := 26) rfl (hb hby d0_19) rfl (by decide) (by decide) (by decide) k) ?_
  show Rch p e below _ (T0.setTop (mkF m 26 #[.val (.int (6 : Int32))] []))
  refine Rch.go (fun t k => XS.iloadN X0.here hx rfl (hb hby d0_26) rfl  k) ?_
  show Rch p e below _ (T0.setTop (mkF m 27 #[.val (.int (6 : Int32))] [(.int (6 : Int32))]))
  refine Rch.go (fun t k => XS.iconst X0.here hx rfl (hb hby d0_27) k) ?_
  show Rch p e below _ (T0.setTop (mkF m 28 #[.val (.int (6 : Int32))] [(.int (3 : Int32)), (.int (6 : Int32))]))
  refine Rch.go (fun t k => XS.icmpYes X0.here hx rfl (pc0 := 28) (pc' := 35) rfl (hb hby d0_28) rfl (by decide) (by decide) (by decide) k) ?_
  show Rch p e below _ (T0.setTop (mkF m 35 #[.val (.int (6 : Int32))] []))
  refine Rch.go (fun t k => XS.iloadN X0.here hx rfl (hb hby d0_35) rfl  k) ?_
  show Rch p e below _ (T0.setTop (mkF m 36 #[.val (.int (6 : Int32))] [(.int (6 : Int32))]))
  refine Rch.go (fun t k => XS.iconst X0.here hx rfl (hb hby d0_36) k) ?_
  show Rch p e below _ (T0.setTop (mkF m 37 #[.val (.int (6 : Int32))] [(.int (4 : Int32)), (.int (6 : Int32))]))
  refine Rch.go (fun t k => XS.icmpYes X0.here hx rfl (pc0 := 37) (pc' := 44) rfl (hb hby d0_37) rfl (by decide) (by decide) (by decide) k) ?_
  show Rch p e below _ (T0.setTop (mkF m 44 #[.val (.int (6 : Int32))] []))
  refine Rch.go (fun t k => XS.iloadN X0.here hx rfl (hb hby d0_44) rfl  k) ?_
  show Rch p e below _ (T0.setTop (mkF m 45 #[.val (.int (6 : Int32))] [(.int (6 : Int32))]))
  refine Rch.go (fun t k => XS.iconst X0.here hx rfl (hb hby d0_45) k) ?_
  show Rch p e below _ (T0.setTop (mkF m 46 #[.val (.int (6 : Int32))] [(.int (5 : Int32)), (.int (6 : Int32))]))
  refine Rch.go (fun t k => XS.icmpYes X0.here hx rfl (pc0 := 46) (pc' := 53) rfl (hb hby d0_46) rfl (by decide) (by decide) (by decide) k) ?_
  show Rch p e below _ (T0.setTop (mkF m 53 #[.val (.int (6 : Int32))] []))
  refine Rch.go (fun t k => XS.iloadN X0.here hx rfl (hb hby d0_53) rfl  k) ?_
  show Rch p e below _ (T0.setTop (mkF m 54 #[.val (.int (6 : Int32))] [(.int (6 : Int32))]))
  refine Rch.go (fun t k => XS.bipush X0.here hx rfl (hb hby d0_54) k) ?_
  show Rch p e below _ (T0.setTop (mkF m 56 #[.val (.int (6 : Int32))] [(.int (6 : Int32)), (.int (6 : Int32))]))
  refine Rch.go (fun t k => XS.icmpNo X0.here hx rfl (hb hby d0_56) rfl (by decide) k) ?_
  show Rch p e below _ (T0.setTop (mkF m 59 #[.val (.int (6 : Int32))] []))
  obtain ⟨T1, X1, e1, st1⟩ := getS2 X0 hx hZ hown (host := "") (Or.inl (wd_36 hw)) Via.refl e0 (G.2.2.2.2.2.2.2.2.2.2.2.2.2.2.2.2.2.2.1.ext O0.2) (g := (mkF m 59 #[.val (.int (6 : Int32))] [])) rfl (hb hby d0_59)
  refine Rch.go st1 ?_
  show Rch p e below _ (T1.setTop (mkF m 62 #[.val (.int (6 : Int32))] [(.ref ro9)]))
  refine Rch.val X1 hx (t := (.object "com/example/pathlatch/pathlatch/lock/LockMode")) hret hlk rfl (Or.inr (Or.inr (Or.inr (Or.inr ⟨rfl, rfl, rfl⟩)))) (hb hby d0_62) (by decide) (by decide) ?_
  try rw [e1]
  exact ⟨rfl, N0, rfl⟩
theorem ef_exp_6 (m : MethodId) (ro0 : Addr) (ro1 : Addr) (ro2 : Addr) (ro3 : Addr) (ro4 : Addr) (ro5 : Addr) (ro6 : Addr) (ro7 : Addr) (ro8 : Addr) (ro9 : Addr) : entryFrame m #[(.int (6 : Int32))] 1 = mkF m 0 #[.val (.int (6 : Int32))] [] := by first | rfl | (simp [entryFrame, mkF, argsToLocals, Value.category]; done)
set_option maxRecDepth 65536 in
set_option maxHeartbeats 40000000 in
theorem exp_6 (l : Launch) (Z : State) (a0 : Array Value) (hw : ∀ d ∈ tables_1, d.before a0 Z = true) (ro0 : Addr) (ro1 : Addr) (ro2 : Addr) (ro3 : Addr) (ro4 : Addr) (ro5 : Addr) (ro6 : Addr) (ro7 : Addr) (ro8 : Addr) (ro9 : Addr) (h0 : Heap) (n0 : Nat) (Z0 : n0 ≤ h0.size) (O0 : Old Z n0 h0) (G : Olds Z ro0 ro1 ro2 ro3 ro4 ro5 ro6 ro7 ro8 ro9) :
    Ctr l Z [] (⟨"com/example/pathlatch/pathlatch/lock/LockModeIntentionPinLaw", "expected", "(I)Lcom/example/pathlatch/pathlatch/lock/LockMode;"⟩ : MethodName) method_3_code 1 (some (.object "com/example/pathlatch/pathlatch/lock/LockMode")) #[(.int (6 : Int32))] h0 ({ frames := 0, cells := 0, slots := 0, locals := 0 } : Room) (fun v h L => v = some (.ref ro3) ∧ Fr n0 L ∧ h = h0) := by
  refine Ctr.of (plainFor_of_name pn_com_example_pathlatch_pathlatch_lock_LockModeIntentionPinLaw) (fun m => ef_exp_6 m ro0 ro1 ro2 ro3 ro4 ro5 ro6 ro7 ro8 ro9) ?_
  intro p e s m below meth c T0 hx hZ hby hml hown hnm hret hlk X0 e0
  have N0 := Fr.nil n0
  show Rch p e below _ (T0.setTop (mkF m 0 #[.val (.int (6 : Int32))] []))
  refine Rch.go (fun t k => XS.iloadN X0.here hx rfl (hb hby d1_0) rfl  k) ?_
  show Rch p e below _ (T0.setTop (mkF m 1 #[.val (.int (6 : Int32))] [(.int (6 : Int32))]))
  refine Rch.go (fun t k => XS.ifNo X0.here hx rfl (hb hby d1_1) rfl (by decide) k) ?_
  show Rch p e below _ (T0.setTop (mkF m 4 #[.val (.int (6 : Int32))] []))
  refine Rch.go (fun t k => XS.iloadN X0.here hx rfl (hb hby d1_4) rfl  k) ?_
  show Rch p e below _ (T0.setTop (mkF m 5 #[.val (.int (6 : Int32))] [(.int (6 : Int32))]))
  refine Rch.go (fun t k => XS.iconst X0.here hx rfl (hb hby d1_5) k) ?_
  show Rch p e below _ (T0.setTop (mkF m 6 #[.val (.int (6 : Int32))] [(.int (1 : Int32)), (.int (6 : Int32))]))
  refine Rch.go (fun t k => XS.icmpNo X0.here hx rfl (hb hby d1_6) rfl (by decide) k) ?_
  show Rch p e below _ (T0.setTop (mkF m 9 #[.val (.int (6 : Int32))] []))
  refine Rch.go (fun t k => XS.iloadN X0.here hx rfl (hb hby d1_9) rfl  k) ?_
  show Rch p e below _ (T0.setTop (mkF m 10 #[.val (.int (6 : Int32))] [(.int (6 : Int32))]))
  refine Rch.go (fun t k => XS.bipush X0.here hx rfl (hb hby d1_10) k) ?_
  show Rch p e below _ (T0.setTop (mkF m 12 #[.val (.int (6 : Int32))] [(.int (8 : Int32)), (.int (6 : Int32))]))
  refine Rch.go (fun t k => XS.icmpYes X0.here hx rfl (pc0 := 12) (pc' := 19) rfl (hb hby d1_12) rfl (by decide) (by decide) (by decide) k) ?_
  show Rch p e below _ (T0.setTop (mkF m 19 #[.val (.int (6 : Int32))] []))
  obtain ⟨T1, X1, e1, st1⟩ := getS2 X0 hx hZ hown (host := "") (Or.inl (wd_25 hw)) Via.refl e0 (G.2.2.2.2.2.2.1.ext O0.2) (g := (mkF m 19 #[.val (.int (6 : Int32))] [])) rfl (hb hby d1_19)
  refine Rch.go st1 ?_
  show Rch p e below _ (T1.setTop (mkF m 22 #[.val (.int (6 : Int32))] [(.ref ro3)]))
  refine Rch.val X1 hx (t := (.object "com/example/pathlatch/pathlatch/lock/LockMode")) hret hlk rfl (Or.inr (Or.inr (Or.inr (Or.inr ⟨rfl, rfl, rfl⟩)))) (hb hby d1_22) (by decide) (by decide) ?_
  try rw [e1]
  exact ⟨rfl, N0, rfl⟩
theorem d0_63 : decode method_2_code 63 = .ok (.iload_n 0, 1) := by decide +kernel
theorem d0_64 : decode method_2_code 64 = .ok (.bipush 7, 2) := by decide +kernel
theorem d0_66 : decode method_2_code 66 = .ok (.if_icmp .ne 7, 3) := by decide +kernel
theorem d0_69 : decode method_2_code 69 = .ok (.getstatic 31, 3) := by decide +kernel
theorem wd_30 {Z : State} {a0 : Array Value} (hw : ∀ d ∈ tables_1, d.before a0 Z = true) : (Jvm.Cond.fieldLink "com/example/pathlatch/pathlatch/lock/LockModeIntentionPinLaw" (31 : Nat) "com/example/pathlatch/pathlatch/lock/LockMode" "DELETE" "Lcom/example/pathlatch/pathlatch/lock/LockMode;").before a0 Z = true := hw _ (List.mem_of_getElem? (i := 30) rfl)
theorem d0_72 : decode method_2_code 72 = .ok (.areturn, 1) := by decide +kernel
theorem ef_pick_7 (m : MethodId) (ro0 : Addr) (ro1 : Addr) (ro2 : Addr) (ro3 : Addr) (ro4 : Addr) (ro5 : Addr) (ro6 : Addr) (ro7 : Addr) (ro8 : Addr) (ro9 : Addr) : entryFrame m #[(.int (7 : Int32))] 1 = mkF m 0 #[.val (.int (7 : Int32))] [] := by first | rfl | (simp [entryFrame, mkF, argsToLocals, Value.category]; done)
set_option maxRecDepth 65536 in
set_option maxHeartbeats 40000000 in
theorem pick_7 (l : Launch) (Z : State) (a0 : Array Value) (hw : ∀ d ∈ tables_1, d.before a0 Z = true) (ro0 : Addr) (ro1 : Addr) (ro2 : Addr) (ro3 : Addr) (ro4 : Addr) (ro5 : Addr) (ro6 : Addr) (ro7 : Addr) (ro8 : Addr) (ro9 : Addr) (h0 : Heap) (n0 : Nat) (Z0 : n0 ≤ h0.size) (O0 : Old Z n0 h0) (G : Olds Z ro0 ro1 ro2 ro3 ro4 ro5 ro6 ro7 ro8 ro9) :
    Ctr l Z [] (⟨"com/example/pathlatch/pathlatch/lock/LockModeIntentionPinLaw", "pick", "(I)Lcom/example/pathlatch/pathlatch/lock/LockMode;"⟩ : MethodName) method_2_code 1 (some (.object "com/example/pathlatch/pathlatch/lock/LockMode")) #[(.int (7 : Int32))] h0 ({ frames := 0, cells := 0, slots := 0, locals := 0 } : Room) (fun v h L => v = some (.ref ro6) ∧ Fr n0 L ∧ h = h0) := by
  refine Ctr.of (plainFor_of_name pn_com_example_pathlatch_pathlatch_lock_LockModeIntentionPinLaw) (fun m => ef_pick_7 m ro0 ro1 ro2 ro3 ro4 ro5 ro6 ro7 ro8 ro9) ?_
  intro p e s m below meth c T0 hx hZ hby hml hown hnm hret hlk X0 e0
  have N0 := Fr.nil n0
  show Rch p e below _ (T0.setTop (mkF m 0 #[.val (.int (7 : Int32))] []))
  refine Rch.go (fun t k => XS.iloadN X0.here hx rfl (hb hby d0_0) rfl  k) ?_
  show Rch p e below _ (T0.setTop (mkF m 1 #[.val (.int (7 : Int32))] [(.int (7 : Int32))]))
  refine Rch.go (fun t k => XS.ifYes X0.here hx rfl (pc0 := 1) (pc' := 8) rfl (hb hby d0_1) rfl (by decide) (by decide) (by decide) k) ?_
  show Rch p e below _ (T0.setTop (mkF m 8 #[.val (.int (7 : Int32))] []))
  refine Rch.go (fun t k => XS.iloadN X0.here hx rfl (hb hby d0_8) rfl  k) ?_
  show Rch p e below _ (T0.setTop (mkF m 9 #[.val (.int (7 : Int32))] [(.int (7 : Int32))]))
  refine Rch.go (fun t k => XS.iconst X0.here hx rfl (hb hby d0_9) k) ?_
  show Rch p e below _ (T0.setTop (mkF m 10 #[.val (.int (7 : Int32))] [(.int (1 : Int32)), (.int (7 : Int32))]))
  refine Rch.go (fun t k => XS.icmpYes X0.here hx rfl (pc0 := 10) (pc' := 17) rfl (hb hby d0_10) rfl (by decide) (by decide) (by decide) k) ?_
  show Rch p e below _ (T0.setTop (mkF m 17 #[.val (.int (7 : Int32))] []))
  refine Rch.go (fun t k => XS.iloadN X0.here hx rfl (hb hby d0_17) rfl  k) ?_
  show Rch p e below _ (T0.setTop (mkF m 18 #[.val (.int (7 : Int32))] [(.int (7 : Int32))]))
  refine Rch.go (fun t k => XS.iconst X0.here hx rfl (hb hby d0_18) k) ?_
  show Rch p e below _ (T0.setTop (mkF m 19 #[.val (.int (7 : Int32))] [(.int (2 : Int32)), (.int (7 : Int32))]))
  refine Rch.go (fun t k => XS.icmpYes X0.here hx rfl (pc0 := 19) (pc' := 26) rfl (hb hby d0_19) rfl (by decide) (by decide) (by decide) k) ?_
  show Rch p e below _ (T0.setTop (mkF m 26 #[.val (.int (7 : Int32))] []))
  refine Rch.go (fun t k => XS.iloadN X0.here hx rfl (hb hby d0_26) rfl  k) ?_
  show Rch p e below _ (T0.setTop (mkF m 27 #[.val (.int (7 : Int32))] [(.int (7 : Int32))]))
  refine Rch.go (fun t k => XS.iconst X0.here hx rfl (hb hby d0_27) k) ?_
  show Rch p e below _ (T0.setTop (mkF m 28 #[.val (.int (7 : Int32))] [(.int (3 : Int32)), (.int (7 : Int32))]))
  refine Rch.go (fun t k => XS.icmpYes X0.here hx rfl (pc0 := 28) (pc' := 35) rfl (hb hby d0_28) rfl (by decide) (by decide) (by decide) k) ?_
  show Rch p e below _ (T0.setTop (mkF m 35 #[.val (.int (7 : Int32))] []))
  refine Rch.go (fun t k => XS.iloadN X0.here hx rfl (hb hby d0_35) rfl  k) ?_
  show Rch p e below _ (T0.setTop (mkF m 36 #[.val (.int (7 : Int32))] [(.int (7 : Int32))]))
  refine Rch.go (fun t k => XS.iconst X0.here hx rfl (hb hby d0_36) k) ?_
  show Rch p e below _ (T0.setTop (mkF m 37 #[.val (.int (7 : Int32))] [(.int (4 : Int32)), (.int (7 : Int32))]))
  refine Rch.go (fun t k => XS.icmpYes X0.here hx rfl (pc0 := 37) (pc' := 44) rfl (hb hby d0_37) rfl (by decide) (by decide) (by decide) k) ?_
  show Rch p e below _ (T0.setTop (mkF m 44 #[.val (.int (7 : Int32))] []))
  refine Rch.go (fun t k => XS.iloadN X0.here hx rfl (hb hby d0_44) rfl  k) ?_
  show Rch p e below _ (T0.setTop (mkF m 45 #[.val (.int (7 : Int32))] [(.int (7 : Int32))]))
  refine Rch.go (fun t k => XS.iconst X0.here hx rfl (hb hby d0_45) k) ?_
  show Rch p e below _ (T0.setTop (mkF m 46 #[.val (.int (7 : Int32))] [(.int (5 : Int32)), (.int (7 : Int32))]))
  refine Rch.go (fun t k => XS.icmpYes X0.here hx rfl (pc0 := 46) (pc' := 53) rfl (hb hby d0_46) rfl (by decide) (by decide) (by decide) k) ?_
  show Rch p e below _ (T0.setTop (mkF m 53 #[.val (.int (7 : Int32))] []))
  refine Rch.go (fun t k => XS.iloadN X0.here hx rfl (hb hby d0_53) rfl  k) ?_
  show Rch p e below _ (T0.setTop (mkF m 54 #[.val (.int (7 : Int32))] [(.int (7 : Int32))]))
  refine Rch.go (fun t k => XS.bipush X0.here hx rfl (hb hby d0_54) k) ?_
  show Rch p e below _ (T0.setTop (mkF m 56 #[.val (.int (7 : Int32))] [(.int (6 : Int32)), (.int (7 : Int32))]))
  refine Rch.go (fun t k => XS.icmpYes X0.here hx rfl (pc0 := 56) (pc' := 63) rfl (hb hby d0_56) rfl (by decide) (by decide) (by decide) k) ?_
  show Rch p e below _ (T0.setTop (mkF m 63 #[.val (.int (7 : Int32))] []))
  refine Rch.go (fun t k => XS.iloadN X0.here hx rfl (hb hby d0_63) rfl  k) ?_
  show Rch p e below _ (T0.setTop (mkF m 64 #[.val (.int (7 : Int32))] [(.int (7 : Int32))]))
  refine Rch.go (fun t k => XS.bipush X0.here hx rfl (hb hby d0_64) k) ?_
  show Rch p e below _ (T0.setTop (mkF m 66 #[.val (.int (7 : Int32))] [(.int (7 : Int32)), (.int (7 : Int32))]))
  refine Rch.go (fun t k => XS.icmpNo X0.here hx rfl (hb hby d0_66) rfl (by decide) k) ?_
  show Rch p e below _ (T0.setTop (mkF m 69 #[.val (.int (7 : Int32))] []))
  obtain ⟨T1, X1, e1, st1⟩ := getS2 X0 hx hZ hown (host := "") (Or.inl (wd_30 hw)) Via.refl e0 (G.2.2.2.2.2.2.2.2.2.2.2.2.1.ext O0.2) (g := (mkF m 69 #[.val (.int (7 : Int32))] [])) rfl (hb hby d0_69)
  refine Rch.go st1 ?_
  show Rch p e below _ (T1.setTop (mkF m 72 #[.val (.int (7 : Int32))] [(.ref ro6)]))
  refine Rch.val X1 hx (t := (.object "com/example/pathlatch/pathlatch/lock/LockMode")) hret hlk rfl (Or.inr (Or.inr (Or.inr (Or.inr ⟨rfl, rfl, rfl⟩)))) (hb hby d0_72) (by decide) (by decide) ?_
  try rw [e1]
  exact ⟨rfl, N0, rfl⟩
theorem ef_exp_7 (m : MethodId) (ro0 : Addr) (ro1 : Addr) (ro2 : Addr) (ro3 : Addr) (ro4 : Addr) (ro5 : Addr) (ro6 : Addr) (ro7 : Addr) (ro8 : Addr) (ro9 : Addr) : entryFrame m #[(.int (7 : Int32))] 1 = mkF m 0 #[.val (.int (7 : Int32))] [] := by first | rfl | (simp [entryFrame, mkF, argsToLocals, Value.category]; done)
set_option maxRecDepth 65536 in
set_option maxHeartbeats 40000000 in
theorem exp_7 (l : Launch) (Z : State) (a0 : Array Value) (hw : ∀ d ∈ tables_1, d.before a0 Z = true) (ro0 : Addr) (ro1 : Addr) (ro2 : Addr) (ro3 : Addr) (ro4 : Addr) (ro5 : Addr) (ro6 : Addr) (ro7 : Addr) (ro8 : Addr) (ro9 : Addr) (h0 : Heap) (n0 : Nat) (Z0 : n0 ≤ h0.size) (O0 : Old Z n0 h0) (G : Olds Z ro0 ro1 ro2 ro3 ro4 ro5 ro6 ro7 ro8 ro9) :
    Ctr l Z [] (⟨"com/example/pathlatch/pathlatch/lock/LockModeIntentionPinLaw", "expected", "(I)Lcom/example/pathlatch/pathlatch/lock/LockMode;"⟩ : MethodName) method_3_code 1 (some (.object "com/example/pathlatch/pathlatch/lock/LockMode")) #[(.int (7 : Int32))] h0 ({ frames := 0, cells := 0, slots := 0, locals := 0 } : Room) (fun v h L => v = some (.ref ro3) ∧ Fr n0 L ∧ h = h0) := by
  refine Ctr.of (plainFor_of_name pn_com_example_pathlatch_pathlatch_lock_LockModeIntentionPinLaw) (fun m => ef_exp_7 m ro0 ro1 ro2 ro3 ro4 ro5 ro6 ro7 ro8 ro9) ?_
  intro p e s m below meth c T0 hx hZ hby hml hown hnm hret hlk X0 e0
  have N0 := Fr.nil n0
  show Rch p e below _ (T0.setTop (mkF m 0 #[.val (.int (7 : Int32))] []))
  refine Rch.go (fun t k => XS.iloadN X0.here hx rfl (hb hby d1_0) rfl  k) ?_
  show Rch p e below _ (T0.setTop (mkF m 1 #[.val (.int (7 : Int32))] [(.int (7 : Int32))]))
  refine Rch.go (fun t k => XS.ifNo X0.here hx rfl (hb hby d1_1) rfl (by decide) k) ?_
  show Rch p e below _ (T0.setTop (mkF m 4 #[.val (.int (7 : Int32))] []))
  refine Rch.go (fun t k => XS.iloadN X0.here hx rfl (hb hby d1_4) rfl  k) ?_
  show Rch p e below _ (T0.setTop (mkF m 5 #[.val (.int (7 : Int32))] [(.int (7 : Int32))]))
  refine Rch.go (fun t k => XS.iconst X0.here hx rfl (hb hby d1_5) k) ?_
  show Rch p e below _ (T0.setTop (mkF m 6 #[.val (.int (7 : Int32))] [(.int (1 : Int32)), (.int (7 : Int32))]))
  refine Rch.go (fun t k => XS.icmpNo X0.here hx rfl (hb hby d1_6) rfl (by decide) k) ?_
  show Rch p e below _ (T0.setTop (mkF m 9 #[.val (.int (7 : Int32))] []))
  refine Rch.go (fun t k => XS.iloadN X0.here hx rfl (hb hby d1_9) rfl  k) ?_
  show Rch p e below _ (T0.setTop (mkF m 10 #[.val (.int (7 : Int32))] [(.int (7 : Int32))]))
  refine Rch.go (fun t k => XS.bipush X0.here hx rfl (hb hby d1_10) k) ?_
  show Rch p e below _ (T0.setTop (mkF m 12 #[.val (.int (7 : Int32))] [(.int (8 : Int32)), (.int (7 : Int32))]))
  refine Rch.go (fun t k => XS.icmpYes X0.here hx rfl (pc0 := 12) (pc' := 19) rfl (hb hby d1_12) rfl (by decide) (by decide) (by decide) k) ?_
  show Rch p e below _ (T0.setTop (mkF m 19 #[.val (.int (7 : Int32))] []))
  obtain ⟨T1, X1, e1, st1⟩ := getS2 X0 hx hZ hown (host := "") (Or.inl (wd_25 hw)) Via.refl e0 (G.2.2.2.2.2.2.1.ext O0.2) (g := (mkF m 19 #[.val (.int (7 : Int32))] [])) rfl (hb hby d1_19)
  refine Rch.go st1 ?_
  show Rch p e below _ (T1.setTop (mkF m 22 #[.val (.int (7 : Int32))] [(.ref ro3)]))
  refine Rch.val X1 hx (t := (.object "com/example/pathlatch/pathlatch/lock/LockMode")) hret hlk rfl (Or.inr (Or.inr (Or.inr (Or.inr ⟨rfl, rfl, rfl⟩)))) (hb hby d1_22) (by decide) (by decide) ?_
  try rw [e1]
  exact ⟨rfl, N0, rfl⟩
theorem d0_73 : decode method_2_code 73 = .ok (.iload_n 0, 1) := by decide +kernel
theorem d0_74 : decode method_2_code 74 = .ok (.bipush 8, 2) := by decide +kernel
theorem d0_76 : decode method_2_code 76 = .ok (.if_icmp .ne 7, 3) := by decide +kernel
theorem d0_79 : decode method_2_code 79 = .ok (.getstatic 34, 3) := by decide +kernel
theorem d0_82 : decode method_2_code 82 = .ok (.areturn, 1) := by decide +kernel
theorem ef_pick_8 (m : MethodId) (ro0 : Addr) (ro1 : Addr) (ro2 : Addr) (ro3 : Addr) (ro4 : Addr) (ro5 : Addr) (ro6 : Addr) (ro7 : Addr) (ro8 : Addr) (ro9 : Addr) : entryFrame m #[(.int (8 : Int32))] 1 = mkF m 0 #[.val (.int (8 : Int32))] [] := by first | rfl | (simp [entryFrame, mkF, argsToLocals, Value.category]; done)
set_option maxRecDepth 65536 in
set_option maxHeartbeats 40000000 in
theorem pick_8 (l : Launch) (Z : State) (a0 : Array Value) (hw : ∀ d ∈ tables_1, d.before a0 Z = true) (ro0 : Addr) (ro1 : Addr) (ro2 : Addr) (ro3 : Addr) (ro4 : Addr) (ro5 : Addr) (ro6 : Addr) (ro7 : Addr) (ro8 : Addr) (ro9 : Addr) (h0 : Heap) (n0 : Nat) (Z0 : n0 ≤ h0.size) (O0 : Old Z n0 h0) (G : Olds Z ro0 ro1 ro2 ro3 ro4 ro5 ro6 ro7 ro8 ro9) :
    Ctr l Z [] (⟨"com/example/pathlatch/pathlatch/lock/LockModeIntentionPinLaw", "pick", "(I)Lcom/example/pathlatch/pathlatch/lock/LockMode;"⟩ : MethodName) method_2_code 1 (some (.object "com/example/pathlatch/pathlatch/lock/LockMode")) #[(.int (8 : Int32))] h0 ({ frames := 0, cells := 0, slots := 0, locals := 0 } : Room) (fun v h L => v = some (.ref ro1) ∧ Fr n0 L ∧ h = h0) := by
  refine Ctr.of (plainFor_of_name pn_com_example_pathlatch_pathlatch_lock_LockModeIntentionPinLaw) (fun m => ef_pick_8 m ro0 ro1 ro2 ro3 ro4 ro5 ro6 ro7 ro8 ro9) ?_
  intro p e s m below meth c T0 hx hZ hby hml hown hnm hret hlk X0 e0
  have N0 := Fr.nil n0
  show Rch p e below _ (T0.setTop (mkF m 0 #[.val (.int (8 : Int32))] []))
  refine Rch.go (fun t k => XS.iloadN X0.here hx rfl (hb hby d0_0) rfl  k) ?_
  show Rch p e below _ (T0.setTop (mkF m 1 #[.val (.int (8 : Int32))] [(.int (8 : Int32))]))
  refine Rch.go (fun t k => XS.ifYes X0.here hx rfl (pc0 := 1) (pc' := 8) rfl (hb hby d0_1) rfl (by decide) (by decide) (by decide) k) ?_
  show Rch p e below _ (T0.setTop (mkF m 8 #[.val (.int (8 : Int32))] []))
  refine Rch.go (fun t k => XS.iloadN X0.here hx rfl (hb hby d0_8) rfl  k) ?_
  show Rch p e below _ (T0.setTop (mkF m 9 #[.val (.int (8 : Int32))] [(.int (8 : Int32))]))
  refine Rch.go (fun t k => XS.iconst X0.here hx rfl (hb hby d0_9) k) ?_
  show Rch p e below _ (T0.setTop (mkF m 10 #[.val (.int (8 : Int32))] [(.int (1 : Int32)), (.int (8 : Int32))]))
  refine Rch.go (fun t k => XS.icmpYes X0.here hx rfl (pc0 := 10) (pc' := 17) rfl (hb hby d0_10) rfl (by decide) (by decide) (by decide) k) ?_
  show Rch p e below _ (T0.setTop (mkF m 17 #[.val (.int (8 : Int32))] []))
  refine Rch.go (fun t k => XS.iloadN X0.here hx rfl (hb hby d0_17) rfl  k) ?_
  show Rch p e below _ (T0.setTop (mkF m 18 #[.val (.int (8 : Int32))] [(.int (8 : Int32))]))
  refine Rch.go (fun t k => XS.iconst X0.here hx rfl (hb hby d0_18) k) ?_
  show Rch p e below _ (T0.setTop (mkF m 19 #[.val (.int (8 : Int32))] [(.int (2 : Int32)), (.int (8 : Int32))]))
  refine Rch.go (fun t k => XS.icmpYes X0.here hx rfl (pc0 := 19) (pc' := 26) rfl (hb hby d0_19) rfl (by decide) (by decide) (by decide) k) ?_
  show Rch p e below _ (T0.setTop (mkF m 26 #[.val (.int (8 : Int32))] []))
  refine Rch.go (fun t k => XS.iloadN X0.here hx rfl (hb hby d0_26) rfl  k) ?_
  show Rch p e below _ (T0.setTop (mkF m 27 #[.val (.int (8 : Int32))] [(.int (8 : Int32))]))
  refine Rch.go (fun t k => XS.iconst X0.here hx rfl (hb hby d0_27) k) ?_
  show Rch p e below _ (T0.setTop (mkF m 28 #[.val (.int (8 : Int32))] [(.int (3 : Int32)), (.int (8 : Int32))]))
  refine Rch.go (fun t k => XS.icmpYes X0.here hx rfl (pc0 := 28) (pc' := 35) rfl (hb hby d0_28) rfl (by decide) (by decide) (by decide) k) ?_
  show Rch p e below _ (T0.setTop (mkF m 35 #[.val (.int (8 : Int32))] []))
  refine Rch.go (fun t k => XS.iloadN X0.here hx rfl (hb hby d0_35) rfl  k) ?_
  show Rch p e below _ (T0.setTop (mkF m 36 #[.val (.int (8 : Int32))] [(.int (8 : Int32))]))
  refine Rch.go (fun t k => XS.iconst X0.here hx rfl (hb hby d0_36) k) ?_
  show Rch p e below _ (T0.setTop (mkF m 37 #[.val (.int (8 : Int32))] [(.int (4 : Int32)), (.int (8 : Int32))]))
  refine Rch.go (fun t k => XS.icmpYes X0.here hx rfl (pc0 := 37) (pc' := 44) rfl (hb hby d0_37) rfl (by decide) (by decide) (by decide) k) ?_
  show Rch p e below _ (T0.setTop (mkF m 44 #[.val (.int (8 : Int32))] []))
  refine Rch.go (fun t k => XS.iloadN X0.here hx rfl (hb hby d0_44) rfl  k) ?_
  show Rch p e below _ (T0.setTop (mkF m 45 #[.val (.int (8 : Int32))] [(.int (8 : Int32))]))
  refine Rch.go (fun t k => XS.iconst X0.here hx rfl (hb hby d0_45) k) ?_
  show Rch p e below _ (T0.setTop (mkF m 46 #[.val (.int (8 : Int32))] [(.int (5 : Int32)), (.int (8 : Int32))]))
  refine Rch.go (fun t k => XS.icmpYes X0.here hx rfl (pc0 := 46) (pc' := 53) rfl (hb hby d0_46) rfl (by decide) (by decide) (by decide) k) ?_
  show Rch p e below _ (T0.setTop (mkF m 53 #[.val (.int (8 : Int32))] []))
  refine Rch.go (fun t k => XS.iloadN X0.here hx rfl (hb hby d0_53) rfl  k) ?_
  show Rch p e below _ (T0.setTop (mkF m 54 #[.val (.int (8 : Int32))] [(.int (8 : Int32))]))
  refine Rch.go (fun t k => XS.bipush X0.here hx rfl (hb hby d0_54) k) ?_
  show Rch p e below _ (T0.setTop (mkF m 56 #[.val (.int (8 : Int32))] [(.int (6 : Int32)), (.int (8 : Int32))]))
  refine Rch.go (fun t k => XS.icmpYes X0.here hx rfl (pc0 := 56) (pc' := 63) rfl (hb hby d0_56) rfl (by decide) (by decide) (by decide) k) ?_
  show Rch p e below _ (T0.setTop (mkF m 63 #[.val (.int (8 : Int32))] []))
  refine Rch.go (fun t k => XS.iloadN X0.here hx rfl (hb hby d0_63) rfl  k) ?_
  show Rch p e below _ (T0.setTop (mkF m 64 #[.val (.int (8 : Int32))] [(.int (8 : Int32))]))
  refine Rch.go (fun t k => XS.bipush X0.here hx rfl (hb hby d0_64) k) ?_
  show Rch p e below _ (T0.setTop (mkF m 66 #[.val (.int (8 : Int32))] [(.int (7 : Int32)), (.int (8 : Int32))]))
  refine Rch.go (fun t k => XS.icmpYes X0.here hx rfl (pc0 := 66) (pc' := 73) rfl (hb hby d0_66) rfl (by decide) (by decide) (by decide) k) ?_
  show Rch p e below _ (T0.setTop (mkF m 73 #[.val (.int (8 : Int32))] []))
  refine Rch.go (fun t k => XS.iloadN X0.here hx rfl (hb hby d0_73) rfl  k) ?_
  show Rch p e below _ (T0.setTop (mkF m 74 #[.val (.int (8 : Int32))] [(.int (8 : Int32))]))
  refine Rch.go (fun t k => XS.bipush X0.here hx rfl (hb hby d0_74) k) ?_
  show Rch p e below _ (T0.setTop (mkF m 76 #[.val (.int (8 : Int32))] [(.int (8 : Int32)), (.int (8 : Int32))]))
  refine Rch.go (fun t k => XS.icmpNo X0.here hx rfl (hb hby d0_76) rfl (by decide) k) ?_
  show Rch p e below _ (T0.setTop (mkF m 79 #[.val (.int (8 : Int32))] []))
  obtain ⟨T1, X1, e1, st1⟩ := getS2 X0 hx hZ hown (host := "") (Or.inl (wd_20 hw)) Via.refl e0 (G.2.2.1.ext O0.2) (g := (mkF m 79 #[.val (.int (8 : Int32))] [])) rfl (hb hby d0_79)
  refine Rch.go st1 ?_
  show Rch p e below _ (T1.setTop (mkF m 82 #[.val (.int (8 : Int32))] [(.ref ro1)]))
  refine Rch.val X1 hx (t := (.object "com/example/pathlatch/pathlatch/lock/LockMode")) hret hlk rfl (Or.inr (Or.inr (Or.inr (Or.inr ⟨rfl, rfl, rfl⟩)))) (hb hby d0_82) (by decide) (by decide) ?_
  try rw [e1]
  exact ⟨rfl, N0, rfl⟩
theorem ef_exp_8 (m : MethodId) (ro0 : Addr) (ro1 : Addr) (ro2 : Addr) (ro3 : Addr) (ro4 : Addr) (ro5 : Addr) (ro6 : Addr) (ro7 : Addr) (ro8 : Addr) (ro9 : Addr) : entryFrame m #[(.int (8 : Int32))] 1 = mkF m 0 #[.val (.int (8 : Int32))] [] := by first | rfl | (simp [entryFrame, mkF, argsToLocals, Value.category]; done)
set_option maxRecDepth 65536 in
set_option maxHeartbeats 40000000 in
theorem exp_8 (l : Launch) (Z : State) (a0 : Array Value) (hw : ∀ d ∈ tables_1, d.before a0 Z = true) (ro0 : Addr) (ro1 : Addr) (ro2 : Addr) (ro3 : Addr) (ro4 : Addr) (ro5 : Addr) (ro6 : Addr) (ro7 : Addr) (ro8 : Addr) (ro9 : Addr) (h0 : Heap) (n0 : Nat) (Z0 : n0 ≤ h0.size) (O0 : Old Z n0 h0) (G : Olds Z ro0 ro1 ro2 ro3 ro4 ro5 ro6 ro7 ro8 ro9) :
    Ctr l Z [] (⟨"com/example/pathlatch/pathlatch/lock/LockModeIntentionPinLaw", "expected", "(I)Lcom/example/pathlatch/pathlatch/lock/LockMode;"⟩ : MethodName) method_3_code 1 (some (.object "com/example/pathlatch/pathlatch/lock/LockMode")) #[(.int (8 : Int32))] h0 ({ frames := 0, cells := 0, slots := 0, locals := 0 } : Room) (fun v h L => v = some (.ref ro1) ∧ Fr n0 L ∧ h = h0) := by
  refine Ctr.of (plainFor_of_name pn_com_example_pathlatch_pathlatch_lock_LockModeIntentionPinLaw) (fun m => ef_exp_8 m ro0 ro1 ro2 ro3 ro4 ro5 ro6 ro7 ro8 ro9) ?_
  intro p e s m below meth c T0 hx hZ hby hml hown hnm hret hlk X0 e0
  have N0 := Fr.nil n0
  show Rch p e below _ (T0.setTop (mkF m 0 #[.val (.int (8 : Int32))] []))
  refine Rch.go (fun t k => XS.iloadN X0.here hx rfl (hb hby d1_0) rfl  k) ?_
  show Rch p e below _ (T0.setTop (mkF m 1 #[.val (.int (8 : Int32))] [(.int (8 : Int32))]))
  refine Rch.go (fun t k => XS.ifNo X0.here hx rfl (hb hby d1_1) rfl (by decide) k) ?_
  show Rch p e below _ (T0.setTop (mkF m 4 #[.val (.int (8 : Int32))] []))
  refine Rch.go (fun t k => XS.iloadN X0.here hx rfl (hb hby d1_4) rfl  k) ?_
  show Rch p e below _ (T0.setTop (mkF m 5 #[.val (.int (8 : Int32))] [(.int (8 : Int32))]))
  refine Rch.go (fun t k => XS.iconst X0.here hx rfl (hb hby d1_5) k) ?_
  show Rch p e below _ (T0.setTop (mkF m 6 #[.val (.int (8 : Int32))] [(.int (1 : Int32)), (.int (8 : Int32))]))
  refine Rch.go (fun t k => XS.icmpNo X0.here hx rfl (hb hby d1_6) rfl (by decide) k) ?_
  show Rch p e below _ (T0.setTop (mkF m 9 #[.val (.int (8 : Int32))] []))
  refine Rch.go (fun t k => XS.iloadN X0.here hx rfl (hb hby d1_9) rfl  k) ?_
  show Rch p e below _ (T0.setTop (mkF m 10 #[.val (.int (8 : Int32))] [(.int (8 : Int32))]))
  refine Rch.go (fun t k => XS.bipush X0.here hx rfl (hb hby d1_10) k) ?_
  show Rch p e below _ (T0.setTop (mkF m 12 #[.val (.int (8 : Int32))] [(.int (8 : Int32)), (.int (8 : Int32))]))
  refine Rch.go (fun t k => XS.icmpNo X0.here hx rfl (hb hby d1_12) rfl (by decide) k) ?_
  show Rch p e below _ (T0.setTop (mkF m 15 #[.val (.int (8 : Int32))] []))
  obtain ⟨T1, X1, e1, st1⟩ := getS2 X0 hx hZ hown (host := "") (Or.inl (wd_20 hw)) Via.refl e0 (G.2.2.1.ext O0.2) (g := (mkF m 15 #[.val (.int (8 : Int32))] [])) rfl (hb hby d1_15)
  refine Rch.go st1 ?_
  show Rch p e below _ (T1.setTop (mkF m 18 #[.val (.int (8 : Int32))] [(.ref ro1)]))
  refine Rch.val X1 hx (t := (.object "com/example/pathlatch/pathlatch/lock/LockMode")) hret hlk rfl (Or.inr (Or.inr (Or.inr (Or.inr ⟨rfl, rfl, rfl⟩)))) (hb hby d1_18) (by decide) (by decide) ?_
  try rw [e1]
  exact ⟨rfl, N0, rfl⟩
theorem d0_83 : decode method_2_code 83 = .ok (.getstatic 37, 3) := by decide +kernel
theorem d0_86 : decode method_2_code 86 = .ok (.areturn, 1) := by decide +kernel
theorem ef_pick_9 (m : MethodId) (ro0 : Addr) (ro1 : Addr) (ro2 : Addr) (ro3 : Addr) (ro4 : Addr) (ro5 : Addr) (ro6 : Addr) (ro7 : Addr) (ro8 : Addr) (ro9 : Addr) : entryFrame m #[(.int (9 : Int32))] 1 = mkF m 0 #[.val (.int (9 : Int32))] [] := by first | rfl | (simp [entryFrame, mkF, argsToLocals, Value.category]; done)
set_option maxRecDepth 65536 in
set_option maxHeartbeats 40000000 in
theorem pick_9 (l : Launch) (Z : State) (a0 : Array Value) (hw : ∀ d ∈ tables_1, d.before a0 Z = true) (ro0 : Addr) (ro1 : Addr) (ro2 : Addr) (ro3 : Addr) (ro4 : Addr) (ro5 : Addr) (ro6 : Addr) (ro7 : Addr) (ro8 : Addr) (ro9 : Addr) (h0 : Heap) (n0 : Nat) (Z0 : n0 ≤ h0.size) (O0 : Old Z n0 h0) (G : Olds Z ro0 ro1 ro2 ro3 ro4 ro5 ro6 ro7 ro8 ro9) :
    Ctr l Z [] (⟨"com/example/pathlatch/pathlatch/lock/LockModeIntentionPinLaw", "pick", "(I)Lcom/example/pathlatch/pathlatch/lock/LockMode;"⟩ : MethodName) method_2_code 1 (some (.object "com/example/pathlatch/pathlatch/lock/LockMode")) #[(.int (9 : Int32))] h0 ({ frames := 0, cells := 0, slots := 0, locals := 0 } : Room) (fun v h L => v = some (.ref ro3) ∧ Fr n0 L ∧ h = h0) := by
  refine Ctr.of (plainFor_of_name pn_com_example_pathlatch_pathlatch_lock_LockModeIntentionPinLaw) (fun m => ef_pick_9 m ro0 ro1 ro2 ro3 ro4 ro5 ro6 ro7 ro8 ro9) ?_
  intro p e s m below meth c T0 hx hZ hby hml hown hnm hret hlk X0 e0
  have N0 := Fr.nil n0
  show Rch p e below _ (T0.setTop (mkF m 0 #[.val (.int (9 : Int32))] []))
  refine Rch.go (fun t k => XS.iloadN X0.here hx rfl (hb hby d0_0) rfl  k) ?_
  show Rch p e below _ (T0.setTop (mkF m 1 #[.val (.int (9 : Int32))] [(.int (9 : Int32))]))
  refine Rch.go (fun t k => XS.ifYes X0.here hx rfl (pc0 := 1) (pc' := 8) rfl (hb hby d0_1) rfl (by decide) (by decide) (by decide) k) ?_
  show Rch p e below _ (T0.setTop (mkF m 8 #[.val (.int (9 : Int32))] []))
  refine Rch.go (fun t k => XS.iloadN X0.here hx rfl (hb hby d0_8) rfl  k) ?_
  show Rch p e below _ (T0.setTop (mkF m 9 #[.val (.int (9 : Int32))] [(.int (9 : Int32))]))
  refine Rch.go (fun t k => XS.iconst X0.here hx rfl (hb hby d0_9) k) ?_
  show Rch p e below _ (T0.setTop (mkF m 10 #[.val (.int (9 : Int32))] [(.int (1 : Int32)), (.int (9 : Int32))]))
  refine Rch.go (fun t k => XS.icmpYes X0.here hx rfl (pc0 := 10) (pc' := 17) rfl (hb hby d0_10) rfl (by decide) (by decide) (by decide) k) ?_
  show Rch p e below _ (T0.setTop (mkF m 17 #[.val (.int (9 : Int32))] []))
  refine Rch.go (fun t k => XS.iloadN X0.here hx rfl (hb hby d0_17) rfl  k) ?_
  show Rch p e below _ (T0.setTop (mkF m 18 #[.val (.int (9 : Int32))] [(.int (9 : Int32))]))
  refine Rch.go (fun t k => XS.iconst X0.here hx rfl (hb hby d0_18) k) ?_
  show Rch p e below _ (T0.setTop (mkF m 19 #[.val (.int (9 : Int32))] [(.int (2 : Int32)), (.int (9 : Int32))]))
  refine Rch.go (fun t k => XS.icmpYes X0.here hx rfl (pc0 := 19) (pc' := 26) rfl (hb hby d0_19) rfl (by decide) (by decide) (by decide) k) ?_
  show Rch p e below _ (T0.setTop (mkF m 26 #[.val (.int (9 : Int32))] []))
  refine Rch.go (fun t k => XS.iloadN X0.here hx rfl (hb hby d0_26) rfl  k) ?_
  show Rch p e below _ (T0.setTop (mkF m 27 #[.val (.int (9 : Int32))] [(.int (9 : Int32))]))
  refine Rch.go (fun t k => XS.iconst X0.here hx rfl (hb hby d0_27) k) ?_
  show Rch p e below _ (T0.setTop (mkF m 28 #[.val (.int (9 : Int32))] [(.int (3 : Int32)), (.int (9 : Int32))]))
  refine Rch.go (fun t k => XS.icmpYes X0.here hx rfl (pc0 := 28) (pc' := 35) rfl (hb hby d0_28) rfl (by decide) (by decide) (by decide) k) ?_
  show Rch p e below _ (T0.setTop (mkF m 35 #[.val (.int (9 : Int32))] []))
  refine Rch.go (fun t k => XS.iloadN X0.here hx rfl (hb hby d0_35) rfl  k) ?_
  show Rch p e below _ (T0.setTop (mkF m 36 #[.val (.int (9 : Int32))] [(.int (9 : Int32))]))
  refine Rch.go (fun t k => XS.iconst X0.here hx rfl (hb hby d0_36) k) ?_
  show Rch p e below _ (T0.setTop (mkF m 37 #[.val (.int (9 : Int32))] [(.int (4 : Int32)), (.int (9 : Int32))]))
  refine Rch.go (fun t k => XS.icmpYes X0.here hx rfl (pc0 := 37) (pc' := 44) rfl (hb hby d0_37) rfl (by decide) (by decide) (by decide) k) ?_
  show Rch p e below _ (T0.setTop (mkF m 44 #[.val (.int (9 : Int32))] []))
  refine Rch.go (fun t k => XS.iloadN X0.here hx rfl (hb hby d0_44) rfl  k) ?_
  show Rch p e below _ (T0.setTop (mkF m 45 #[.val (.int (9 : Int32))] [(.int (9 : Int32))]))
  refine Rch.go (fun t k => XS.iconst X0.here hx rfl (hb hby d0_45) k) ?_
  show Rch p e below _ (T0.setTop (mkF m 46 #[.val (.int (9 : Int32))] [(.int (5 : Int32)), (.int (9 : Int32))]))
  refine Rch.go (fun t k => XS.icmpYes X0.here hx rfl (pc0 := 46) (pc' := 53) rfl (hb hby d0_46) rfl (by decide) (by decide) (by decide) k) ?_
  show Rch p e below _ (T0.setTop (mkF m 53 #[.val (.int (9 : Int32))] []))
  refine Rch.go (fun t k => XS.iloadN X0.here hx rfl (hb hby d0_53) rfl  k) ?_
  show Rch p e below _ (T0.setTop (mkF m 54 #[.val (.int (9 : Int32))] [(.int (9 : Int32))]))
  refine Rch.go (fun t k => XS.bipush X0.here hx rfl (hb hby d0_54) k) ?_
  show Rch p e below _ (T0.setTop (mkF m 56 #[.val (.int (9 : Int32))] [(.int (6 : Int32)), (.int (9 : Int32))]))
  refine Rch.go (fun t k => XS.icmpYes X0.here hx rfl (pc0 := 56) (pc' := 63) rfl (hb hby d0_56) rfl (by decide) (by decide) (by decide) k) ?_
  show Rch p e below _ (T0.setTop (mkF m 63 #[.val (.int (9 : Int32))] []))
  refine Rch.go (fun t k => XS.iloadN X0.here hx rfl (hb hby d0_63) rfl  k) ?_
  show Rch p e below _ (T0.setTop (mkF m 64 #[.val (.int (9 : Int32))] [(.int (9 : Int32))]))
  refine Rch.go (fun t k => XS.bipush X0.here hx rfl (hb hby d0_64) k) ?_
  show Rch p e below _ (T0.setTop (mkF m 66 #[.val (.int (9 : Int32))] [(.int (7 : Int32)), (.int (9 : Int32))]))
  refine Rch.go (fun t k => XS.icmpYes X0.here hx rfl (pc0 := 66) (pc' := 73) rfl (hb hby d0_66) rfl (by decide) (by decide) (by decide) k) ?_
  show Rch p e below _ (T0.setTop (mkF m 73 #[.val (.int (9 : Int32))] []))
  refine Rch.go (fun t k => XS.iloadN X0.here hx rfl (hb hby d0_73) rfl  k) ?_
  show Rch p e below _ (T0.setTop (mkF m 74 #[.val (.int (9 : Int32))] [(.int (9 : Int32))]))
  refine Rch.go (fun t k => XS.bipush X0.here hx rfl (hb hby d0_74) k) ?_
  show Rch p e below _ (T0.setTop (mkF m 76 #[.val (.int (9 : Int32))] [(.int (8 : Int32)), (.int (9 : Int32))]))
  refine Rch.go (fun t k => XS.icmpYes X0.here hx rfl (pc0 := 76) (pc' := 83) rfl (hb hby d0_76) rfl (by decide) (by decide) (by decide) k) ?_
  show Rch p e below _ (T0.setTop (mkF m 83 #[.val (.int (9 : Int32))] []))
  obtain ⟨T1, X1, e1, st1⟩ := getS2 X0 hx hZ hown (host := "") (Or.inl (wd_25 hw)) Via.refl e0 (G.2.2.2.2.2.2.1.ext O0.2) (g := (mkF m 83 #[.val (.int (9 : Int32))] [])) rfl (hb hby d0_83)
  refine Rch.go st1 ?_
  show Rch p e below _ (T1.setTop (mkF m 86 #[.val (.int (9 : Int32))] [(.ref ro3)]))
  refine Rch.val X1 hx (t := (.object "com/example/pathlatch/pathlatch/lock/LockMode")) hret hlk rfl (Or.inr (Or.inr (Or.inr (Or.inr ⟨rfl, rfl, rfl⟩)))) (hb hby d0_86) (by decide) (by decide) ?_
  try rw [e1]
  exact ⟨rfl, N0, rfl⟩
theorem ef_exp_9 (m : MethodId) (ro0 : Addr) (ro1 : Addr) (ro2 : Addr) (ro3 : Addr) (ro4 : Addr) (ro5 : Addr) (ro6 : Addr) (ro7 : Addr) (ro8 : Addr) (ro9 : Addr) : entryFrame m #[(.int (9 : Int32))] 1 = mkF m 0 #[.val (.int (9 : Int32))] [] := by first | rfl | (simp [entryFrame, mkF, argsToLocals, Value.category]; done)
set_option maxRecDepth 65536 in
set_option maxHeartbeats 40000000 in
theorem exp_9 (l : Launch) (Z : State) (a0 : Array Value) (hw : ∀ d ∈ tables_1, d.before a0 Z = true) (ro0 : Addr) (ro1 : Addr) (ro2 : Addr) (ro3 : Addr) (ro4 : Addr) (ro5 : Addr) (ro6 : Addr) (ro7 : Addr) (ro8 : Addr) (ro9 : Addr) (h0 : Heap) (n0 : Nat) (Z0 : n0 ≤ h0.size) (O0 : Old Z n0 h0) (G : Olds Z ro0 ro1 ro2 ro3 ro4 ro5 ro6 ro7 ro8 ro9) :
    Ctr l Z [] (⟨"com/example/pathlatch/pathlatch/lock/LockModeIntentionPinLaw", "expected", "(I)Lcom/example/pathlatch/pathlatch/lock/LockMode;"⟩ : MethodName) method_3_code 1 (some (.object "com/example/pathlatch/pathlatch/lock/LockMode")) #[(.int (9 : Int32))] h0 ({ frames := 0, cells := 0, slots := 0, locals := 0 } : Room) (fun v h L => v = some (.ref ro3) ∧ Fr n0 L ∧ h = h0) := by
  refine Ctr.of (plainFor_of_name pn_com_example_pathlatch_pathlatch_lock_LockModeIntentionPinLaw) (fun m => ef_exp_9 m ro0 ro1 ro2 ro3 ro4 ro5 ro6 ro7 ro8 ro9) ?_
  intro p e s m below meth c T0 hx hZ hby hml hown hnm hret hlk X0 e0
  have N0 := Fr.nil n0
  show Rch p e below _ (T0.setTop (mkF m 0 #[.val (.int (9 : Int32))] []))
  refine Rch.go (fun t k => XS.iloadN X0.here hx rfl (hb hby d1_0) rfl  k) ?_
  show Rch p e below _ (T0.setTop (mkF m 1 #[.val (.int (9 : Int32))] [(.int (9 : Int32))]))
  refine Rch.go (fun t k => XS.ifNo X0.here hx rfl (hb hby d1_1) rfl (by decide) k) ?_
  show Rch p e below _ (T0.setTop (mkF m 4 #[.val (.int (9 : Int32))] []))
  refine Rch.go (fun t k => XS.iloadN X0.here hx rfl (hb hby d1_4) rfl  k) ?_
  show Rch p e below _ (T0.setTop (mkF m 5 #[.val (.int (9 : Int32))] [(.int (9 : Int32))]))
  refine Rch.go (fun t k => XS.iconst X0.here hx rfl (hb hby d1_5) k) ?_
  show Rch p e below _ (T0.setTop (mkF m 6 #[.val (.int (9 : Int32))] [(.int (1 : Int32)), (.int (9 : Int32))]))
  refine Rch.go (fun t k => XS.icmpNo X0.here hx rfl (hb hby d1_6) rfl (by decide) k) ?_
  show Rch p e below _ (T0.setTop (mkF m 9 #[.val (.int (9 : Int32))] []))
  refine Rch.go (fun t k => XS.iloadN X0.here hx rfl (hb hby d1_9) rfl  k) ?_
  show Rch p e below _ (T0.setTop (mkF m 10 #[.val (.int (9 : Int32))] [(.int (9 : Int32))]))
  refine Rch.go (fun t k => XS.bipush X0.here hx rfl (hb hby d1_10) k) ?_
  show Rch p e below _ (T0.setTop (mkF m 12 #[.val (.int (9 : Int32))] [(.int (8 : Int32)), (.int (9 : Int32))]))
  refine Rch.go (fun t k => XS.icmpYes X0.here hx rfl (pc0 := 12) (pc' := 19) rfl (hb hby d1_12) rfl (by decide) (by decide) (by decide) k) ?_
  show Rch p e below _ (T0.setTop (mkF m 19 #[.val (.int (9 : Int32))] []))
  obtain ⟨T1, X1, e1, st1⟩ := getS2 X0 hx hZ hown (host := "") (Or.inl (wd_25 hw)) Via.refl e0 (G.2.2.2.2.2.2.1.ext O0.2) (g := (mkF m 19 #[.val (.int (9 : Int32))] [])) rfl (hb hby d1_19)
  refine Rch.go st1 ?_
  show Rch p e below _ (T1.setTop (mkF m 22 #[.val (.int (9 : Int32))] [(.ref ro3)]))
  refine Rch.val X1 hx (t := (.object "com/example/pathlatch/pathlatch/lock/LockMode")) hret hlk rfl (Or.inr (Or.inr (Or.inr (Or.inr ⟨rfl, rfl, rfl⟩)))) (hb hby d1_22) (by decide) (by decide) ?_
  try rw [e1]
  exact ⟨rfl, N0, rfl⟩
theorem d2_0 : decode prog_96_method_5_code 0 = .ok (.aload_n 0, 1) := by decide +kernel
theorem d2_1 : decode prog_96_method_5_code 1 = .ok (.getfield 53, 3) := by decide +kernel
theorem wd_13 {Z : State} {a0 : Array Value} (hw : ∀ d ∈ tables_1, d.before a0 Z = true) : (Jvm.Cond.fieldLink "com/example/pathlatch/pathlatch/lock/LockMode" (53 : Nat) "com/example/pathlatch/pathlatch/lock/LockMode" "reads" "Z").before a0 Z = true := hw _ (List.mem_of_getElem? (i := 13) rfl)
theorem d2_4 : decode prog_96_method_5_code 4 = .ok (.ifCond .eq 9, 3) := by decide +kernel
theorem d2_7 : decode prog_96_method_5_code 7 = .ok (.getstatic 28, 3) := by decide +kernel
theorem wd_15 {Z : State} {a0 : Array Value} (hw : ∀ d ∈ tables_1, d.before a0 Z = true) : (Jvm.Cond.fieldLink "com/example/pathlatch/pathlatch/lock/LockMode" (28 : Nat) "com/example/pathlatch/pathlatch/lock/LockMode" "INTENTION_SHARED" "Lcom/example/pathlatch/pathlatch/lock/LockMode;").before a0 Z = true := hw _ (List.mem_of_getElem? (i := 15) rfl)
theorem d2_10 : decode prog_96_method_5_code 10 = .ok (.goto 6, 3) := by decide +kernel
theorem d2_16 : decode prog_96_method_5_code 16 = .ok (.areturn, 1) := by decide +kernel
theorem pn_com_example_pathlatch_pathlatch_lock_LockMode : plainName "com/example/pathlatch/pathlatch/lock/LockMode" = true := by first | (simp [plainName, overriddenIn]; done) | decide +kernel
theorem ef_int_1 (m : MethodId) (a : Addr) (ro0 : Addr) (ro1 : Addr) (ro2 : Addr) (ro3 : Addr) (ro4 : Addr) (ro5 : Addr) (ro6 : Addr) (ro7 : Addr) (ro8 : Addr) (ro9 : Addr) : entryFrame m #[(.ref a)] 1 = mkF m 0 #[.val (.ref a)] [] := by first | rfl | (simp [entryFrame, mkF, argsToLocals, Value.category]; done)
set_option maxRecDepth 65536 in
set_option maxHeartbeats 40000000 in
theorem int_1 (l : Launch) (Z : State) (a0 : Array Value) (hw : ∀ d ∈ tables_1, d.before a0 Z = true) (a : Addr) (ro0 : Addr) (ro1 : Addr) (ro2 : Addr) (ro3 : Addr) (ro4 : Addr) (ro5 : Addr) (ro6 : Addr) (ro7 : Addr) (ro8 : Addr) (ro9 : Addr) (h0 : Heap) (n0 : Nat) (Z0 : n0 ≤ h0.size) (O0 : Old Z n0 h0) (G : Olds Z ro0 ro1 ro2 ro3 ro4 ro5 ro6 ro7 ro8 ro9) (F : Fld Z Z.heap a "com/example/pathlatch/pathlatch/lock/LockMode" "reads" "Z" (.int 1)) :
    Ctr l Z [] (⟨"com/example/pathlatch/pathlatch/lock/LockMode", "intention", "()Lcom/example/pathlatch/pathlatch/lock/LockMode;"⟩ : MethodName) prog_96_method_5_code 1 (some (.object "com/example/pathlatch/pathlatch/lock/LockMode")) #[(.ref a)] h0 ({ frames := 0, cells := 0, slots := 0, locals := 0 } : Room) (fun v h L => v = some (.ref ro1) ∧ Fr n0 L ∧ h = h0) := by
  refine Ctr.of (plainFor_of_name pn_com_example_pathlatch_pathlatch_lock_LockMode) (fun m => ef_int_1 m a ro0 ro1 ro2 ro3 ro4 ro5 ro6 ro7 ro8 ro9) ?_
  intro p e s m below meth c T0 hx hZ hby hml hown hnm hret hlk X0 e0
  have N0 := Fr.nil n0
  show Rch p e below _ (T0.setTop (mkF m 0 #[.val (.ref a)] []))
  refine Rch.go (fun t k => XS.aloadN X0.here hx rfl (hb hby d2_0) rfl rfl k) ?_
  show Rch p e below _ (T0.setTop (mkF m 1 #[.val (.ref a)] [(.ref a)]))
  obtain ⟨T1, X1, e1, st1⟩ := getF X0 hx hZ hown (host := "") (Or.inl (wd_13 hw)) Via.refl e0 (F.ext O0.2) (g := (mkF m 1 #[.val (.ref a)] [(.ref a)])) rfl rfl (hb hby d2_1)
  refine Rch.go st1 ?_
  show Rch p e below _ (T1.setTop (mkF m 4 #[.val (.ref a)] [(.int (1 : Int32))]))
  refine Rch.go (fun t k => XS.ifNo X1.here hx rfl (hb hby d2_4) rfl (by decide) k) ?_
  show Rch p e below _ (T1.setTop (mkF m 7 #[.val (.ref a)] []))
  obtain ⟨T2, X2, e2, st2⟩ := getS2 X1 hx hZ hown (host := "") (Or.inl (wd_15 hw)) Via.refl e1 (G.2.2.1.ext O0.2) (g := (mkF m 7 #[.val (.ref a)] [])) rfl (hb hby d2_7)
  refine Rch.go st2 ?_
  show Rch p e below _ (T2.setTop (mkF m 10 #[.val (.ref a)] [(.ref ro1)]))
  refine Rch.go (fun t k => XS.goto X2.here hx rfl (pc0 := 10) (pc' := 16) rfl (hb hby d2_10) (by decide) (by decide) k) ?_
  show Rch p e below _ (T2.setTop (mkF m 16 #[.val (.ref a)] [(.ref ro1)]))
  refine Rch.val X2 hx (t := (.object "com/example/pathlatch/pathlatch/lock/LockMode")) hret hlk rfl (Or.inr (Or.inr (Or.inr (Or.inr ⟨rfl, rfl, rfl⟩)))) (hb hby d2_16) (by decide) (by decide) ?_
  try rw [e2]
  exact ⟨rfl, N0, rfl⟩
theorem d2_13 : decode prog_96_method_5_code 13 = .ok (.getstatic 31, 3) := by decide +kernel
theorem wd_23 {Z : State} {a0 : Array Value} (hw : ∀ d ∈ tables_1, d.before a0 Z = true) : (Jvm.Cond.fieldLink "com/example/pathlatch/pathlatch/lock/LockMode" (31 : Nat) "com/example/pathlatch/pathlatch/lock/LockMode" "INTENTION_EXCLUSIVE" "Lcom/example/pathlatch/pathlatch/lock/LockMode;").before a0 Z = true := hw _ (List.mem_of_getElem? (i := 23) rfl)
theorem ef_int_0 (m : MethodId) (a : Addr) (ro0 : Addr) (ro1 : Addr) (ro2 : Addr) (ro3 : Addr) (ro4 : Addr) (ro5 : Addr) (ro6 : Addr) (ro7 : Addr) (ro8 : Addr) (ro9 : Addr) : entryFrame m #[(.ref a)] 1 = mkF m 0 #[.val (.ref a)] [] := by first | rfl | (simp [entryFrame, mkF, argsToLocals, Value.category]; done)
set_option maxRecDepth 65536 in
set_option maxHeartbeats 40000000 in
theorem int_0 (l : Launch) (Z : State) (a0 : Array Value) (hw : ∀ d ∈ tables_1, d.before a0 Z = true) (a : Addr) (ro0 : Addr) (ro1 : Addr) (ro2 : Addr) (ro3 : Addr) (ro4 : Addr) (ro5 : Addr) (ro6 : Addr) (ro7 : Addr) (ro8 : Addr) (ro9 : Addr) (h0 : Heap) (n0 : Nat) (Z0 : n0 ≤ h0.size) (O0 : Old Z n0 h0) (G : Olds Z ro0 ro1 ro2 ro3 ro4 ro5 ro6 ro7 ro8 ro9) (F : Fld Z Z.heap a "com/example/pathlatch/pathlatch/lock/LockMode" "reads" "Z" (.int 0)) :
    Ctr l Z [] (⟨"com/example/pathlatch/pathlatch/lock/LockMode", "intention", "()Lcom/example/pathlatch/pathlatch/lock/LockMode;"⟩ : MethodName) prog_96_method_5_code 1 (some (.object "com/example/pathlatch/pathlatch/lock/LockMode")) #[(.ref a)] h0 ({ frames := 0, cells := 0, slots := 0, locals := 0 } : Room) (fun v h L => v = some (.ref ro3) ∧ Fr n0 L ∧ h = h0) := by
  refine Ctr.of (plainFor_of_name pn_com_example_pathlatch_pathlatch_lock_LockMode) (fun m => ef_int_0 m a ro0 ro1 ro2 ro3 ro4 ro5 ro6 ro7 ro8 ro9) ?_
  intro p e s m below meth c T0 hx hZ hby hml hown hnm hret hlk X0 e0
  have N0 := Fr.nil n0
  show Rch p e below _ (T0.setTop (mkF m 0 #[.val (.ref a)] []))
  refine Rch.go (fun t k => XS.aloadN X0.here hx rfl (hb hby d2_0) rfl rfl k) ?_
  show Rch p e below _ (T0.setTop (mkF m 1 #[.val (.ref a)] [(.ref a)]))
  obtain ⟨T1, X1, e1, st1⟩ := getF X0 hx hZ hown (host := "") (Or.inl (wd_13 hw)) Via.refl e0 (F.ext O0.2) (g := (mkF m 1 #[.val (.ref a)] [(.ref a)])) rfl rfl (hb hby d2_1)
  refine Rch.go st1 ?_
  show Rch p e below _ (T1.setTop (mkF m 4 #[.val (.ref a)] [(.int (0 : Int32))]))
  refine Rch.go (fun t k => XS.ifYes X1.here hx rfl (pc0 := 4) (pc' := 13) rfl (hb hby d2_4) rfl (by decide) (by decide) (by decide) k) ?_
  show Rch p e below _ (T1.setTop (mkF m 13 #[.val (.ref a)] []))
  obtain ⟨T2, X2, e2, st2⟩ := getS2 X1 hx hZ hown (host := "") (Or.inl (wd_23 hw)) Via.refl e1 (G.2.2.2.2.2.2.1.ext O0.2) (g := (mkF m 13 #[.val (.ref a)] [])) rfl (hb hby d2_13)
  refine Rch.go st2 ?_
  show Rch p e below _ (T2.setTop (mkF m 16 #[.val (.ref a)] [(.ref ro3)]))
  refine Rch.val X2 hx (t := (.object "com/example/pathlatch/pathlatch/lock/LockMode")) hret hlk rfl (Or.inr (Or.inr (Or.inr (Or.inr ⟨rfl, rfl, rfl⟩)))) (hb hby d2_16) (by decide) (by decide) ?_
  try rw [e2]
  exact ⟨rfl, N0, rfl⟩
theorem own_mod10 (x : Int32) : (x &&& 2147483647) % 10 = 0 ∨ (x &&& 2147483647) % 10 = 1 ∨ (x &&& 2147483647) % 10 = 2 ∨ (x &&& 2147483647) % 10 = 3 ∨ (x &&& 2147483647) % 10 = 4 ∨ (x &&& 2147483647) % 10 = 5 ∨ (x &&& 2147483647) % 10 = 6 ∨ (x &&& 2147483647) % 10 = 7 ∨ (x &&& 2147483647) % 10 = 8 ∨ (x &&& 2147483647) % 10 = 9 := by
  have h := own_rem (n := 10) (own_pos x) (by decide)
  simp only [← Int32.toInt_inj]
  have h10 : (10 : Int32).toInt = 10 := rfl
  rw [h10] at h
  generalize ((x &&& 2147483647) % 10).toInt = t at h
  show t = 0 ∨ t = 1 ∨ t = 2 ∨ t = 3 ∨ t = 4 ∨ t = 5 ∨ t = 6 ∨ t = 7 ∨ t = 8 ∨ t = 9
  omega
theorem wd_0 {Z : State} {a0 : Array Value} (hw : ∀ d ∈ tables_1, d.before a0 Z = true) : (Jvm.Cond.constant "com/example/pathlatch/pathlatch/lock/LockModeIntentionPinLaw" (40 : Nat) (2147483647 : Int32)).before a0 Z = true := hw _ (List.mem_of_getElem? (i := 0) rfl)
theorem wd_1 {Z : State} {a0 : Array Value} (hw : ∀ d ∈ tables_1, d.before a0 Z = true) : (Jvm.Cond.methodLink "com/example/pathlatch/pathlatch/lock/LockModeIntentionPinLaw" (41 : Nat) ({ cls := "com/example/pathlatch/pathlatch/lock/LockModeIntentionPinLaw", name := "pick", desc := "(I)Lcom/example/pathlatch/pathlatch/lock/LockMode;" } : Jvm.MethodName)).before a0 Z = true := hw _ (List.mem_of_getElem? (i := 1) rfl)
theorem wd_4 {Z : State} {a0 : Array Value} (hw : ∀ d ∈ tables_1, d.before a0 Z = true) : (Jvm.Cond.code ({ cls := "com/example/pathlatch/pathlatch/lock/LockModeIntentionPinLaw", name := "pick", desc := "(I)Lcom/example/pathlatch/pathlatch/lock/LockMode;" } : Jvm.MethodName) method_2_code (1 : Nat) (Option.some (Jvm.ClassFile.FieldType.object "com/example/pathlatch/pathlatch/lock/LockMode"))).before a0 Z = true := hw _ (List.mem_of_getElem? (i := 4) rfl)
theorem wd_3 {Z : State} {a0 : Array Value} (hw : ∀ d ∈ tables_1, d.before a0 Z = true) : (Jvm.Cond.initialized "com/example/pathlatch/pathlatch/lock/LockModeIntentionPinLaw").before a0 Z = true := hw _ (List.mem_of_getElem? (i := 3) rfl)
theorem pd_0 : parseMethodDescriptor "(I)Lcom/example/pathlatch/pathlatch/lock/LockMode;" = some ⟨[.int], some (.object "com/example/pathlatch/pathlatch/lock/LockMode")⟩ := by decide +kernel
theorem wd_2 {Z : State} {a0 : Array Value} (hw : ∀ d ∈ tables_1, d.before a0 Z = true) : (Jvm.Cond.static ({ cls := "com/example/pathlatch/pathlatch/lock/LockModeIntentionPinLaw", name := "pick", desc := "(I)Lcom/example/pathlatch/pathlatch/lock/LockMode;" } : Jvm.MethodName)).before a0 Z = true := hw _ (List.mem_of_getElem? (i := 2) rfl)
theorem wd_8 {Z : State} {a0 : Array Value} (hw : ∀ d ∈ tables_1, d.before a0 Z = true) : (Jvm.Cond.methodLink "com/example/pathlatch/pathlatch/lock/LockModeIntentionPinLaw" (47 : Nat) ({ cls := "com/example/pathlatch/pathlatch/lock/LockMode", name := "intention", desc := "()Lcom/example/pathlatch/pathlatch/lock/LockMode;" } : Jvm.MethodName)).before a0 Z = true := hw _ (List.mem_of_getElem? (i := 8) rfl)
theorem wd_12 {Z : State} {a0 : Array Value} (hw : ∀ d ∈ tables_1, d.before a0 Z = true) : (Jvm.Cond.code ({ cls := "com/example/pathlatch/pathlatch/lock/LockMode", name := "intention", desc := "()Lcom/example/pathlatch/pathlatch/lock/LockMode;" } : Jvm.MethodName) prog_96_method_5_code (1 : Nat) (Option.some (Jvm.ClassFile.FieldType.object "com/example/pathlatch/pathlatch/lock/LockMode"))).before a0 Z = true := hw _ (List.mem_of_getElem? (i := 12) rfl)
theorem pd_1 : parseMethodDescriptor "()Lcom/example/pathlatch/pathlatch/lock/LockMode;" = some ⟨[], some (.object "com/example/pathlatch/pathlatch/lock/LockMode")⟩ := by decide +kernel
theorem wd_11 {Z : State} {a0 : Array Value} (hw : ∀ d ∈ tables_1, d.before a0 Z = true) : (Jvm.Cond.selects "com/example/pathlatch/pathlatch/lock/LockMode" ({ cls := "com/example/pathlatch/pathlatch/lock/LockMode", name := "intention", desc := "()Lcom/example/pathlatch/pathlatch/lock/LockMode;" } : Jvm.MethodName) ({ cls := "com/example/pathlatch/pathlatch/lock/LockMode", name := "intention", desc := "()Lcom/example/pathlatch/pathlatch/lock/LockMode;" } : Jvm.MethodName)).before a0 Z = true := hw _ (List.mem_of_getElem? (i := 11) rfl)
theorem wd_9 {Z : State} {a0 : Array Value} (hw : ∀ d ∈ tables_1, d.before a0 Z = true) : (Jvm.Cond.declares ({ cls := "com/example/pathlatch/pathlatch/lock/LockMode", name := "intention", desc := "()Lcom/example/pathlatch/pathlatch/lock/LockMode;" } : Jvm.MethodName)).before a0 Z = true := hw _ (List.mem_of_getElem? (i := 9) rfl)
theorem wd_10 {Z : State} {a0 : Array Value} (hw : ∀ d ∈ tables_1, d.before a0 Z = true) : (Jvm.Cond.instanceMethod ({ cls := "com/example/pathlatch/pathlatch/lock/LockMode", name := "intention", desc := "()Lcom/example/pathlatch/pathlatch/lock/LockMode;" } : Jvm.MethodName)).before a0 Z = true := hw _ (List.mem_of_getElem? (i := 10) rfl)
theorem wd_17 {Z : State} {a0 : Array Value} (hw : ∀ d ∈ tables_1, d.before a0 Z = true) : (Jvm.Cond.methodLink "com/example/pathlatch/pathlatch/lock/LockModeIntentionPinLaw" (51 : Nat) ({ cls := "com/example/pathlatch/pathlatch/lock/LockModeIntentionPinLaw", name := "expected", desc := "(I)Lcom/example/pathlatch/pathlatch/lock/LockMode;" } : Jvm.MethodName)).before a0 Z = true := hw _ (List.mem_of_getElem? (i := 17) rfl)
theorem wd_19 {Z : State} {a0 : Array Value} (hw : ∀ d ∈ tables_1, d.before a0 Z = true) : (Jvm.Cond.code ({ cls := "com/example/pathlatch/pathlatch/lock/LockModeIntentionPinLaw", name := "expected", desc := "(I)Lcom/example/pathlatch/pathlatch/lock/LockMode;" } : Jvm.MethodName) method_3_code (1 : Nat) (Option.some (Jvm.ClassFile.FieldType.object "com/example/pathlatch/pathlatch/lock/LockMode"))).before a0 Z = true := hw _ (List.mem_of_getElem? (i := 19) rfl)
theorem wd_18 {Z : State} {a0 : Array Value} (hw : ∀ d ∈ tables_1, d.before a0 Z = true) : (Jvm.Cond.static ({ cls := "com/example/pathlatch/pathlatch/lock/LockModeIntentionPinLaw", name := "expected", desc := "(I)Lcom/example/pathlatch/pathlatch/lock/LockMode;" } : Jvm.MethodName)).before a0 Z = true := hw _ (List.mem_of_getElem? (i := 18) rfl)
theorem ef_law_1 (m : MethodId) (p0 : Int32) (ro0 : Addr) (ro1 : Addr) (ro2 : Addr) (ro3 : Addr) (ro4 : Addr) (ro5 : Addr) (ro6 : Addr) (ro7 : Addr) (ro8 : Addr) (ro9 : Addr) : entryFrame m #[(.int p0)] maxLocals = mkF m 0 #[.val (.int p0), .unset, .unset, .unset] [] := by first | rfl | (simp [entryFrame, mkF, argsToLocals, Value.category, maxLocals]; done)
set_option maxRecDepth 65536 in
set_option maxHeartbeats 40000000 in
theorem law_1 (l : Launch) (Z : State) (a0 : Array Value) (hw : ∀ d ∈ tables_1, d.before a0 Z = true) (p0 : Int32) (ro0 : Addr) (ro1 : Addr) (ro2 : Addr) (ro3 : Addr) (ro4 : Addr) (ro5 : Addr) (ro6 : Addr) (ro7 : Addr) (ro8 : Addr) (ro9 : Addr) (h0 : Heap) (n0 : Nat) (Z0 : n0 ≤ h0.size) (O0 : Old Z n0 h0) (G : Olds Z ro0 ro1 ro2 ro3 ro4 ro5 ro6 ro7 ro8 ro9) :
    Ctr l Z tables_1 x code maxLocals ret #[(.int p0)] h0 room_1 (fun v h L => v = some (.int (1 : Int32)) ∧ Fr n0 L) := by
  refine Ctr.of (plainFor_of_name pn_com_example_pathlatch_pathlatch_lock_LockModeIntentionPinLaw) (fun m => ef_law_1 m p0 ro0 ro1 ro2 ro3 ro4 ro5 ro6 ro7 ro8 ro9) ?_
  intro p e s m below meth c T0 hx hZ hby hml hown hnm hret hlk X0 e0
  have N0 := Fr.nil n0
  have hret : meth.sig.returnType = some .boolean := hret
  show Rch p e below _ (T0.setTop (mkF m 0 #[.val (.int p0), .unset, .unset, .unset] []))
  refine Rch.go (fun t k => XS.iloadN X0.here hx rfl (hb hby at_0) rfl  k) ?_
  show Rch p e below _ (T0.setTop (mkF m 1 #[.val (.int p0), .unset, .unset, .unset] [(.int p0)]))
  refine Rch.go (fun t k => Jvm.Stand.ldcI X0 hx hown (mvT hZ (wd_0 hw)) rfl (hb hby at_1) k) ?_
  show Rch p e below _ (T0.setTop (mkF m 3 #[.val (.int p0), .unset, .unset, .unset] [(.int (2147483647 : Int32)), (.int p0)]))
  refine Rch.go (fun t k => XS.iand X0.here hx rfl (hb hby at_3) rfl k) ?_
  show Rch p e below _ (T0.setTop (mkF m 4 #[.val (.int p0), .unset, .unset, .unset] [(.int (p0 &&& (2147483647 : Int32)))]))
  refine Rch.go (fun t k => XS.bipush X0.here hx rfl (hb hby at_4) k) ?_
  show Rch p e below _ (T0.setTop (mkF m 6 #[.val (.int p0), .unset, .unset, .unset] [(.int (10 : Int32)), (.int (p0 &&& (2147483647 : Int32)))]))
  refine Rch.go (fun t k => iremM X0 hx rfl (hb hby at_6) rfl (by decide) k) ?_
  show Rch p e below _ (T0.setTop (mkF m 7 #[.val (.int p0), .unset, .unset, .unset] [(.int ((p0 &&& (2147483647 : Int32)) % (10 : Int32)))]))
  rcases own_mod10 p0 with hq | hq | hq | hq | hq | hq | hq | hq | hq | hq
  · rw [hq]
    show Rch p e below _ (T0.setTop (mkF m 7 #[.val (.int p0), .unset, .unset, .unset] [(.int (0 : Int32))]))
    refine Rch.go (fun t k => XS.istoreN X0.here hx rfl (hb hby at_7) rfl  (l' := #[.val (.int p0), .val (.int (0 : Int32)), .unset, .unset]) rfl k) ?_
    show Rch p e below _ (T0.setTop (mkF m 8 #[.val (.int p0), .val (.int (0 : Int32)), .unset, .unset] []))
    refine Rch.go (fun t k => XS.iloadN X0.here hx rfl (hb hby at_8) rfl  k) ?_
    show Rch p e below _ (T0.setTop (mkF m 9 #[.val (.int p0), .val (.int (0 : Int32)), .unset, .unset] [(.int (0 : Int32))]))
    obtain ⟨v1, T1, L1, X1, Q1, st1⟩ := callSt X0 hx hZ (pick_0 l Z a0 hw ro0 ro1 ro2 ro3 ro4 ro5 ro6 ro7 ro8 ro9 h0 n0 Z0 O0 G) e0 hown (wd_1 hw) (wd_2 hw) (wd_4 hw) (wd_3 hw) (by decide) (hb hby at_9) 0 (by decide) (by decide) (by decide) (by decide) (by rw [hml]; rfl) [(.int (0 : Int32))] [] rfl (lenOf pd_0 rfl) rfl (Nat.le_of_eq rfl) (Ls := #[.val (.int p0), .val (.int (0 : Int32)), .unset, .unset])
    obtain ⟨rfl, M1, e1⟩ := Q1
    have N1 := Fr.app N0 M1
    refine Rch.go st1 ?_
    show Rch p e below _ (T1.setTop (mkF m 12 #[.val (.int p0), .val (.int (0 : Int32)), .unset, .unset] [(.ref ro0)]))
    refine Rch.go (fun t k => XS.astoreN X1.here hx rfl (hb hby at_12) rfl rfl (l' := #[.val (.int p0), .val (.int (0 : Int32)), .val (.ref ro0), .unset]) rfl k) ?_
    show Rch p e below _ (T1.setTop (mkF m 13 #[.val (.int p0), .val (.int (0 : Int32)), .val (.ref ro0), .unset] []))
    refine Rch.go (fun t k => XS.aloadN X1.here hx rfl (hb hby at_13) rfl rfl k) ?_
    show Rch p e below _ (T1.setTop (mkF m 14 #[.val (.int p0), .val (.int (0 : Int32)), .val (.ref ro0), .unset] [(.ref ro0)]))
    obtain ⟨v2, T2, L2, X2, Q2, st2⟩ := callVi X1 hx hZ (int_1 l Z a0 hw ro0 ro0 ro1 ro2 ro3 ro4 ro5 ro6 ro7 ro8 ro9 h0 n0 Z0 O0 G G.2.2.2.2.2.2.2.2.2.2.2.2.2.2.2.2.2.2.2.2.1) e1 hown (wd_8 hw) (wd_9 hw) (wd_11 hw) (notFace_of_selects (args := #[]) (mvT hZ (wd_11 hw))) (wd_10 hw) (wd_12 hw) (wd_6 hw) (by decide) (hb hby at_14) 0 (by decide) (by decide) (by decide) (by decide) (by rw [hml]; rfl) ro0 (G.2.1.ext O0.2) [] [] rfl (lenOf pd_1 rfl) rfl (Nat.le_of_eq rfl) (Ls := #[.val (.int p0), .val (.int (0 : Int32)), .val (.ref ro0), .unset])
    obtain ⟨rfl, M2, e2⟩ := Q2
    have N2 := Fr.app N1 M2
    refine Rch.go st2 ?_
    show Rch p e below _ (T2.setTop (mkF m 17 #[.val (.int p0), .val (.int (0 : Int32)), .val (.ref ro0), .unset] [(.ref ro1)]))
    refine Rch.go (fun t k => XS.astoreN X2.here hx rfl (hb hby at_17) rfl rfl (l' := #[.val (.int p0), .val (.int (0 : Int32)), .val (.ref ro0), .val (.ref ro1)]) rfl k) ?_
    show Rch p e below _ (T2.setTop (mkF m 18 #[.val (.int p0), .val (.int (0 : Int32)), .val (.ref ro0), .val (.ref ro1)] []))
    refine Rch.go (fun t k => XS.aloadN X2.here hx rfl (hb hby at_18) rfl rfl k) ?_
    show Rch p e below _ (T2.setTop (mkF m 19 #[.val (.int p0), .val (.int (0 : Int32)), .val (.ref ro0), .val (.ref ro1)] [(.ref ro1)]))
    refine Rch.go (fun t k => XS.iloadN X2.here hx rfl (hb hby at_19) rfl  k) ?_
    show Rch p e below _ (T2.setTop (mkF m 20 #[.val (.int p0), .val (.int (0 : Int32)), .val (.ref ro0), .val (.ref ro1)] [(.int (0 : Int32)), (.ref ro1)]))
    obtain ⟨v3, T3, L3, X3, Q3, st3⟩ := callSt X2 hx hZ (exp_0 l Z a0 hw ro0 ro1 ro2 ro3 ro4 ro5 ro6 ro7 ro8 ro9 h0 n0 Z0 O0 G) e2 hown (wd_17 hw) (wd_18 hw) (wd_19 hw) (wd_3 hw) (by decide) (hb hby at_20) 1 (by decide) (by decide) (by decide) (by decide) (by rw [hml]; rfl) [(.int (0 : Int32))] [(.ref ro1)] rfl (lenOf pd_0 rfl) rfl (Nat.le_of_eq rfl) (Ls := #[.val (.int p0), .val (.int (0 : Int32)), .val (.ref ro0), .val (.ref ro1)])
    obtain ⟨rfl, M3, e3⟩ := Q3
    have N3 := Fr.app N2 M3
    refine Rch.go st3 ?_
    show Rch p e below _ (T3.setTop (mkF m 23 #[.val (.int p0), .val (.int (0 : Int32)), .val (.ref ro0), .val (.ref ro1)] [(.ref ro1), (.ref ro1)]))
    refine Rch.go (fun t k => acmp X3 hx (g := (mkF m 23 #[.val (.int p0), .val (.int (0 : Int32)), .val (.ref ro0), .val (.ref ro1)] [(.ref ro1), (.ref ro1)])) rfl (x := (.ref ro1)) (y := (.ref ro1)) rfl rfl (pc0 := 23) (pc' := 28) (same := true) rfl (hb hby at_23) rfl (decide_eq_true rfl) (by decide) (by decide) k) ?_
    show Rch p e below _ (T3.setTop (mkF m 28 #[.val (.int p0), .val (.int (0 : Int32)), .val (.ref ro0), .val (.ref ro1)] []))
    refine Rch.go (fun t k => XS.aloadN X3.here hx rfl (hb hby at_28) rfl rfl k) ?_
    show Rch p e below _ (T3.setTop (mkF m 29 #[.val (.int p0), .val (.int (0 : Int32)), .val (.ref ro0), .val (.ref ro1)] [(.ref ro1)]))
    obtain ⟨v4, T4, L4, X4, Q4, st4⟩ := callVi X3 hx hZ (int_1 l Z a0 hw ro1 ro0 ro1 ro2 ro3 ro4 ro5 ro6 ro7 ro8 ro9 h0 n0 Z0 O0 G G.2.2.2.2.2.2.2.2.2.2.2.2.2.2.2.2.2.2.2.2.2.1) e3 hown (wd_8 hw) (wd_9 hw) (wd_11 hw) (notFace_of_selects (args := #[]) (mvT hZ (wd_11 hw))) (wd_10 hw) (wd_12 hw) (wd_6 hw) (by decide) (hb hby at_29) 0 (by decide) (by decide) (by decide) (by decide) (by rw [hml]; rfl) ro1 (G.2.2.2.1.ext O0.2) [] [] rfl (lenOf pd_1 rfl) rfl (Nat.le_of_eq rfl) (Ls := #[.val (.int p0), .val (.int (0 : Int32)), .val (.ref ro0), .val (.ref ro1)])
    obtain ⟨rfl, M4, e4⟩ := Q4
    have N4 := Fr.app N3 M4
    refine Rch.go st4 ?_
    show Rch p e below _ (T4.setTop (mkF m 32 #[.val (.int p0), .val (.int (0 : Int32)), .val (.ref ro0), .val (.ref ro1)] [(.ref ro1)]))
    refine Rch.go (fun t k => XS.aloadN X4.here hx rfl (hb hby at_32) rfl rfl k) ?_
    show Rch p e below _ (T4.setTop (mkF m 33 #[.val (.int p0), .val (.int (0 : Int32)), .val (.ref ro0), .val (.ref ro1)] [(.ref ro1), (.ref ro1)]))
    refine Rch.go (fun t k => acmp X4 hx (g := (mkF m 33 #[.val (.int p0), .val (.int (0 : Int32)), .val (.ref ro0), .val (.ref ro1)] [(.ref ro1), (.ref ro1)])) rfl (x := (.ref ro1)) (y := (.ref ro1)) rfl rfl (pc0 := 33) (pc' := 36) (same := true) rfl (hb hby at_33) rfl (decide_eq_true rfl) (by decide) (by decide) k) ?_
    show Rch p e below _ (T4.setTop (mkF m 36 #[.val (.int p0), .val (.int (0 : Int32)), .val (.ref ro0), .val (.ref ro1)] []))
    refine Rch.go (fun t k => XS.iconst X4.here hx rfl (hb hby at_36) k) ?_
    show Rch p e below _ (T4.setTop (mkF m 37 #[.val (.int p0), .val (.int (0 : Int32)), .val (.ref ro0), .val (.ref ro1)] [(.int (1 : Int32))]))
    refine Rch.go (fun t k => XS.goto X4.here hx rfl (pc0 := 37) (pc' := 41) rfl (hb hby at_37) (by decide) (by decide) k) ?_
    show Rch p e below _ (T4.setTop (mkF m 41 #[.val (.int p0), .val (.int (0 : Int32)), .val (.ref ro0), .val (.ref ro1)] [(.int (1 : Int32))]))
    refine Rch.val X4 hx (t := .boolean) hret hlk rfl (mayI (by simp)) (hb hby at_41) (by decide) (by decide) ?_
    try rw [e4]
    exact ⟨rfl, N4⟩
  · rw [hq]
    show Rch p e below _ (T0.setTop (mkF m 7 #[.val (.int p0), .unset, .unset, .unset] [(.int (1 : Int32))]))
    refine Rch.go (fun t k => XS.istoreN X0.here hx rfl (hb hby at_7) rfl  (l' := #[.val (.int p0), .val (.int (1 : Int32)), .unset, .unset]) rfl k) ?_
    show Rch p e below _ (T0.setTop (mkF m 8 #[.val (.int p0), .val (.int (1 : Int32)), .unset, .unset] []))
    refine Rch.go (fun t k => XS.iloadN X0.here hx rfl (hb hby at_8) rfl  k) ?_
    show Rch p e below _ (T0.setTop (mkF m 9 #[.val (.int p0), .val (.int (1 : Int32)), .unset, .unset] [(.int (1 : Int32))]))
    obtain ⟨v5, T5, L5, X5, Q5, st5⟩ := callSt X0 hx hZ (pick_1 l Z a0 hw ro0 ro1 ro2 ro3 ro4 ro5 ro6 ro7 ro8 ro9 h0 n0 Z0 O0 G) e0 hown (wd_1 hw) (wd_2 hw) (wd_4 hw) (wd_3 hw) (by decide) (hb hby at_9) 0 (by decide) (by decide) (by decide) (by decide) (by rw [hml]; rfl) [(.int (1 : Int32))] [] rfl (lenOf pd_0 rfl) rfl (Nat.le_of_eq rfl) (Ls := #[.val (.int p0), .val (.int (1 : Int32)), .unset, .unset])
    obtain ⟨rfl, M5, e5⟩ := Q5
    have N5 := Fr.app N0 M5
    refine Rch.go st5 ?_
    show Rch p e below _ (T5.setTop (mkF m 12 #[.val (.int p0), .val (.int (1 : Int32)), .unset, .unset] [(.ref ro4)]))
    refine Rch.go (fun t k => XS.astoreN X5.here hx rfl (hb hby at_12) rfl rfl (l' := #[.val (.int p0), .val (.int (1 : Int32)), .val (.ref ro4), .unset]) rfl k) ?_
    show Rch p e below _ (T5.setTop (mkF m 13 #[.val (.int p0), .val (.int (1 : Int32)), .val (.ref ro4), .unset] []))
    refine Rch.go (fun t k => XS.aloadN X5.here hx rfl (hb hby at_13) rfl rfl k) ?_
    show Rch p e below _ (T5.setTop (mkF m 14 #[.val (.int p0), .val (.int (1 : Int32)), .val (.ref ro4), .unset] [(.ref ro4)]))
    obtain ⟨v6, T6, L6, X6, Q6, st6⟩ := callVi X5 hx hZ (int_1 l Z a0 hw ro4 ro0 ro1 ro2 ro3 ro4 ro5 ro6 ro7 ro8 ro9 h0 n0 Z0 O0 G G.2.2.2.2.2.2.2.2.2.2.2.2.2.2.2.2.2.2.2.2.2.2.2.2.1) e5 hown (wd_8 hw) (wd_9 hw) (wd_11 hw) (notFace_of_selects (args := #[]) (mvT hZ (wd_11 hw))) (wd_10 hw) (wd_12 hw) (wd_6 hw) (by decide) (hb hby at_14) 0 (by decide) (by decide) (by decide) (by decide) (by rw [hml]; rfl) ro4 (G.2.2.2.2.2.2.2.2.2.1.ext O0.2) [] [] rfl (lenOf pd_1 rfl) rfl (Nat.le_of_eq rfl) (Ls := #[.val (.int p0), .val (.int (1 : Int32)), .val (.ref ro4), .unset])
    obtain ⟨rfl, M6, e6⟩ := Q6
    have N6 := Fr.app N5 M6
    refine Rch.go st6 ?_
    show Rch p e below _ (T6.setTop (mkF m 17 #[.val (.int p0), .val (.int (1 : Int32)), .val (.ref ro4), .unset] [(.ref ro1)]))
    refine Rch.go (fun t k => XS.astoreN X6.here hx rfl (hb hby at_17) rfl rfl (l' := #[.val (.int p0), .val (.int (1 : Int32)), .val (.ref ro4), .val (.ref ro1)]) rfl k) ?_
    show Rch p e below _ (T6.setTop (mkF m 18 #[.val (.int p0), .val (.int (1 : Int32)), .val (.ref ro4), .val (.ref ro1)] []))
    refine Rch.go (fun t k => XS.aloadN X6.here hx rfl (hb hby at_18) rfl rfl k) ?_
    show Rch p e below _ (T6.setTop (mkF m 19 #[.val (.int p0), .val (.int (1 : Int32)), .val (.ref ro4), .val (.ref ro1)] [(.ref ro1)]))
    refine Rch.go (fun t k => XS.iloadN X6.here hx rfl (hb hby at_19) rfl  k) ?_
    show Rch p e below _ (T6.setTop (mkF m 20 #[.val (.int p0), .val (.int (1 : Int32)), .val (.ref ro4), .val (.ref ro1)] [(.int (1 : Int32)), (.ref ro1)]))
    obtain ⟨v7, T7, L7, X7, Q7, st7⟩ := callSt X6 hx hZ (exp_1 l Z a0 hw ro0 ro1 ro2 ro3 ro4 ro5 ro6 ro7 ro8 ro9 h0 n0 Z0 O0 G) e6 hown (wd_17 hw) (wd_18 hw) (wd_19 hw) (wd_3 hw) (by decide) (hb hby at_20) 1 (by decide) (by decide) (by decide) (by decide) (by rw [hml]; rfl) [(.int (1 : Int32))] [(.ref ro1)] rfl (lenOf pd_0 rfl) rfl (Nat.le_of_eq rfl) (Ls := #[.val (.int p0), .val (.int (1 : Int32)), .val (.ref ro4), .val (.ref ro1)])
    obtain ⟨rfl, M7, e7⟩ := Q7
    have N7 := Fr.app N6 M7
    refine Rch.go st7 ?_
    show Rch p e below _ (T7.setTop (mkF m 23 #[.val (.int p0), .val (.int (1 : Int32)), .val (.ref ro4), .val (.ref ro1)] [(.ref ro1), (.ref ro1)]))
    refine Rch.go (fun t k => acmp X7 hx (g := (mkF m 23 #[.val (.int p0), .val (.int (1 : Int32)), .val (.ref ro4), .val (.ref ro1)] [(.ref ro1), (.ref ro1)])) rfl (x := (.ref ro1)) (y := (.ref ro1)) rfl rfl (pc0 := 23) (pc' := 28) (same := true) rfl (hb hby at_23) rfl (decide_eq_true rfl) (by decide) (by decide) k) ?_
    show Rch p e below _ (T7.setTop (mkF m 28 #[.val (.int p0), .val (.int (1 : Int32)), .val (.ref ro4), .val (.ref ro1)] []))
    refine Rch.go (fun t k => XS.aloadN X7.here hx rfl (hb hby at_28) rfl rfl k) ?_
    show Rch p e below _ (T7.setTop (mkF m 29 #[.val (.int p0), .val (.int (1 : Int32)), .val (.ref ro4), .val (.ref ro1)] [(.ref ro1)]))
    obtain ⟨v8, T8, L8, X8, Q8, st8⟩ := callVi X7 hx hZ (int_1 l Z a0 hw ro1 ro0 ro1 ro2 ro3 ro4 ro5 ro6 ro7 ro8 ro9 h0 n0 Z0 O0 G G.2.2.2.2.2.2.2.2.2.2.2.2.2.2.2.2.2.2.2.2.2.1) e7 hown (wd_8 hw) (wd_9 hw) (wd_11 hw) (notFace_of_selects (args := #[]) (mvT hZ (wd_11 hw))) (wd_10 hw) (wd_12 hw) (wd_6 hw) (by decide) (hb hby at_29) 0 (by decide) (by decide) (by decide) (by decide) (by rw [hml]; rfl) ro1 (G.2.2.2.1.ext O0.2) [] [] rfl (lenOf pd_1 rfl) rfl (Nat.le_of_eq rfl) (Ls := #[.val (.int p0), .val (.int (1 : Int32)), .val (.ref ro4), .val (.ref ro1)])
    obtain ⟨rfl, M8, e8⟩ := Q8
    have N8 := Fr.app N7 M8
    refine Rch.go st8 ?_
    show Rch p e below _ (T8.setTop (mkF m 32 #[.val (.int p0), .val (.int (1 : Int32)), .val (.ref ro4), .val (.ref ro1)] [(.ref ro1)]))
    refine Rch.go (fun t k => XS.aloadN X8.here hx rfl (hb hby at_32) rfl rfl k) ?_
    show Rch p e below _ (T8.setTop (mkF m 33 #[.val (.int p0), .val (.int (1 : Int32)), .val (.ref ro4), .val (.ref ro1)] [(.ref ro1), (.ref ro1)]))
    refine Rch.go (fun t k => acmp X8 hx (g := (mkF m 33 #[.val (.int p0), .val (.int (1 : Int32)), .val (.ref ro4), .val (.ref ro1)] [(.ref ro1), (.ref ro1)])) rfl (x := (.ref ro1)) (y := (.ref ro1)) rfl rfl (pc0 := 33) (pc' := 36) (same := true) rfl (hb hby at_33) rfl (decide_eq_true rfl) (by decide) (by decide) k) ?_
    show Rch p e below _ (T8.setTop (mkF m 36 #[.val (.int p0), .val (.int (1 : Int32)), .val (.ref ro4), .val (.ref ro1)] []))
    refine Rch.go (fun t k => XS.iconst X8.here hx rfl (hb hby at_36) k) ?_
    show Rch p e below _ (T8.setTop (mkF m 37 #[.val (.int p0), .val (.int (1 : Int32)), .val (.ref ro4), .val (.ref ro1)] [(.int (1 : Int32))]))
    refine Rch.go (fun t k => XS.goto X8.here hx rfl (pc0 := 37) (pc' := 41) rfl (hb hby at_37) (by decide) (by decide) k) ?_
    show Rch p e below _ (T8.setTop (mkF m 41 #[.val (.int p0), .val (.int (1 : Int32)), .val (.ref ro4), .val (.ref ro1)] [(.int (1 : Int32))]))
    refine Rch.val X8 hx (t := .boolean) hret hlk rfl (mayI (by simp)) (hb hby at_41) (by decide) (by decide) ?_
    try rw [e8]
    exact ⟨rfl, N8⟩
  · rw [hq]
    show Rch p e below _ (T0.setTop (mkF m 7 #[.val (.int p0), .unset, .unset, .unset] [(.int (2 : Int32))]))
    refine Rch.go (fun t k => XS.istoreN X0.here hx rfl (hb hby at_7) rfl  (l' := #[.val (.int p0), .val (.int (2 : Int32)), .unset, .unset]) rfl k) ?_
    show Rch p e below _ (T0.setTop (mkF m 8 #[.val (.int p0), .val (.int (2 : Int32)), .unset, .unset] []))
    refine Rch.go (fun t k => XS.iloadN X0.here hx rfl (hb hby at_8) rfl  k) ?_
    show Rch p e below _ (T0.setTop (mkF m 9 #[.val (.int p0), .val (.int (2 : Int32)), .unset, .unset] [(.int (2 : Int32))]))
    obtain ⟨v9, T9, L9, X9, Q9, st9⟩ := callSt X0 hx hZ (pick_2 l Z a0 hw ro0 ro1 ro2 ro3 ro4 ro5 ro6 ro7 ro8 ro9 h0 n0 Z0 O0 G) e0 hown (wd_1 hw) (wd_2 hw) (wd_4 hw) (wd_3 hw) (by decide) (hb hby at_9) 0 (by decide) (by decide) (by decide) (by decide) (by rw [hml]; rfl) [(.int (2 : Int32))] [] rfl (lenOf pd_0 rfl) rfl (Nat.le_of_eq rfl) (Ls := #[.val (.int p0), .val (.int (2 : Int32)), .unset, .unset])
    obtain ⟨rfl, M9, e9⟩ := Q9
    have N9 := Fr.app N0 M9
    refine Rch.go st9 ?_
    show Rch p e below _ (T9.setTop (mkF m 12 #[.val (.int p0), .val (.int (2 : Int32)), .unset, .unset] [(.ref ro7)]))
    refine Rch.go (fun t k => XS.astoreN X9.here hx rfl (hb hby at_12) rfl rfl (l' := #[.val (.int p0), .val (.int (2 : Int32)), .val (.ref ro7), .unset]) rfl k) ?_
    show Rch p e below _ (T9.setTop (mkF m 13 #[.val (.int p0), .val (.int (2 : Int32)), .val (.ref ro7), .unset] []))
    refine Rch.go (fun t k => XS.aloadN X9.here hx rfl (hb hby at_13) rfl rfl k) ?_
    show Rch p e below _ (T9.setTop (mkF m 14 #[.val (.int p0), .val (.int (2 : Int32)), .val (.ref ro7), .unset] [(.ref ro7)]))
    obtain ⟨v10, T10, L10, X10, Q10, st10⟩ := callVi X9 hx hZ (int_0 l Z a0 hw ro7 ro0 ro1 ro2 ro3 ro4 ro5 ro6 ro7 ro8 ro9 h0 n0 Z0 O0 G G.2.2.2.2.2.2.2.2.2.2.2.2.2.2.2.2.2.2.2.2.2.2.2.2.2.2.2.1) e9 hown (wd_8 hw) (wd_9 hw) (wd_11 hw) (notFace_of_selects (args := #[]) (mvT hZ (wd_11 hw))) (wd_10 hw) (wd_12 hw) (wd_6 hw) (by decide) (hb hby at_14) 0 (by decide) (by decide) (by decide) (by decide) (by rw [hml]; rfl) ro7 (G.2.2.2.2.2.2.2.2.2.2.2.2.2.2.2.1.ext O0.2) [] [] rfl (lenOf pd_1 rfl) rfl (Nat.le_of_eq rfl) (Ls := #[.val (.int p0), .val (.int (2 : Int32)), .val (.ref ro7), .unset])
    obtain ⟨rfl, M10, e10⟩ := Q10
    have N10 := Fr.app N9 M10
    refine Rch.go st10 ?_
    show Rch p e below _ (T10.setTop (mkF m 17 #[.val (.int p0), .val (.int (2 : Int32)), .val (.ref ro7), .unset] [(.ref ro3)]))
    refine Rch.go (fun t k => XS.astoreN X10.here hx rfl (hb hby at_17) rfl rfl (l' := #[.val (.int p0), .val (.int (2 : Int32)), .val (.ref ro7), .val (.ref ro3)]) rfl k) ?_
    show Rch p e below _ (T10.setTop (mkF m 18 #[.val (.int p0), .val (.int (2 : Int32)), .val (.ref ro7), .val (.ref ro3)] []))
    refine Rch.go (fun t k => XS.aloadN X10.here hx rfl (hb hby at_18) rfl rfl k) ?_
    show Rch p e below _ (T10.setTop (mkF m 19 #[.val (.int p0), .val (.int (2 : Int32)), .val (.ref ro7), .val (.ref ro3)] [(.ref ro3)]))
    refine Rch.go (fun t k => XS.iloadN X10.here hx rfl (hb hby at_19) rfl  k) ?_
    show Rch p e below _ (T10.setTop (mkF m 20 #[.val (.int p0), .val (.int (2 : Int32)), .val (.ref ro7), .val (.ref ro3)] [(.int (2 : Int32)), (.ref ro3)]))
    obtain ⟨v11, T11, L11, X11, Q11, st11⟩ := callSt X10 hx hZ (exp_2 l Z a0 hw ro0 ro1 ro2 ro3 ro4 ro5 ro6 ro7 ro8 ro9 h0 n0 Z0 O0 G) e10 hown (wd_17 hw) (wd_18 hw) (wd_19 hw) (wd_3 hw) (by decide) (hb hby at_20) 1 (by decide) (by decide) (by decide) (by decide) (by rw [hml]; rfl) [(.int (2 : Int32))] [(.ref ro3)] rfl (lenOf pd_0 rfl) rfl (Nat.le_of_eq rfl) (Ls := #[.val (.int p0), .val (.int (2 : Int32)), .val (.ref ro7), .val (.ref ro3)])
    obtain ⟨rfl, M11, e11⟩ := Q11
    have N11 := Fr.app N10 M11
    refine Rch.go st11 ?_
    show Rch p e below _ (T11.setTop (mkF m 23 #[.val (.int p0), .val (.int (2 : Int32)), .val (.ref ro7), .val (.ref ro3)] [(.ref ro3), (.ref ro3)]))
    refine Rch.go (fun t k => acmp X11 hx (g := (mkF m 23 #[.val (.int p0), .val (.int (2 : Int32)), .val (.ref ro7), .val (.ref ro3)] [(.ref ro3), (.ref ro3)])) rfl (x := (.ref ro3)) (y := (.ref ro3)) rfl rfl (pc0 := 23) (pc' := 28) (same := true) rfl (hb hby at_23) rfl (decide_eq_true rfl) (by decide) (by decide) k) ?_
    show Rch p e below _ (T11.setTop (mkF m 28 #[.val (.int p0), .val (.int (2 : Int32)), .val (.ref ro7), .val (.ref ro3)] []))
    refine Rch.go (fun t k => XS.aloadN X11.here hx rfl (hb hby at_28) rfl rfl k) ?_
    show Rch p e below _ (T11.setTop (mkF m 29 #[.val (.int p0), .val (.int (2 : Int32)), .val (.ref ro7), .val (.ref ro3)] [(.ref ro3)]))
    obtain ⟨v12, T12, L12, X12, Q12, st12⟩ := callVi X11 hx hZ (int_0 l Z a0 hw ro3 ro0 ro1 ro2 ro3 ro4 ro5 ro6 ro7 ro8 ro9 h0 n0 Z0 O0 G G.2.2.2.2.2.2.2.2.2.2.2.2.2.2.2.2.2.2.2.2.2.2.2.1) e11 hown (wd_8 hw) (wd_9 hw) (wd_11 hw) (notFace_of_selects (args := #[]) (mvT hZ (wd_11 hw))) (wd_10 hw) (wd_12 hw) (wd_6 hw) (by decide) (hb hby at_29) 0 (by decide) (by decide) (by decide) (by decide) (by rw [hml]; rfl) ro3 (G.2.2.2.2.2.2.2.1.ext O0.2) [] [] rfl (lenOf pd_1 rfl) rfl (Nat.le_of_eq rfl) (Ls := #[.val (.int p0), .val (.int (2 : Int32)), .val (.ref ro7), .val (.ref ro3)])
    obtain ⟨rfl, M12, e12⟩ := Q12
    have N12 := Fr.app N11 M12
    refine Rch.go st12 ?_
    show Rch p e below _ (T12.setTop (mkF m 32 #[.val (.int p0), .val (.int (2 : Int32)), .val (.ref ro7), .val (.ref ro3)] [(.ref ro3)]))
    refine Rch.go (fun t k => XS.aloadN X12.here hx rfl (hb hby at_32) rfl rfl k) ?_
    show Rch p e below _ (T12.setTop (mkF m 33 #[.val (.int p0), .val (.int (2 : Int32)), .val (.ref ro7), .val (.ref ro3)] [(.ref ro3), (.ref ro3)]))
    refine Rch.go (fun t k => acmp X12 hx (g := (mkF m 33 #[.val (.int p0), .val (.int (2 : Int32)), .val (.ref ro7), .val (.ref ro3)] [(.ref ro3), (.ref ro3)])) rfl (x := (.ref ro3)) (y := (.ref ro3)) rfl rfl (pc0 := 33) (pc' := 36) (same := true) rfl (hb hby at_33) rfl (decide_eq_true rfl) (by decide) (by decide) k) ?_
    show Rch p e below _ (T12.setTop (mkF m 36 #[.val (.int p0), .val (.int (2 : Int32)), .val (.ref ro7), .val (.ref ro3)] []))
    refine Rch.go (fun t k => XS.iconst X12.here hx rfl (hb hby at_36) k) ?_
    show Rch p e below _ (T12.setTop (mkF m 37 #[.val (.int p0), .val (.int (2 : Int32)), .val (.ref ro7), .val (.ref ro3)] [(.int (1 : Int32))]))
    refine Rch.go (fun t k => XS.goto X12.here hx rfl (pc0 := 37) (pc' := 41) rfl (hb hby at_37) (by decide) (by decide) k) ?_
    show Rch p e below _ (T12.setTop (mkF m 41 #[.val (.int p0), .val (.int (2 : Int32)), .val (.ref ro7), .val (.ref ro3)] [(.int (1 : Int32))]))
    refine Rch.val X12 hx (t := .boolean) hret hlk rfl (mayI (by simp)) (hb hby at_41) (by decide) (by decide) ?_
    try rw [e12]
    exact ⟨rfl, N12⟩
  · rw [hq]
    show Rch p e below _ (T0.setTop (mkF m 7 #[.val (.int p0), .unset, .unset, .unset] [(.int (3 : Int32))]))
    refine Rch.go (fun t k => XS.istoreN X0.here hx rfl (hb hby at_7) rfl  (l' := #[.val (.int p0), .val (.int (3 : Int32)), .unset, .unset]) rfl k) ?_
    show Rch p e below _ (T0.setTop (mkF m 8 #[.val (.int p0), .val (.int (3 : Int32)), .unset, .unset] []))
    refine Rch.go (fun t k => XS.iloadN X0.here hx rfl (hb hby at_8) rfl  k) ?_
    show Rch p e below _ (T0.setTop (mkF m 9 #[.val (.int p0), .val (.int (3 : Int32)), .unset, .unset] [(.int (3 : Int32))]))
    obtain ⟨v13, T13, L13, X13, Q13, st13⟩ := callSt X0 hx hZ (pick_3 l Z a0 hw ro0 ro1 ro2 ro3 ro4 ro5 ro6 ro7 ro8 ro9 h0 n0 Z0 O0 G) e0 hown (wd_1 hw) (wd_2 hw) (wd_4 hw) (wd_3 hw) (by decide) (hb hby at_9) 0 (by decide) (by decide) (by decide) (by decide) (by rw [hml]; rfl) [(.int (3 : Int32))] [] rfl (lenOf pd_0 rfl) rfl (Nat.le_of_eq rfl) (Ls := #[.val (.int p0), .val (.int (3 : Int32)), .unset, .unset])
    obtain ⟨rfl, M13, e13⟩ := Q13
    have N13 := Fr.app N0 M13
    refine Rch.go st13 ?_
    show Rch p e below _ (T13.setTop (mkF m 12 #[.val (.int p0), .val (.int (3 : Int32)), .unset, .unset] [(.ref ro2)]))
    refine Rch.go (fun t k => XS.astoreN X13.here hx rfl (hb hby at_12) rfl rfl (l' := #[.val (.int p0), .val (.int (3 : Int32)), .val (.ref ro2), .unset]) rfl k) ?_
    show Rch p e below _ (T13.setTop (mkF m 13 #[.val (.int p0), .val (.int (3 : Int32)), .val (.ref ro2), .unset] []))
    refine Rch.go (fun t k => XS.aloadN X13.here hx rfl (hb hby at_13) rfl rfl k) ?_
    show Rch p e below _ (T13.setTop (mkF m 14 #[.val (.int p0), .val (.int (3 : Int32)), .val (.ref ro2), .unset] [(.ref ro2)]))
    obtain ⟨v14, T14, L14, X14, Q14, st14⟩ := callVi X13 hx hZ (int_0 l Z a0 hw ro2 ro0 ro1 ro2 ro3 ro4 ro5 ro6 ro7 ro8 ro9 h0 n0 Z0 O0 G G.2.2.2.2.2.2.2.2.2.2.2.2.2.2.2.2.2.2.2.2.2.2.1) e13 hown (wd_8 hw) (wd_9 hw) (wd_11 hw) (notFace_of_selects (args := #[]) (mvT hZ (wd_11 hw))) (wd_10 hw) (wd_12 hw) (wd_6 hw) (by decide) (hb hby at_14) 0 (by decide) (by decide) (by decide) (by decide) (by rw [hml]; rfl) ro2 (G.2.2.2.2.2.1.ext O0.2) [] [] rfl (lenOf pd_1 rfl) rfl (Nat.le_of_eq rfl) (Ls := #[.val (.int p0), .val (.int (3 : Int32)), .val (.ref ro2), .unset])
    obtain ⟨rfl, M14, e14⟩ := Q14
    have N14 := Fr.app N13 M14
    refine Rch.go st14 ?_
    show Rch p e below _ (T14.setTop (mkF m 17 #[.val (.int p0), .val (.int (3 : Int32)), .val (.ref ro2), .unset] [(.ref ro3)]))
    refine Rch.go (fun t k => XS.astoreN X14.here hx rfl (hb hby at_17) rfl rfl (l' := #[.val (.int p0), .val (.int (3 : Int32)), .val (.ref ro2), .val (.ref ro3)]) rfl k) ?_
    show Rch p e below _ (T14.setTop (mkF m 18 #[.val (.int p0), .val (.int (3 : Int32)), .val (.ref ro2), .val (.ref ro3)] []))
    refine Rch.go (fun t k => XS.aloadN X14.here hx rfl (hb hby at_18) rfl rfl k) ?_
    show Rch p e below _ (T14.setTop (mkF m 19 #[.val (.int p0), .val (.int (3 : Int32)), .val (.ref ro2), .val (.ref ro3)] [(.ref ro3)]))
    refine Rch.go (fun t k => XS.iloadN X14.here hx rfl (hb hby at_19) rfl  k) ?_
    show Rch p e below _ (T14.setTop (mkF m 20 #[.val (.int p0), .val (.int (3 : Int32)), .val (.ref ro2), .val (.ref ro3)] [(.int (3 : Int32)), (.ref ro3)]))
    obtain ⟨v15, T15, L15, X15, Q15, st15⟩ := callSt X14 hx hZ (exp_3 l Z a0 hw ro0 ro1 ro2 ro3 ro4 ro5 ro6 ro7 ro8 ro9 h0 n0 Z0 O0 G) e14 hown (wd_17 hw) (wd_18 hw) (wd_19 hw) (wd_3 hw) (by decide) (hb hby at_20) 1 (by decide) (by decide) (by decide) (by decide) (by rw [hml]; rfl) [(.int (3 : Int32))] [(.ref ro3)] rfl (lenOf pd_0 rfl) rfl (Nat.le_of_eq rfl) (Ls := #[.val (.int p0), .val (.int (3 : Int32)), .val (.ref ro2), .val (.ref ro3)])
    obtain ⟨rfl, M15, e15⟩ := Q15
    have N15 := Fr.app N14 M15
    refine Rch.go st15 ?_
    show Rch p e below _ (T15.setTop (mkF m 23 #[.val (.int p0), .val (.int (3 : Int32)), .val (.ref ro2), .val (.ref ro3)] [(.ref ro3), (.ref ro3)]))
    refine Rch.go (fun t k => acmp X15 hx (g := (mkF m 23 #[.val (.int p0), .val (.int (3 : Int32)), .val (.ref ro2), .val (.ref ro3)] [(.ref ro3), (.ref ro3)])) rfl (x := (.ref ro3)) (y := (.ref ro3)) rfl rfl (pc0 := 23) (pc' := 28) (same := true) rfl (hb hby at_23) rfl (decide_eq_true rfl) (by decide) (by decide) k) ?_
    show Rch p e below _ (T15.setTop (mkF m 28 #[.val (.int p0), .val (.int (3 : Int32)), .val (.ref ro2), .val (.ref ro3)] []))
    refine Rch.go (fun t k => XS.aloadN X15.here hx rfl (hb hby at_28) rfl rfl k) ?_
    show Rch p e below _ (T15.setTop (mkF m 29 #[.val (.int p0), .val (.int (3 : Int32)), .val (.ref ro2), .val (.ref ro3)] [(.ref ro3)]))
    obtain ⟨v16, T16, L16, X16, Q16, st16⟩ := callVi X15 hx hZ (int_0 l Z a0 hw ro3 ro0 ro1 ro2 ro3 ro4 ro5 ro6 ro7 ro8 ro9 h0 n0 Z0 O0 G G.2.2.2.2.2.2.2.2.2.2.2.2.2.2.2.2.2.2.2.2.2.2.2.1) e15 hown (wd_8 hw) (wd_9 hw) (wd_11 hw) (notFace_of_selects (args := #[]) (mvT hZ (wd_11 hw))) (wd_10 hw) (wd_12 hw) (wd_6 hw) (by decide) (hb hby at_29) 0 (by decide) (by decide) (by decide) (by decide) (by rw [hml]; rfl) ro3 (G.2.2.2.2.2.2.2.1.ext O0.2) [] [] rfl (lenOf pd_1 rfl) rfl (Nat.le_of_eq rfl) (Ls := #[.val (.int p0), .val (.int (3 : Int32)), .val (.ref ro2), .val (.ref ro3)])
    obtain ⟨rfl, M16, e16⟩ := Q16
    have N16 := Fr.app N15 M16
    refine Rch.go st16 ?_
    show Rch p e below _ (T16.setTop (mkF m 32 #[.val (.int p0), .val (.int (3 : Int32)), .val (.ref ro2), .val (.ref ro3)] [(.ref ro3)]))
    refine Rch.go (fun t k => XS.aloadN X16.here hx rfl (hb hby at_32) rfl rfl k) ?_
    show Rch p e below _ (T16.setTop (mkF m 33 #[.val (.int p0), .val (.int (3 : Int32)), .val (.ref ro2), .val (.ref ro3)] [(.ref ro3), (.ref ro3)]))
    refine Rch.go (fun t k => acmp X16 hx (g := (mkF m 33 #[.val (.int p0), .val (.int (3 : Int32)), .val (.ref ro2), .val (.ref ro3)] [(.ref ro3), (.ref ro3)])) rfl (x := (.ref ro3)) (y := (.ref ro3)) rfl rfl (pc0 := 33) (pc' := 36) (same := true) rfl (hb hby at_33) rfl (decide_eq_true rfl) (by decide) (by decide) k) ?_
    show Rch p e below _ (T16.setTop (mkF m 36 #[.val (.int p0), .val (.int (3 : Int32)), .val (.ref ro2), .val (.ref ro3)] []))
    refine Rch.go (fun t k => XS.iconst X16.here hx rfl (hb hby at_36) k) ?_
    show Rch p e below _ (T16.setTop (mkF m 37 #[.val (.int p0), .val (.int (3 : Int32)), .val (.ref ro2), .val (.ref ro3)] [(.int (1 : Int32))]))
    refine Rch.go (fun t k => XS.goto X16.here hx rfl (pc0 := 37) (pc' := 41) rfl (hb hby at_37) (by decide) (by decide) k) ?_
    show Rch p e below _ (T16.setTop (mkF m 41 #[.val (.int p0), .val (.int (3 : Int32)), .val (.ref ro2), .val (.ref ro3)] [(.int (1 : Int32))]))
    refine Rch.val X16 hx (t := .boolean) hret hlk rfl (mayI (by simp)) (hb hby at_41) (by decide) (by decide) ?_
    try rw [e16]
    exact ⟨rfl, N16⟩
  · rw [hq]
    show Rch p e below _ (T0.setTop (mkF m 7 #[.val (.int p0), .unset, .unset, .unset] [(.int (4 : Int32))]))
    refine Rch.go (fun t k => XS.istoreN X0.here hx rfl (hb hby at_7) rfl  (l' := #[.val (.int p0), .val (.int (4 : Int32)), .unset, .unset]) rfl k) ?_
    show Rch p e below _ (T0.setTop (mkF m 8 #[.val (.int p0), .val (.int (4 : Int32)), .unset, .unset] []))
    refine Rch.go (fun t k => XS.iloadN X0.here hx rfl (hb hby at_8) rfl  k) ?_
    show Rch p e below _ (T0.setTop (mkF m 9 #[.val (.int p0), .val (.int (4 : Int32)), .unset, .unset] [(.int (4 : Int32))]))
    obtain ⟨v17, T17, L17, X17, Q17, st17⟩ := callSt X0 hx hZ (pick_4 l Z a0 hw ro0 ro1 ro2 ro3 ro4 ro5 ro6 ro7 ro8 ro9 h0 n0 Z0 O0 G) e0 hown (wd_1 hw) (wd_2 hw) (wd_4 hw) (wd_3 hw) (by decide) (hb hby at_9) 0 (by decide) (by decide) (by decide) (by decide) (by rw [hml]; rfl) [(.int (4 : Int32))] [] rfl (lenOf pd_0 rfl) rfl (Nat.le_of_eq rfl) (Ls := #[.val (.int p0), .val (.int (4 : Int32)), .unset, .unset])
    obtain ⟨rfl, M17, e17⟩ := Q17
    have N17 := Fr.app N0 M17
    refine Rch.go st17 ?_
    show Rch p e below _ (T17.setTop (mkF m 12 #[.val (.int p0), .val (.int (4 : Int32)), .unset, .unset] [(.ref ro5)]))
    refine Rch.go (fun t k => XS.astoreN X17.here hx rfl (hb hby at_12) rfl rfl (l' := #[.val (.int p0), .val (.int (4 : Int32)), .val (.ref ro5), .unset]) rfl k) ?_
    show Rch p e below _ (T17.setTop (mkF m 13 #[.val (.int p0), .val (.int (4 : Int32)), .val (.ref ro5), .unset] []))
    refine Rch.go (fun t k => XS.aloadN X17.here hx rfl (hb hby at_13) rfl rfl k) ?_
    show Rch p e below _ (T17.setTop (mkF m 14 #[.val (.int p0), .val (.int (4 : Int32)), .val (.ref ro5), .unset] [(.ref ro5)]))
    obtain ⟨v18, T18, L18, X18, Q18, st18⟩ := callVi X17 hx hZ (int_0 l Z a0 hw ro5 ro0 ro1 ro2 ro3 ro4 ro5 ro6 ro7 ro8 ro9 h0 n0 Z0 O0 G G.2.2.2.2.2.2.2.2.2.2.2.2.2.2.2.2.2.2.2.2.2.2.2.2.2.1) e17 hown (wd_8 hw) (wd_9 hw) (wd_11 hw) (notFace_of_selects (args := #[]) (mvT hZ (wd_11 hw))) (wd_10 hw) (wd_12 hw) (wd_6 hw) (by decide) (hb hby at_14) 0 (by decide) (by decide) (by decide) (by decide) (by rw [hml]; rfl) ro5 (G.2.2.2.2.2.2.2.2.2.2.2.1.ext O0.2) [] [] rfl (lenOf pd_1 rfl) rfl (Nat.le_of_eq rfl) (Ls := #[.val (.int p0), .val (.int (4 : Int32)), .val (.ref ro5), .unset])
    obtain ⟨rfl, M18, e18⟩ := Q18
    have N18 := Fr.app N17 M18
    refine Rch.go st18 ?_
    show Rch p e below _ (T18.setTop (mkF m 17 #[.val (.int p0), .val (.int (4 : Int32)), .val (.ref ro5), .unset] [(.ref ro3)]))
    refine Rch.go (fun t k => XS.astoreN X18.here hx rfl (hb hby at_17) rfl rfl (l' := #[.val (.int p0), .val (.int (4 : Int32)), .val (.ref ro5), .val (.ref ro3)]) rfl k) ?_
    show Rch p e below _ (T18.setTop (mkF m 18 #[.val (.int p0), .val (.int (4 : Int32)), .val (.ref ro5), .val (.ref ro3)] []))
    refine Rch.go (fun t k => XS.aloadN X18.here hx rfl (hb hby at_18) rfl rfl k) ?_
    show Rch p e below _ (T18.setTop (mkF m 19 #[.val (.int p0), .val (.int (4 : Int32)), .val (.ref ro5), .val (.ref ro3)] [(.ref ro3)]))
    refine Rch.go (fun t k => XS.iloadN X18.here hx rfl (hb hby at_19) rfl  k) ?_
    show Rch p e below _ (T18.setTop (mkF m 20 #[.val (.int p0), .val (.int (4 : Int32)), .val (.ref ro5), .val (.ref ro3)] [(.int (4 : Int32)), (.ref ro3)]))
    obtain ⟨v19, T19, L19, X19, Q19, st19⟩ := callSt X18 hx hZ (exp_4 l Z a0 hw ro0 ro1 ro2 ro3 ro4 ro5 ro6 ro7 ro8 ro9 h0 n0 Z0 O0 G) e18 hown (wd_17 hw) (wd_18 hw) (wd_19 hw) (wd_3 hw) (by decide) (hb hby at_20) 1 (by decide) (by decide) (by decide) (by decide) (by rw [hml]; rfl) [(.int (4 : Int32))] [(.ref ro3)] rfl (lenOf pd_0 rfl) rfl (Nat.le_of_eq rfl) (Ls := #[.val (.int p0), .val (.int (4 : Int32)), .val (.ref ro5), .val (.ref ro3)])
    obtain ⟨rfl, M19, e19⟩ := Q19
    have N19 := Fr.app N18 M19
    refine Rch.go st19 ?_
    show Rch p e below _ (T19.setTop (mkF m 23 #[.val (.int p0), .val (.int (4 : Int32)), .val (.ref ro5), .val (.ref ro3)] [(.ref ro3), (.ref ro3)]))
    refine Rch.go (fun t k => acmp X19 hx (g := (mkF m 23 #[.val (.int p0), .val (.int (4 : Int32)), .val (.ref ro5), .val (.ref ro3)] [(.ref ro3), (.ref ro3)])) rfl (x := (.ref ro3)) (y := (.ref ro3)) rfl rfl (pc0 := 23) (pc' := 28) (same := true) rfl (hb hby at_23) rfl (decide_eq_true rfl) (by decide) (by decide) k) ?_
    show Rch p e below _ (T19.setTop (mkF m 28 #[.val (.int p0), .val (.int (4 : Int32)), .val (.ref ro5), .val (.ref ro3)] []))
    refine Rch.go (fun t k => XS.aloadN X19.here hx rfl (hb hby at_28) rfl rfl k) ?_
    show Rch p e below _ (T19.setTop (mkF m 29 #[.val (.int p0), .val (.int (4 : Int32)), .val (.ref ro5), .val (.ref ro3)] [(.ref ro3)]))
    obtain ⟨v20, T20, L20, X20, Q20, st20⟩ := callVi X19 hx hZ (int_0 l Z a0 hw ro3 ro0 ro1 ro2 ro3 ro4 ro5 ro6 ro7 ro8 ro9 h0 n0 Z0 O0 G G.2.2.2.2.2.2.2.2.2.2.2.2.2.2.2.2.2.2.2.2.2.2.2.1) e19 hown (wd_8 hw) (wd_9 hw) (wd_11 hw) (notFace_of_selects (args := #[]) (mvT hZ (wd_11 hw))) (wd_10 hw) (wd_12 hw) (wd_6 hw) (by decide) (hb hby at_29) 0 (by decide) (by decide) (by decide) (by decide) (by rw [hml]; rfl) ro3 (G.2.2.2.2.2.2.2.1.ext O0.2) [] [] rfl (lenOf pd_1 rfl) rfl (Nat.le_of_eq rfl) (Ls := #[.val (.int p0), .val (.int (4 : Int32)), .val (.ref ro5), .val (.ref ro3)])
    obtain ⟨rfl, M20, e20⟩ := Q20
    have N20 := Fr.app N19 M20
    refine Rch.go st20 ?_
    show Rch p e below _ (T20.setTop (mkF m 32 #[.val (.int p0), .val (.int (4 : Int32)), .val (.ref ro5), .val (.ref ro3)] [(.ref ro3)]))
    refine Rch.go (fun t k => XS.aloadN X20.here hx rfl (hb hby at_32) rfl rfl k) ?_
    show Rch p e below _ (T20.setTop (mkF m 33 #[.val (.int p0), .val (.int (4 : Int32)), .val (.ref ro5), .val (.ref ro3)] [(.ref ro3), (.ref ro3)]))
    refine Rch.go (fun t k => acmp X20 hx (g := (mkF m 33 #[.val (.int p0), .val (.int (4 : Int32)), .val (.ref ro5), .val (.ref ro3)] [(.ref ro3), (.ref ro3)])) rfl (x := (.ref ro3)) (y := (.ref ro3)) rfl rfl (pc0 := 33) (pc' := 36) (same := true) rfl (hb hby at_33) rfl (decide_eq_true rfl) (by decide) (by decide) k) ?_
    show Rch p e below _ (T20.setTop (mkF m 36 #[.val (.int p0), .val (.int (4 : Int32)), .val (.ref ro5), .val (.ref ro3)] []))
    refine Rch.go (fun t k => XS.iconst X20.here hx rfl (hb hby at_36) k) ?_
    show Rch p e below _ (T20.setTop (mkF m 37 #[.val (.int p0), .val (.int (4 : Int32)), .val (.ref ro5), .val (.ref ro3)] [(.int (1 : Int32))]))
    refine Rch.go (fun t k => XS.goto X20.here hx rfl (pc0 := 37) (pc' := 41) rfl (hb hby at_37) (by decide) (by decide) k) ?_
    show Rch p e below _ (T20.setTop (mkF m 41 #[.val (.int p0), .val (.int (4 : Int32)), .val (.ref ro5), .val (.ref ro3)] [(.int (1 : Int32))]))
    refine Rch.val X20 hx (t := .boolean) hret hlk rfl (mayI (by simp)) (hb hby at_41) (by decide) (by decide) ?_
    try rw [e20]
    exact ⟨rfl, N20⟩
  · rw [hq]
    show Rch p e below _ (T0.setTop (mkF m 7 #[.val (.int p0), .unset, .unset, .unset] [(.int (5 : Int32))]))
    refine Rch.go (fun t k => XS.istoreN X0.here hx rfl (hb hby at_7) rfl  (l' := #[.val (.int p0), .val (.int (5 : Int32)), .unset, .unset]) rfl k) ?_
    show Rch p e below _ (T0.setTop (mkF m 8 #[.val (.int p0), .val (.int (5 : Int32)), .unset, .unset] []))
    refine Rch.go (fun t k => XS.iloadN X0.here hx rfl (hb hby at_8) rfl  k) ?_
    show Rch p e below _ (T0.setTop (mkF m 9 #[.val (.int p0), .val (.int (5 : Int32)), .unset, .unset] [(.int (5 : Int32))]))
    obtain ⟨v21, T21, L21, X21, Q21, st21⟩ := callSt X0 hx hZ (pick_5 l Z a0 hw ro0 ro1 ro2 ro3 ro4 ro5 ro6 ro7 ro8 ro9 h0 n0 Z0 O0 G) e0 hown (wd_1 hw) (wd_2 hw) (wd_4 hw) (wd_3 hw) (by decide) (hb hby at_9) 0 (by decide) (by decide) (by decide) (by decide) (by rw [hml]; rfl) [(.int (5 : Int32))] [] rfl (lenOf pd_0 rfl) rfl (Nat.le_of_eq rfl) (Ls := #[.val (.int p0), .val (.int (5 : Int32)), .unset, .unset])
    obtain ⟨rfl, M21, e21⟩ := Q21
    have N21 := Fr.app N0 M21
    refine Rch.go st21 ?_
    show Rch p e below _ (T21.setTop (mkF m 12 #[.val (.int p0), .val (.int (5 : Int32)), .unset, .unset] [(.ref ro8)]))
    refine Rch.go (fun t k => XS.astoreN X21.here hx rfl (hb hby at_12) rfl rfl (l' := #[.val (.int p0), .val (.int (5 : Int32)), .val (.ref ro8), .unset]) rfl k) ?_
    show Rch p e below _ (T21.setTop (mkF m 13 #[.val (.int p0), .val (.int (5 : Int32)), .val (.ref ro8), .unset] []))
    refine Rch.go (fun t k => XS.aloadN X21.here hx rfl (hb hby at_13) rfl rfl k) ?_
    show Rch p e below _ (T21.setTop (mkF m 14 #[.val (.int p0), .val (.int (5 : Int32)), .val (.ref ro8), .unset] [(.ref ro8)]))
    obtain ⟨v22, T22, L22, X22, Q22, st22⟩ := callVi X21 hx hZ (int_0 l Z a0 hw ro8 ro0 ro1 ro2 ro3 ro4 ro5 ro6 ro7 ro8 ro9 h0 n0 Z0 O0 G G.2.2.2.2.2.2.2.2.2.2.2.2.2.2.2.2.2.2.2.2.2.2.2.2.2.2.2.2.1) e21 hown (wd_8 hw) (wd_9 hw) (wd_11 hw) (notFace_of_selects (args := #[]) (mvT hZ (wd_11 hw))) (wd_10 hw) (wd_12 hw) (wd_6 hw) (by decide) (hb hby at_14) 0 (by decide) (by decide) (by decide) (by decide) (by rw [hml]; rfl) ro8 (G.2.2.2.2.2.2.2.2.2.2.2.2.2.2.2.2.2.1.ext O0.2) [] [] rfl (lenOf pd_1 rfl) rfl (Nat.le_of_eq rfl) (Ls := #[.val (.int p0), .val (.int (5 : Int32)), .val (.ref ro8), .unset])
    obtain ⟨rfl, M22, e22⟩ := Q22
    have N22 := Fr.app N21 M22
    refine Rch.go st22 ?_
    show Rch p e below _ (T22.setTop (mkF m 17 #[.val (.int p0), .val (.int (5 : Int32)), .val (.ref ro8), .unset] [(.ref ro3)]))
    refine Rch.go (fun t k => XS.astoreN X22.here hx rfl (hb hby at_17) rfl rfl (l' := #[.val (.int p0), .val (.int (5 : Int32)), .val (.ref ro8), .val (.ref ro3)]) rfl k) ?_
    show Rch p e below _ (T22.setTop (mkF m 18 #[.val (.int p0), .val (.int (5 : Int32)), .val (.ref ro8), .val (.ref ro3)] []))
    refine Rch.go (fun t k => XS.aloadN X22.here hx rfl (hb hby at_18) rfl rfl k) ?_
    show Rch p e below _ (T22.setTop (mkF m 19 #[.val (.int p0), .val (.int (5 : Int32)), .val (.ref ro8), .val (.ref ro3)] [(.ref ro3)]))
    refine Rch.go (fun t k => XS.iloadN X22.here hx rfl (hb hby at_19) rfl  k) ?_
    show Rch p e below _ (T22.setTop (mkF m 20 #[.val (.int p0), .val (.int (5 : Int32)), .val (.ref ro8), .val (.ref ro3)] [(.int (5 : Int32)), (.ref ro3)]))
    obtain ⟨v23, T23, L23, X23, Q23, st23⟩ := callSt X22 hx hZ (exp_5 l Z a0 hw ro0 ro1 ro2 ro3 ro4 ro5 ro6 ro7 ro8 ro9 h0 n0 Z0 O0 G) e22 hown (wd_17 hw) (wd_18 hw) (wd_19 hw) (wd_3 hw) (by decide) (hb hby at_20) 1 (by decide) (by decide) (by decide) (by decide) (by rw [hml]; rfl) [(.int (5 : Int32))] [(.ref ro3)] rfl (lenOf pd_0 rfl) rfl (Nat.le_of_eq rfl) (Ls := #[.val (.int p0), .val (.int (5 : Int32)), .val (.ref ro8), .val (.ref ro3)])
    obtain ⟨rfl, M23, e23⟩ := Q23
    have N23 := Fr.app N22 M23
    refine Rch.go st23 ?_
    show Rch p e below _ (T23.setTop (mkF m 23 #[.val (.int p0), .val (.int (5 : Int32)), .val (.ref ro8), .val (.ref ro3)] [(.ref ro3), (.ref ro3)]))
    refine Rch.go (fun t k => acmp X23 hx (g := (mkF m 23 #[.val (.int p0), .val (.int (5 : Int32)), .val (.ref ro8), .val (.ref ro3)] [(.ref ro3), (.ref ro3)])) rfl (x := (.ref ro3)) (y := (.ref ro3)) rfl rfl (pc0 := 23) (pc' := 28) (same := true) rfl (hb hby at_23) rfl (decide_eq_true rfl) (by decide) (by decide) k) ?_
    show Rch p e below _ (T23.setTop (mkF m 28 #[.val (.int p0), .val (.int (5 : Int32)), .val (.ref ro8), .val (.ref ro3)] []))
    refine Rch.go (fun t k => XS.aloadN X23.here hx rfl (hb hby at_28) rfl rfl k) ?_
    show Rch p e below _ (T23.setTop (mkF m 29 #[.val (.int p0), .val (.int (5 : Int32)), .val (.ref ro8), .val (.ref ro3)] [(.ref ro3)]))
    obtain ⟨v24, T24, L24, X24, Q24, st24⟩ := callVi X23 hx hZ (int_0 l Z a0 hw ro3 ro0 ro1 ro2 ro3 ro4 ro5 ro6 ro7 ro8 ro9 h0 n0 Z0 O0 G G.2.2.2.2.2.2.2.2.2.2.2.2.2.2.2.2.2.2.2.2.2.2.2.1) e23 hown (wd_8 hw) (wd_9 hw) (wd_11 hw) (notFace_of_selects (args := #[]) (mvT hZ (wd_11 hw))) (wd_10 hw) (wd_12 hw) (wd_6 hw) (by decide) (hb hby at_29) 0 (by decide) (by decide) (by decide) (by decide) (by rw [hml]; rfl) ro3 (G.2.2.2.2.2.2.2.1.ext O0.2) [] [] rfl (lenOf pd_1 rfl) rfl (Nat.le_of_eq rfl) (Ls := #[.val (.int p0), .val (.int (5 : Int32)), .val (.ref ro8), .val (.ref ro3)])
    obtain ⟨rfl, M24, e24⟩ := Q24
    have N24 := Fr.app N23 M24
    refine Rch.go st24 ?_
    show Rch p e below _ (T24.setTop (mkF m 32 #[.val (.int p0), .val (.int (5 : Int32)), .val (.ref ro8), .val (.ref ro3)] [(.ref ro3)]))
    refine Rch.go (fun t k => XS.aloadN X24.here hx rfl (hb hby at_32) rfl rfl k) ?_
    show Rch p e below _ (T24.setTop (mkF m 33 #[.val (.int p0), .val (.int (5 : Int32)), .val (.ref ro8), .val (.ref ro3)] [(.ref ro3), (.ref ro3)]))
    refine Rch.go (fun t k => acmp X24 hx (g := (mkF m 33 #[.val (.int p0), .val (.int (5 : Int32)), .val (.ref ro8), .val (.ref ro3)] [(.ref ro3), (.ref ro3)])) rfl (x := (.ref ro3)) (y := (.ref ro3)) rfl rfl (pc0 := 33) (pc' := 36) (same := true) rfl (hb hby at_33) rfl (decide_eq_true rfl) (by decide) (by decide) k) ?_
    show Rch p e below _ (T24.setTop (mkF m 36 #[.val (.int p0), .val (.int (5 : Int32)), .val (.ref ro8), .val (.ref ro3)] []))
    refine Rch.go (fun t k => XS.iconst X24.here hx rfl (hb hby at_36) k) ?_
    show Rch p e below _ (T24.setTop (mkF m 37 #[.val (.int p0), .val (.int (5 : Int32)), .val (.ref ro8), .val (.ref ro3)] [(.int (1 : Int32))]))
    refine Rch.go (fun t k => XS.goto X24.here hx rfl (pc0 := 37) (pc' := 41) rfl (hb hby at_37) (by decide) (by decide) k) ?_
    show Rch p e below _ (T24.setTop (mkF m 41 #[.val (.int p0), .val (.int (5 : Int32)), .val (.ref ro8), .val (.ref ro3)] [(.int (1 : Int32))]))
    refine Rch.val X24 hx (t := .boolean) hret hlk rfl (mayI (by simp)) (hb hby at_41) (by decide) (by decide) ?_
    try rw [e24]
    exact ⟨rfl, N24⟩
  · rw [hq]
    show Rch p e below _ (T0.setTop (mkF m 7 #[.val (.int p0), .unset, .unset, .unset] [(.int (6 : Int32))]))
    refine Rch.go (fun t k => XS.istoreN X0.here hx rfl (hb hby at_7) rfl  (l' := #[.val (.int p0), .val (.int (6 : Int32)), .unset, .unset]) rfl k) ?_
    show Rch p e below _ (T0.setTop (mkF m 8 #[.val (.int p0), .val (.int (6 : Int32)), .unset, .unset] []))
    refine Rch.go (fun t k => XS.iloadN X0.here hx rfl (hb hby at_8) rfl  k) ?_
    show Rch p e below _ (T0.setTop (mkF m 9 #[.val (.int p0), .val (.int (6 : Int32)), .unset, .unset] [(.int (6 : Int32))]))
    obtain ⟨v25, T25, L25, X25, Q25, st25⟩ := callSt X0 hx hZ (pick_6 l Z a0 hw ro0 ro1 ro2 ro3 ro4 ro5 ro6 ro7 ro8 ro9 h0 n0 Z0 O0 G) e0 hown (wd_1 hw) (wd_2 hw) (wd_4 hw) (wd_3 hw) (by decide) (hb hby at_9) 0 (by decide) (by decide) (by decide) (by decide) (by rw [hml]; rfl) [(.int (6 : Int32))] [] rfl (lenOf pd_0 rfl) rfl (Nat.le_of_eq rfl) (Ls := #[.val (.int p0), .val (.int (6 : Int32)), .unset, .unset])
    obtain ⟨rfl, M25, e25⟩ := Q25
    have N25 := Fr.app N0 M25
    refine Rch.go st25 ?_
    show Rch p e below _ (T25.setTop (mkF m 12 #[.val (.int p0), .val (.int (6 : Int32)), .unset, .unset] [(.ref ro9)]))
    refine Rch.go (fun t k => XS.astoreN X25.here hx rfl (hb hby at_12) rfl rfl (l' := #[.val (.int p0), .val (.int (6 : Int32)), .val (.ref ro9), .unset]) rfl k) ?_
    show Rch p e below _ (T25.setTop (mkF m 13 #[.val (.int p0), .val (.int (6 : Int32)), .val (.ref ro9), .unset] []))
    refine Rch.go (fun t k => XS.aloadN X25.here hx rfl (hb hby at_13) rfl rfl k) ?_
    show Rch p e below _ (T25.setTop (mkF m 14 #[.val (.int p0), .val (.int (6 : Int32)), .val (.ref ro9), .unset] [(.ref ro9)]))
    obtain ⟨v26, T26, L26, X26, Q26, st26⟩ := callVi X25 hx hZ (int_0 l Z a0 hw ro9 ro0 ro1 ro2 ro3 ro4 ro5 ro6 ro7 ro8 ro9 h0 n0 Z0 O0 G G.2.2.2.2.2.2.2.2.2.2.2.2.2.2.2.2.2.2.2.2.2.2.2.2.2.2.2.2.2) e25 hown (wd_8 hw) (wd_9 hw) (wd_11 hw) (notFace_of_selects (args := #[]) (mvT hZ (wd_11 hw))) (wd_10 hw) (wd_12 hw) (wd_6 hw) (by decide) (hb hby at_14) 0 (by decide) (by decide) (by decide) (by decide) (by rw [hml]; rfl) ro9 (G.2.2.2.2.2.2.2.2.2.2.2.2.2.2.2.2.2.2.2.1.ext O0.2) [] [] rfl (lenOf pd_1 rfl) rfl (Nat.le_of_eq rfl) (Ls := #[.val (.int p0), .val (.int (6 : Int32)), .val (.ref ro9), .unset])
    obtain ⟨rfl, M26, e26⟩ := Q26
    have N26 := Fr.app N25 M26
    refine Rch.go st26 ?_
    show Rch p e below _ (T26.setTop (mkF m 17 #[.val (.int p0), .val (.int (6 : Int32)), .val (.ref ro9), .unset] [(.ref ro3)]))
    refine Rch.go (fun t k => XS.astoreN X26.here hx rfl (hb hby at_17) rfl rfl (l' := #[.val (.int p0), .val (.int (6 : Int32)), .val (.ref ro9), .val (.ref ro3)]) rfl k) ?_
    show Rch p e below _ (T26.setTop (mkF m 18 #[.val (.int p0), .val (.int (6 : Int32)), .val (.ref ro9), .val (.ref ro3)] []))
    refine Rch.go (fun t k => XS.aloadN X26.here hx rfl (hb hby at_18) rfl rfl k) ?_
    show Rch p e below _ (T26.setTop (mkF m 19 #[.val (.int p0), .val (.int (6 : Int32)), .val (.ref ro9), .val (.ref ro3)] [(.ref ro3)]))
    refine Rch.go (fun t k => XS.iloadN X26.here hx rfl (hb hby at_19) rfl  k) ?_
    show Rch p e below _ (T26.setTop (mkF m 20 #[.val (.int p0), .val (.int (6 : Int32)), .val (.ref ro9), .val (.ref ro3)] [(.int (6 : Int32)), (.ref ro3)]))
    obtain ⟨v27, T27, L27, X27, Q27, st27⟩ := callSt X26 hx hZ (exp_6 l Z a0 hw ro0 ro1 ro2 ro3 ro4 ro5 ro6 ro7 ro8 ro9 h0 n0 Z0 O0 G) e26 hown (wd_17 hw) (wd_18 hw) (wd_19 hw) (wd_3 hw) (by decide) (hb hby at_20) 1 (by decide) (by decide) (by decide) (by decide) (by rw [hml]; rfl) [(.int (6 : Int32))] [(.ref ro3)] rfl (lenOf pd_0 rfl) rfl (Nat.le_of_eq rfl) (Ls := #[.val (.int p0), .val (.int (6 : Int32)), .val (.ref ro9), .val (.ref ro3)])
    obtain ⟨rfl, M27, e27⟩ := Q27
    have N27 := Fr.app N26 M27
    refine Rch.go st27 ?_
    show Rch p e below _ (T27.setTop (mkF m 23 #[.val (.int p0), .val (.int (6 : Int32)), .val (.ref ro9), .val (.ref ro3)] [(.ref ro3), (.ref ro3)]))
    refine Rch.go (fun t k => acmp X27 hx (g := (mkF m 23 #[.val (.int p0), .val (.int (6 : Int32)), .val (.ref ro9), .val (.ref ro3)] [(.ref ro3), (.ref ro3)])) rfl (x := (.ref ro3)) (y := (.ref ro3)) rfl rfl (pc0 := 23) (pc' := 28) (same := true) rfl (hb hby at_23) rfl (decide_eq_true rfl) (by decide) (by decide) k) ?_
    show Rch p e below _ (T27.setTop (mkF m 28 #[.val (.int p0), .val (.int (6 : Int32)), .val (.ref ro9), .val (.ref ro3)] []))
    refine Rch.go (fun t k => XS.aloadN X27.here hx rfl (hb hby at_28) rfl rfl k) ?_
    show Rch p e below _ (T27.setTop (mkF m 29 #[.val (.int p0), .val (.int (6 : Int32)), .val (.ref ro9), .val (.ref ro3)] [(.ref ro3)]))
    obtain ⟨v28, T28, L28, X28, Q28, st28⟩ := callVi X27 hx hZ (int_0 l Z a0 hw ro3 ro0 ro1 ro2 ro3 ro4 ro5 ro6 ro7 ro8 ro9 h0 n0 Z0 O0 G G.2.2.2.2.2.2.2.2.2.2.2.2.2.2.2.2.2.2.2.2.2.2.2.1) e27 hown (wd_8 hw) (wd_9 hw) (wd_11 hw) (notFace_of_selects (args := #[]) (mvT hZ (wd_11 hw))) (wd_10 hw) (wd_12 hw) (wd_6 hw) (by decide) (hb hby at_29) 0 (by decide) (by decide) (by decide) (by decide) (by rw [hml]; rfl) ro3 (G.2.2.2.2.2.2.2.1.ext O0.2) [] [] rfl (lenOf pd_1 rfl) rfl (Nat.le_of_eq rfl) (Ls := #[.val (.int p0), .val (.int (6 : Int32)), .val (.ref ro9), .val (.ref ro3)])
    obtain ⟨rfl, M28, e28⟩ := Q28
    have N28 := Fr.app N27 M28
    refine Rch.go st28 ?_
    show Rch p e below _ (T28.setTop (mkF m 32 #[.val (.int p0), .val (.int (6 : Int32)), .val (.ref ro9), .val (.ref ro3)] [(.ref ro3)]))
    refine Rch.go (fun t k => XS.aloadN X28.here hx rfl (hb hby at_32) rfl rfl k) ?_
    show Rch p e below _ (T28.setTop (mkF m 33 #[.val (.int p0), .val (.int (6 : Int32)), .val (.ref ro9), .val (.ref ro3)] [(.ref ro3), (.ref ro3)]))
    refine Rch.go (fun t k => acmp X28 hx (g := (mkF m 33 #[.val (.int p0), .val (.int (6 : Int32)), .val (.ref ro9), .val (.ref ro3)] [(.ref ro3), (.ref ro3)])) rfl (x := (.ref ro3)) (y := (.ref ro3)) rfl rfl (pc0 := 33) (pc' := 36) (same := true) rfl (hb hby at_33) rfl (decide_eq_true rfl) (by decide) (by decide) k) ?_
    show Rch p e below _ (T28.setTop (mkF m 36 #[.val (.int p0), .val (.int (6 : Int32)), .val (.ref ro9), .val (.ref ro3)] []))
    refine Rch.go (fun t k => XS.iconst X28.here hx rfl (hb hby at_36) k) ?_
    show Rch p e below _ (T28.setTop (mkF m 37 #[.val (.int p0), .val (.int (6 : Int32)), .val (.ref ro9), .val (.ref ro3)] [(.int (1 : Int32))]))
    refine Rch.go (fun t k => XS.goto X28.here hx rfl (pc0 := 37) (pc' := 41) rfl (hb hby at_37) (by decide) (by decide) k) ?_
    show Rch p e below _ (T28.setTop (mkF m 41 #[.val (.int p0), .val (.int (6 : Int32)), .val (.ref ro9), .val (.ref ro3)] [(.int (1 : Int32))]))
    refine Rch.val X28 hx (t := .boolean) hret hlk rfl (mayI (by simp)) (hb hby at_41) (by decide) (by decide) ?_
    try rw [e28]
    exact ⟨rfl, N28⟩
  · rw [hq]
    show Rch p e below _ (T0.setTop (mkF m 7 #[.val (.int p0), .unset, .unset, .unset] [(.int (7 : Int32))]))
    refine Rch.go (fun t k => XS.istoreN X0.here hx rfl (hb hby at_7) rfl  (l' := #[.val (.int p0), .val (.int (7 : Int32)), .unset, .unset]) rfl k) ?_
    show Rch p e below _ (T0.setTop (mkF m 8 #[.val (.int p0), .val (.int (7 : Int32)), .unset, .unset] []))
    refine Rch.go (fun t k => XS.iloadN X0.here hx rfl (hb hby at_8) rfl  k) ?_
    show Rch p e below _ (T0.setTop (mkF m 9 #[.val (.int p0), .val (.int (7 : Int32)), .unset, .unset] [(.int (7 : Int32))]))
    obtain ⟨v29, T29, L29, X29, Q29, st29⟩ := callSt X0 hx hZ (pick_7 l Z a0 hw ro0 ro1 ro2 ro3 ro4 ro5 ro6 ro7 ro8 ro9 h0 n0 Z0 O0 G) e0 hown (wd_1 hw) (wd_2 hw) (wd_4 hw) (wd_3 hw) (by decide) (hb hby at_9) 0 (by decide) (by decide) (by decide) (by decide) (by rw [hml]; rfl) [(.int (7 : Int32))] [] rfl (lenOf pd_0 rfl) rfl (Nat.le_of_eq rfl) (Ls := #[.val (.int p0), .val (.int (7 : Int32)), .unset, .unset])
    obtain ⟨rfl, M29, e29⟩ := Q29
    have N29 := Fr.app N0 M29
    refine Rch.go st29 ?_
    show Rch p e below _ (T29.setTop (mkF m 12 #[.val (.int p0), .val (.int (7 : Int32)), .unset, .unset] [(.ref ro6)]))
    refine Rch.go (fun t k => XS.astoreN X29.here hx rfl (hb hby at_12) rfl rfl (l' := #[.val (.int p0), .val (.int (7 : Int32)), .val (.ref ro6), .unset]) rfl k) ?_
    show Rch p e below _ (T29.setTop (mkF m 13 #[.val (.int p0), .val (.int (7 : Int32)), .val (.ref ro6), .unset] []))
    refine Rch.go (fun t k => XS.aloadN X29.here hx rfl (hb hby at_13) rfl rfl k) ?_
    show Rch p e below _ (T29.setTop (mkF m 14 #[.val (.int p0), .val (.int (7 : Int32)), .val (.ref ro6), .unset] [(.ref ro6)]))
    obtain ⟨v30, T30, L30, X30, Q30, st30⟩ := callVi X29 hx hZ (int_0 l Z a0 hw ro6 ro0 ro1 ro2 ro3 ro4 ro5 ro6 ro7 ro8 ro9 h0 n0 Z0 O0 G G.2.2.2.2.2.2.2.2.2.2.2.2.2.2.2.2.2.2.2.2.2.2.2.2.2.2.1) e29 hown (wd_8 hw) (wd_9 hw) (wd_11 hw) (notFace_of_selects (args := #[]) (mvT hZ (wd_11 hw))) (wd_10 hw) (wd_12 hw) (wd_6 hw) (by decide) (hb hby at_14) 0 (by decide) (by decide) (by decide) (by decide) (by rw [hml]; rfl) ro6 (G.2.2.2.2.2.2.2.2.2.2.2.2.2.1.ext O0.2) [] [] rfl (lenOf pd_1 rfl) rfl (Nat.le_of_eq rfl) (Ls := #[.val (.int p0), .val (.int (7 : Int32)), .val (.ref ro6), .unset])
    obtain ⟨rfl, M30, e30⟩ := Q30
    have N30 := Fr.app N29 M30
    refine Rch.go st30 ?_
    show Rch p e below _ (T30.setTop (mkF m 17 #[.val (.int p0), .val (.int (7 : Int32)), .val (.ref ro6), .unset] [(.ref ro3)]))
    refine Rch.go (fun t k => XS.astoreN X30.here hx rfl (hb hby at_17) rfl rfl (l' := #[.val (.int p0), .val (.int (7 : Int32)), .val (.ref ro6), .val (.ref ro3)]) rfl k) ?_
    show Rch p e below _ (T30.setTop (mkF m 18 #[.val (.int p0), .val (.int (7 : Int32)), .val (.ref ro6), .val (.ref ro3)] []))
    refine Rch.go (fun t k => XS.aloadN X30.here hx rfl (hb hby at_18) rfl rfl k) ?_
    show Rch p e below _ (T30.setTop (mkF m 19 #[.val (.int p0), .val (.int (7 : Int32)), .val (.ref ro6), .val (.ref ro3)] [(.ref ro3)]))
    refine Rch.go (fun t k => XS.iloadN X30.here hx rfl (hb hby at_19) rfl  k) ?_
    show Rch p e below _ (T30.setTop (mkF m 20 #[.val (.int p0), .val (.int (7 : Int32)), .val (.ref ro6), .val (.ref ro3)] [(.int (7 : Int32)), (.ref ro3)]))
    obtain ⟨v31, T31, L31, X31, Q31, st31⟩ := callSt X30 hx hZ (exp_7 l Z a0 hw ro0 ro1 ro2 ro3 ro4 ro5 ro6 ro7 ro8 ro9 h0 n0 Z0 O0 G) e30 hown (wd_17 hw) (wd_18 hw) (wd_19 hw) (wd_3 hw) (by decide) (hb hby at_20) 1 (by decide) (by decide) (by decide) (by decide) (by rw [hml]; rfl) [(.int (7 : Int32))] [(.ref ro3)] rfl (lenOf pd_0 rfl) rfl (Nat.le_of_eq rfl) (Ls := #[.val (.int p0), .val (.int (7 : Int32)), .val (.ref ro6), .val (.ref ro3)])
    obtain ⟨rfl, M31, e31⟩ := Q31
    have N31 := Fr.app N30 M31
    refine Rch.go st31 ?_
    show Rch p e below _ (T31.setTop (mkF m 23 #[.val (.int p0), .val (.int (7 : Int32)), .val (.ref ro6), .val (.ref ro3)] [(.ref ro3), (.ref ro3)]))
    refine Rch.go (fun t k => acmp X31 hx (g := (mkF m 23 #[.val (.int p0), .val (.int (7 : Int32)), .val (.ref ro6), .val (.ref ro3)] [(.ref ro3), (.ref ro3)])) rfl (x := (.ref ro3)) (y := (.ref ro3)) rfl rfl (pc0 := 23) (pc' := 28) (same := true) rfl (hb hby at_23) rfl (decide_eq_true rfl) (by decide) (by decide) k) ?_
    show Rch p e below _ (T31.setTop (mkF m 28 #[.val (.int p0), .val (.int (7 : Int32)), .val (.ref ro6), .val (.ref ro3)] []))
    refine Rch.go (fun t k => XS.aloadN X31.here hx rfl (hb hby at_28) rfl rfl k) ?_
    show Rch p e below _ (T31.setTop (mkF m 29 #[.val (.int p0), .val (.int (7 : Int32)), .val (.ref ro6), .val (.ref ro3)] [(.ref ro3)]))
    obtain ⟨v32, T32, L32, X32, Q32, st32⟩ := callVi X31 hx hZ (int_0 l Z a0 hw ro3 ro0 ro1 ro2 ro3 ro4 ro5 ro6 ro7 ro8 ro9 h0 n0 Z0 O0 G G.2.2.2.2.2.2.2.2.2.2.2.2.2.2.2.2.2.2.2.2.2.2.2.1) e31 hown (wd_8 hw) (wd_9 hw) (wd_11 hw) (notFace_of_selects (args := #[]) (mvT hZ (wd_11 hw))) (wd_10 hw) (wd_12 hw) (wd_6 hw) (by decide) (hb hby at_29) 0 (by decide) (by decide) (by decide) (by decide) (by rw [hml]; rfl) ro3 (G.2.2.2.2.2.2.2.1.ext O0.2) [] [] rfl (lenOf pd_1 rfl) rfl (Nat.le_of_eq rfl) (Ls := #[.val (.int p0), .val (.int (7 : Int32)), .val (.ref ro6), .val (.ref ro3)])
    obtain ⟨rfl, M32, e32⟩ := Q32
    have N32 := Fr.app N31 M32
    refine Rch.go st32 ?_
    show Rch p e below _ (T32.setTop (mkF m 32 #[.val (.int p0), .val (.int (7 : Int32)), .val (.ref ro6), .val (.ref ro3)] [(.ref ro3)]))
    refine Rch.go (fun t k => XS.aloadN X32.here hx rfl (hb hby at_32) rfl rfl k) ?_
    show Rch p e below _ (T32.setTop (mkF m 33 #[.val (.int p0), .val (.int (7 : Int32)), .val (.ref ro6), .val (.ref ro3)] [(.ref ro3), (.ref ro3)]))
    refine Rch.go (fun t k => acmp X32 hx (g := (mkF m 33 #[.val (.int p0), .val (.int (7 : Int32)), .val (.ref ro6), .val (.ref ro3)] [(.ref ro3), (.ref ro3)])) rfl (x := (.ref ro3)) (y := (.ref ro3)) rfl rfl (pc0 := 33) (pc' := 36) (same := true) rfl (hb hby at_33) rfl (decide_eq_true rfl) (by decide) (by decide) k) ?_
    show Rch p e below _ (T32.setTop (mkF m 36 #[.val (.int p0), .val (.int (7 : Int32)), .val (.ref ro6), .val (.ref ro3)] []))
    refine Rch.go (fun t k => XS.iconst X32.here hx rfl (hb hby at_36) k) ?_
    show Rch p e below _ (T32.setTop (mkF m 37 #[.val (.int p0), .val (.int (7 : Int32)), .val (.ref ro6), .val (.ref ro3)] [(.int (1 : Int32))]))
    refine Rch.go (fun t k => XS.goto X32.here hx rfl (pc0 := 37) (pc' := 41) rfl (hb hby at_37) (by decide) (by decide) k) ?_
    show Rch p e below _ (T32.setTop (mkF m 41 #[.val (.int p0), .val (.int (7 : Int32)), .val (.ref ro6), .val (.ref ro3)] [(.int (1 : Int32))]))
    refine Rch.val X32 hx (t := .boolean) hret hlk rfl (mayI (by simp)) (hb hby at_41) (by decide) (by decide) ?_
    try rw [e32]
    exact ⟨rfl, N32⟩
  · rw [hq]
    show Rch p e below _ (T0.setTop (mkF m 7 #[.val (.int p0), .unset, .unset, .unset] [(.int (8 : Int32))]))
    refine Rch.go (fun t k => XS.istoreN X0.here hx rfl (hb hby at_7) rfl  (l' := #[.val (.int p0), .val (.int (8 : Int32)), .unset, .unset]) rfl k) ?_
    show Rch p e below _ (T0.setTop (mkF m 8 #[.val (.int p0), .val (.int (8 : Int32)), .unset, .unset] []))
    refine Rch.go (fun t k => XS.iloadN X0.here hx rfl (hb hby at_8) rfl  k) ?_
    show Rch p e below _ (T0.setTop (mkF m 9 #[.val (.int p0), .val (.int (8 : Int32)), .unset, .unset] [(.int (8 : Int32))]))
    obtain ⟨v33, T33, L33, X33, Q33, st33⟩ := callSt X0 hx hZ (pick_8 l Z a0 hw ro0 ro1 ro2 ro3 ro4 ro5 ro6 ro7 ro8 ro9 h0 n0 Z0 O0 G) e0 hown (wd_1 hw) (wd_2 hw) (wd_4 hw) (wd_3 hw) (by decide) (hb hby at_9) 0 (by decide) (by decide) (by decide) (by decide) (by rw [hml]; rfl) [(.int (8 : Int32))] [] rfl (lenOf pd_0 rfl) rfl (Nat.le_of_eq rfl) (Ls := #[.val (.int p0), .val (.int (8 : Int32)), .unset, .unset])
    obtain ⟨rfl, M33, e33⟩ := Q33
    have N33 := Fr.app N0 M33
    refine Rch.go st33 ?_
    show Rch p e below _ (T33.setTop (mkF m 12 #[.val (.int p0), .val (.int (8 : Int32)), .unset, .unset] [(.ref ro1)]))
    refine Rch.go (fun t k => XS.astoreN X33.here hx rfl (hb hby at_12) rfl rfl (l' := #[.val (.int p0), .val (.int (8 : Int32)), .val (.ref ro1), .unset]) rfl k) ?_
    show Rch p e below _ (T33.setTop (mkF m 13 #[.val (.int p0), .val (.int (8 : Int32)), .val (.ref ro1), .unset] []))
    refine Rch.go (fun t k => XS.aloadN X33.here hx rfl (hb hby at_13) rfl rfl k) ?_
    show Rch p e below _ (T33.setTop (mkF m 14 #[.val (.int p0), .val (.int (8 : Int32)), .val (.ref ro1), .unset] [(.ref ro1)]))
    obtain ⟨v34, T34, L34, X34, Q34, st34⟩ := callVi X33 hx hZ (int_1 l Z a0 hw ro1 ro0 ro1 ro2 ro3 ro4 ro5 ro6 ro7 ro8 ro9 h0 n0 Z0 O0 G G.2.2.2.2.2.2.2.2.2.2.2.2.2.2.2.2.2.2.2.2.2.1) e33 hown (wd_8 hw) (wd_9 hw) (wd_11 hw) (notFace_of_selects (args := #[]) (mvT hZ (wd_11 hw))) (wd_10 hw) (wd_12 hw) (wd_6 hw) (by decide) (hb hby at_14) 0 (by decide) (by decide) (by decide) (by decide) (by rw [hml]; rfl) ro1 (G.2.2.2.1.ext O0.2) [] [] rfl (lenOf pd_1 rfl) rfl (Nat.le_of_eq rfl) (Ls := #[.val (.int p0), .val (.int (8 : Int32)), .val (.ref ro1), .unset])
    obtain ⟨rfl, M34, e34⟩ := Q34
    have N34 := Fr.app N33 M34
    refine Rch.go st34 ?_
    show Rch p e below _ (T34.setTop (mkF m 17 #[.val (.int p0), .val (.int (8 : Int32)), .val (.ref ro1), .unset] [(.ref ro1)]))
    refine Rch.go (fun t k => XS.astoreN X34.here hx rfl (hb hby at_17) rfl rfl (l' := #[.val (.int p0), .val (.int (8 : Int32)), .val (.ref ro1), .val (.ref ro1)]) rfl k) ?_
    show Rch p e below _ (T34.setTop (mkF m 18 #[.val (.int p0), .val (.int (8 : Int32)), .val (.ref ro1), .val (.ref ro1)] []))
    refine Rch.go (fun t k => XS.aloadN X34.here hx rfl (hb hby at_18) rfl rfl k) ?_
    show Rch p e below _ (T34.setTop (mkF m 19 #[.val (.int p0), .val (.int (8 : Int32)), .val (.ref ro1), .val (.ref ro1)] [(.ref ro1)]))
    refine Rch.go (fun t k => XS.iloadN X34.here hx rfl (hb hby at_19) rfl  k) ?_
    show Rch p e below _ (T34.setTop (mkF m 20 #[.val (.int p0), .val (.int (8 : Int32)), .val (.ref ro1), .val (.ref ro1)] [(.int (8 : Int32)), (.ref ro1)]))
    obtain ⟨v35, T35, L35, X35, Q35, st35⟩ := callSt X34 hx hZ (exp_8 l Z a0 hw ro0 ro1 ro2 ro3 ro4 ro5 ro6 ro7 ro8 ro9 h0 n0 Z0 O0 G) e34 hown (wd_17 hw) (wd_18 hw) (wd_19 hw) (wd_3 hw) (by decide) (hb hby at_20) 1 (by decide) (by decide) (by decide) (by decide) (by rw [hml]; rfl) [(.int (8 : Int32))] [(.ref ro1)] rfl (lenOf pd_0 rfl) rfl (Nat.le_of_eq rfl) (Ls := #[.val (.int p0), .val (.int (8 : Int32)), .val (.ref ro1), .val (.ref ro1)])
    obtain ⟨rfl, M35, e35⟩ := Q35
    have N35 := Fr.app N34 M35
    refine Rch.go st35 ?_
    show Rch p e below _ (T35.setTop (mkF m 23 #[.val (.int p0), .val (.int (8 : Int32)), .val (.ref ro1), .val (.ref ro1)] [(.ref ro1), (.ref ro1)]))
    refine Rch.go (fun t k => acmp X35 hx (g := (mkF m 23 #[.val (.int p0), .val (.int (8 : Int32)), .val (.ref ro1), .val (.ref ro1)] [(.ref ro1), (.ref ro1)])) rfl (x := (.ref ro1)) (y := (.ref ro1)) rfl rfl (pc0 := 23) (pc' := 28) (same := true) rfl (hb hby at_23) rfl (decide_eq_true rfl) (by decide) (by decide) k) ?_
    show Rch p e below _ (T35.setTop (mkF m 28 #[.val (.int p0), .val (.int (8 : Int32)), .val (.ref ro1), .val (.ref ro1)] []))
    refine Rch.go (fun t k => XS.aloadN X35.here hx rfl (hb hby at_28) rfl rfl k) ?_
    show Rch p e below _ (T35.setTop (mkF m 29 #[.val (.int p0), .val (.int (8 : Int32)), .val (.ref ro1), .val (.ref ro1)] [(.ref ro1)]))
    obtain ⟨v36, T36, L36, X36, Q36, st36⟩ := callVi X35 hx hZ (int_1 l Z a0 hw ro1 ro0 ro1 ro2 ro3 ro4 ro5 ro6 ro7 ro8 ro9 h0 n0 Z0 O0 G G.2.2.2.2.2.2.2.2.2.2.2.2.2.2.2.2.2.2.2.2.2.1) e35 hown (wd_8 hw) (wd_9 hw) (wd_11 hw) (notFace_of_selects (args := #[]) (mvT hZ (wd_11 hw))) (wd_10 hw) (wd_12 hw) (wd_6 hw) (by decide) (hb hby at_29) 0 (by decide) (by decide) (by decide) (by decide) (by rw [hml]; rfl) ro1 (G.2.2.2.1.ext O0.2) [] [] rfl (lenOf pd_1 rfl) rfl (Nat.le_of_eq rfl) (Ls := #[.val (.int p0), .val (.int (8 : Int32)), .val (.ref ro1), .val (.ref ro1)])
    obtain ⟨rfl, M36, e36⟩ := Q36
    have N36 := Fr.app N35 M36
    refine Rch.go st36 ?_
    show Rch p e below _ (T36.setTop (mkF m 32 #[.val (.int p0), .val (.int (8 : Int32)), .val (.ref ro1), .val (.ref ro1)] [(.ref ro1)]))
    refine Rch.go (fun t k => XS.aloadN X36.here hx rfl (hb hby at_32) rfl rfl k) ?_
    show Rch p e below _ (T36.setTop (mkF m 33 #[.val (.int p0), .val (.int (8 : Int32)), .val (.ref ro1), .val (.ref ro1)] [(.ref ro1), (.ref ro1)]))
    refine Rch.go (fun t k => acmp X36 hx (g := (mkF m 33 #[.val (.int p0), .val (.int (8 : Int32)), .val (.ref ro1), .val (.ref ro1)] [(.ref ro1), (.ref ro1)])) rfl (x := (.ref ro1)) (y := (.ref ro1)) rfl rfl (pc0 := 33) (pc' := 36) (same := true) rfl (hb hby at_33) rfl (decide_eq_true rfl) (by decide) (by decide) k) ?_
    show Rch p e below _ (T36.setTop (mkF m 36 #[.val (.int p0), .val (.int (8 : Int32)), .val (.ref ro1), .val (.ref ro1)] []))
    refine Rch.go (fun t k => XS.iconst X36.here hx rfl (hb hby at_36) k) ?_
    show Rch p e below _ (T36.setTop (mkF m 37 #[.val (.int p0), .val (.int (8 : Int32)), .val (.ref ro1), .val (.ref ro1)] [(.int (1 : Int32))]))
    refine Rch.go (fun t k => XS.goto X36.here hx rfl (pc0 := 37) (pc' := 41) rfl (hb hby at_37) (by decide) (by decide) k) ?_
    show Rch p e below _ (T36.setTop (mkF m 41 #[.val (.int p0), .val (.int (8 : Int32)), .val (.ref ro1), .val (.ref ro1)] [(.int (1 : Int32))]))
    refine Rch.val X36 hx (t := .boolean) hret hlk rfl (mayI (by simp)) (hb hby at_41) (by decide) (by decide) ?_
    try rw [e36]
    exact ⟨rfl, N36⟩
  · rw [hq]
    show Rch p e below _ (T0.setTop (mkF m 7 #[.val (.int p0), .unset, .unset, .unset] [(.int (9 : Int32))]))
    refine Rch.go (fun t k => XS.istoreN X0.here hx rfl (hb hby at_7) rfl  (l' := #[.val (.int p0), .val (.int (9 : Int32)), .unset, .unset]) rfl k) ?_
    show Rch p e below _ (T0.setTop (mkF m 8 #[.val (.int p0), .val (.int (9 : Int32)), .unset, .unset] []))
    refine Rch.go (fun t k => XS.iloadN X0.here hx rfl (hb hby at_8) rfl  k) ?_
    show Rch p e below _ (T0.setTop (mkF m 9 #[.val (.int p0), .val (.int (9 : Int32)), .unset, .unset] [(.int (9 : Int32))]))
    obtain ⟨v37, T37, L37, X37, Q37, st37⟩ := callSt X0 hx hZ (pick_9 l Z a0 hw ro0 ro1 ro2 ro3 ro4 ro5 ro6 ro7 ro8 ro9 h0 n0 Z0 O0 G) e0 hown (wd_1 hw) (wd_2 hw) (wd_4 hw) (wd_3 hw) (by decide) (hb hby at_9) 0 (by decide) (by decide) (by decide) (by decide) (by rw [hml]; rfl) [(.int (9 : Int32))] [] rfl (lenOf pd_0 rfl) rfl (Nat.le_of_eq rfl) (Ls := #[.val (.int p0), .val (.int (9 : Int32)), .unset, .unset])
    obtain ⟨rfl, M37, e37⟩ := Q37
    have N37 := Fr.app N0 M37
    refine Rch.go st37 ?_
    show Rch p e below _ (T37.setTop (mkF m 12 #[.val (.int p0), .val (.int (9 : Int32)), .unset, .unset] [(.ref ro3)]))
    refine Rch.go (fun t k => XS.astoreN X37.here hx rfl (hb hby at_12) rfl rfl (l' := #[.val (.int p0), .val (.int (9 : Int32)), .val (.ref ro3), .unset]) rfl k) ?_
    show Rch p e below _ (T37.setTop (mkF m 13 #[.val (.int p0), .val (.int (9 : Int32)), .val (.ref ro3), .unset] []))
    refine Rch.go (fun t k => XS.aloadN X37.here hx rfl (hb hby at_13) rfl rfl k) ?_
    show Rch p e below _ (T37.setTop (mkF m 14 #[.val (.int p0), .val (.int (9 : Int32)), .val (.ref ro3), .unset] [(.ref ro3)]))
    obtain ⟨v38, T38, L38, X38, Q38, st38⟩ := callVi X37 hx hZ (int_0 l Z a0 hw ro3 ro0 ro1 ro2 ro3 ro4 ro5 ro6 ro7 ro8 ro9 h0 n0 Z0 O0 G G.2.2.2.2.2.2.2.2.2.2.2.2.2.2.2.2.2.2.2.2.2.2.2.1) e37 hown (wd_8 hw) (wd_9 hw) (wd_11 hw) (notFace_of_selects (args := #[]) (mvT hZ (wd_11 hw))) (wd_10 hw) (wd_12 hw) (wd_6 hw) (by decide) (hb hby at_14) 0 (by decide) (by decide) (by decide) (by decide) (by rw [hml]; rfl) ro3 (G.2.2.2.2.2.2.2.1.ext O0.2) [] [] rfl (lenOf pd_1 rfl) rfl (Nat.le_of_eq rfl) (Ls := #[.val (.int p0), .val (.int (9 : Int32)), .val (.ref ro3), .unset])
    obtain ⟨rfl, M38, e38⟩ := Q38
    have N38 := Fr.app N37 M38
    refine Rch.go st38 ?_
    show Rch p e below _ (T38.setTop (mkF m 17 #[.val (.int p0), .val (.int (9 : Int32)), .val (.ref ro3), .unset] [(.ref ro3)]))
    refine Rch.go (fun t k => XS.astoreN X38.here hx rfl (hb hby at_17) rfl rfl (l' := #[.val (.int p0), .val (.int (9 : Int32)), .val (.ref ro3), .val (.ref ro3)]) rfl k) ?_
    show Rch p e below _ (T38.setTop (mkF m 18 #[.val (.int p0), .val (.int (9 : Int32)), .val (.ref ro3), .val (.ref ro3)] []))
    refine Rch.go (fun t k => XS.aloadN X38.here hx rfl (hb hby at_18) rfl rfl k) ?_
    show Rch p e below _ (T38.setTop (mkF m 19 #[.val (.int p0), .val (.int (9 : Int32)), .val (.ref ro3), .val (.ref ro3)] [(.ref ro3)]))
    refine Rch.go (fun t k => XS.iloadN X38.here hx rfl (hb hby at_19) rfl  k) ?_
    show Rch p e below _ (T38.setTop (mkF m 20 #[.val (.int p0), .val (.int (9 : Int32)), .val (.ref ro3), .val (.ref ro3)] [(.int (9 : Int32)), (.ref ro3)]))
    obtain ⟨v39, T39, L39, X39, Q39, st39⟩ := callSt X38 hx hZ (exp_9 l Z a0 hw ro0 ro1 ro2 ro3 ro4 ro5 ro6 ro7 ro8 ro9 h0 n0 Z0 O0 G) e38 hown (wd_17 hw) (wd_18 hw) (wd_19 hw) (wd_3 hw) (by decide) (hb hby at_20) 1 (by decide) (by decide) (by decide) (by decide) (by rw [hml]; rfl) [(.int (9 : Int32))] [(.ref ro3)] rfl (lenOf pd_0 rfl) rfl (Nat.le_of_eq rfl) (Ls := #[.val (.int p0), .val (.int (9 : Int32)), .val (.ref ro3), .val (.ref ro3)])
    obtain ⟨rfl, M39, e39⟩ := Q39
    have N39 := Fr.app N38 M39
    refine Rch.go st39 ?_
    show Rch p e below _ (T39.setTop (mkF m 23 #[.val (.int p0), .val (.int (9 : Int32)), .val (.ref ro3), .val (.ref ro3)] [(.ref ro3), (.ref ro3)]))
    refine Rch.go (fun t k => acmp X39 hx (g := (mkF m 23 #[.val (.int p0), .val (.int (9 : Int32)), .val (.ref ro3), .val (.ref ro3)] [(.ref ro3), (.ref ro3)])) rfl (x := (.ref ro3)) (y := (.ref ro3)) rfl rfl (pc0 := 23) (pc' := 28) (same := true) rfl (hb hby at_23) rfl (decide_eq_true rfl) (by decide) (by decide) k) ?_
    show Rch p e below _ (T39.setTop (mkF m 28 #[.val (.int p0), .val (.int (9 : Int32)), .val (.ref ro3), .val (.ref ro3)] []))
    refine Rch.go (fun t k => XS.aloadN X39.here hx rfl (hb hby at_28) rfl rfl k) ?_
    show Rch p e below _ (T39.setTop (mkF m 29 #[.val (.int p0), .val (.int (9 : Int32)), .val (.ref ro3), .val (.ref ro3)] [(.ref ro3)]))
    obtain ⟨v40, T40, L40, X40, Q40, st40⟩ := callVi X39 hx hZ (int_0 l Z a0 hw ro3 ro0 ro1 ro2 ro3 ro4 ro5 ro6 ro7 ro8 ro9 h0 n0 Z0 O0 G G.2.2.2.2.2.2.2.2.2.2.2.2.2.2.2.2.2.2.2.2.2.2.2.1) e39 hown (wd_8 hw) (wd_9 hw) (wd_11 hw) (notFace_of_selects (args := #[]) (mvT hZ (wd_11 hw))) (wd_10 hw) (wd_12 hw) (wd_6 hw) (by decide) (hb hby at_29) 0 (by decide) (by decide) (by decide) (by decide) (by rw [hml]; rfl) ro3 (G.2.2.2.2.2.2.2.1.ext O0.2) [] [] rfl (lenOf pd_1 rfl) rfl (Nat.le_of_eq rfl) (Ls := #[.val (.int p0), .val (.int (9 : Int32)), .val (.ref ro3), .val (.ref ro3)])
    obtain ⟨rfl, M40, e40⟩ := Q40
    have N40 := Fr.app N39 M40
    refine Rch.go st40 ?_
    show Rch p e below _ (T40.setTop (mkF m 32 #[.val (.int p0), .val (.int (9 : Int32)), .val (.ref ro3), .val (.ref ro3)] [(.ref ro3)]))
    refine Rch.go (fun t k => XS.aloadN X40.here hx rfl (hb hby at_32) rfl rfl k) ?_
    show Rch p e below _ (T40.setTop (mkF m 33 #[.val (.int p0), .val (.int (9 : Int32)), .val (.ref ro3), .val (.ref ro3)] [(.ref ro3), (.ref ro3)]))
    refine Rch.go (fun t k => acmp X40 hx (g := (mkF m 33 #[.val (.int p0), .val (.int (9 : Int32)), .val (.ref ro3), .val (.ref ro3)] [(.ref ro3), (.ref ro3)])) rfl (x := (.ref ro3)) (y := (.ref ro3)) rfl rfl (pc0 := 33) (pc' := 36) (same := true) rfl (hb hby at_33) rfl (decide_eq_true rfl) (by decide) (by decide) k) ?_
    show Rch p e below _ (T40.setTop (mkF m 36 #[.val (.int p0), .val (.int (9 : Int32)), .val (.ref ro3), .val (.ref ro3)] []))
    refine Rch.go (fun t k => XS.iconst X40.here hx rfl (hb hby at_36) k) ?_
    show Rch p e below _ (T40.setTop (mkF m 37 #[.val (.int p0), .val (.int (9 : Int32)), .val (.ref ro3), .val (.ref ro3)] [(.int (1 : Int32))]))
    refine Rch.go (fun t k => XS.goto X40.here hx rfl (pc0 := 37) (pc' := 41) rfl (hb hby at_37) (by decide) (by decide) k) ?_
    show Rch p e below _ (T40.setTop (mkF m 41 #[.val (.int p0), .val (.int (9 : Int32)), .val (.ref ro3), .val (.ref ro3)] [(.int (1 : Int32))]))
    refine Rch.val X40 hx (t := .boolean) hret hlk rfl (mayI (by simp)) (hb hby at_41) (by decide) (by decide) ?_
    try rw [e40]
    exact ⟨rfl, N40⟩
set_option maxRecDepth 65536 in
set_option maxHeartbeats 40000000 in
theorem comes_1 {Post : Tables → Env → Array Value → State → Outcome → State → Prop} (hpost : ∀ tb e args s v u, (limb_1_1.after args s (.returned v) u = true ∧ limb_1_2.after args s (.returned v) u = true ∧ True) → FrameEnd s (.returned v) u (Jvm.fieldLocs frame_1_writes args s ++ Jvm.arrayLocs frame_1_arrays args s ++ Jvm.staticLocs frame_1_statics s) 0 0 → Post tb e args s (.returned v) u) :
    ArmFor flags0 classFile x code maxLocals ret World_1 tables_1 room_1 Calls_1 rest_1 Pre_1 Post := by
  intro l hfl _ _ p e ha hc hk s m args below hf hA hF happ hP
  obtain ⟨hcalls, hrest, hpre⟩ := hP
  obtain ⟨-, -, -, hnamed, -, -, -, hat⟩ := (Spec.applies_iff hf).mp happ
  obtain ⟨hg, hn⟩ := and_e (Cond.before_iff.mp (show (Jvm.Cond.and given_1 narrow_1).before args s = true from hpre))
  obtain ⟨gv0, hg⟩ := and_e hg
  have gv1 := hg
  obtain ⟨w0, rfl⟩ : ∃ w0 : Value, args = #[w0] := by
    have hs : args.size = 1 := by simpa [Cond.value, given_1] using gv0
    obtain ⟨L⟩ := args
    match L, hs with
    | [w0], _ => exact ⟨w0, rfl⟩
  have hw := fun d (hd : d ∈ tables_1) => atoms_spec (ws := Jvm.Cond.code x code maxLocals ret :: tables_1) hat d (List.mem_cons_of_mem _ hd)
  have hfit : Fit s := fun {y c} hc i hi => by
    obtain ⟨ha, rfl⟩ := Array.getElem?_eq_some_iff.mp hc
    have q := List.all_eq_true.mp ((Array.all_eq_true_iff_forall_mem.mp hF) _ (Array.getElem_mem ha)) i (List.mem_range.mpr hi)
    simpa [Array.getElem?_eq_getElem hi] using q
  obtain ⟨i0, ei0⟩ := is_v gv1
  obtain rfl : w0 = (.int i0) := Option.some.inj ei0
  obtain ⟨n0, hn⟩ := and_e hn
  obtain ⟨n1, hn⟩ := and_e hn
  obtain ⟨n2, hn⟩ := and_e hn
  obtain ⟨n3, hn⟩ := and_e hn
  obtain ⟨n4, hn⟩ := and_e hn
  obtain ⟨n5, hn⟩ := and_e hn
  obtain ⟨n6, hn⟩ := and_e hn
  obtain ⟨n7, hn⟩ := and_e hn
  obtain ⟨n8, hn⟩ := and_e hn
  obtain ⟨n9, hn⟩ := and_e hn
  obtain ⟨n10, hn⟩ := and_e hn
  obtain ⟨n11, hn⟩ := and_e hn
  obtain ⟨n12, hn⟩ := and_e hn
  obtain ⟨n13, hn⟩ := and_e hn
  obtain ⟨n14, hn⟩ := and_e hn
  obtain ⟨n15, hn⟩ := and_e hn
  obtain ⟨n16, hn⟩ := and_e hn
  obtain ⟨n17, hn⟩ := and_e hn
  obtain ⟨n18, hn⟩ := and_e hn
  have n19 := hn
  obtain ⟨ro0, ev_ro0⟩ := exa_v n0
  obtain ⟨ro1, ev_ro1⟩ := exa_v n2
  obtain ⟨ro2, ev_ro2⟩ := exa_v n4
  obtain ⟨ro3, ev_ro3⟩ := exa_v n6
  obtain ⟨ro4, ev_ro4⟩ := exa_v n8
  obtain ⟨ro5, ev_ro5⟩ := exa_v n10
  obtain ⟨ro6, ev_ro6⟩ := exa_v n12
  obtain ⟨ro7, ev_ro7⟩ := exa_v n14
  obtain ⟨ro8, ev_ro8⟩ := exa_v n16
  obtain ⟨ro9, ev_ro9⟩ := exa_v n18
  have ev_10 := own_eqI n1
  have ev_11 := own_eqI n3
  have ev_12 := own_eqI n5
  have ev_13 := own_eqI n7
  have ev_14 := own_eqI n9
  have ev_15 := own_eqI n11
  have ev_16 := own_eqI n13
  have ev_17 := own_eqI n15
  have ev_18 := own_eqI n17
  have ev_19 := own_eqI n19
  have G : Olds s ro0 ro1 ro2 ro3 ro4 ro5 ro6 ro7 ro8 ro9 := ⟨(Sta.start ev_ro0 (Or.inr ⟨(wd_6 hw), (wd_7 hw)⟩)), (Exa.start ev_ro0 n0), (Sta.start ev_ro1 (Or.inr ⟨(wd_6 hw), (wd_16 hw)⟩)), (Exa.start ev_ro1 n2), (Sta.start ev_ro2 (Or.inr ⟨(wd_6 hw), (wd_22 hw)⟩)), (Exa.start ev_ro2 n4), (Sta.start ev_ro3 (Or.inr ⟨(wd_6 hw), (wd_24 hw)⟩)), (Exa.start ev_ro3 n6), (Sta.start ev_ro4 (Or.inr ⟨(wd_6 hw), (wd_27 hw)⟩)), (Exa.start ev_ro4 n8), (Sta.start ev_ro5 (Or.inr ⟨(wd_6 hw), (wd_29 hw)⟩)), (Exa.start ev_ro5 n10), (Sta.start ev_ro6 (Or.inr ⟨(wd_6 hw), (wd_31 hw)⟩)), (Exa.start ev_ro6 n12), (Sta.start ev_ro7 (Or.inr ⟨(wd_6 hw), (wd_33 hw)⟩)), (Exa.start ev_ro7 n14), (Sta.start ev_ro8 (Or.inr ⟨(wd_6 hw), (wd_35 hw)⟩)), (Exa.start ev_ro8 n16), (Sta.start ev_ro9 (Or.inr ⟨(wd_6 hw), (wd_37 hw)⟩)), (Exa.start ev_ro9 n18), (own_fldV ev_ro0 ev_10), (own_fldV ev_ro1 ev_11), (own_fldV ev_ro2 ev_12), (own_fldV ev_ro3 ev_13), (own_fldV ev_ro4 ev_14), (own_fldV ev_ro5 ev_15), (own_fldV ev_ro6 ev_16), (own_fldV ev_ro7 ev_17), (own_fldV ev_ro8 ev_18), (own_fldV ev_ro9 ev_19)⟩
  obtain ⟨n, o, h1, h2, h3, _, L, rfl, ⟨rfl, N⟩, hq⟩ := law_1 l s _ hw i0 ro0 ro1 ro2 ro3 ro4 ro5 ro6 ro7 ro8 ro9 s.heap s.heap.size (Nat.le_refl _) (Old.start s) G p e ha hc hk s m _ below hf ((Spec.applies_iff_loose hf).mp happ).1 ⟨rfl, State.Warmed39.refl s, rfl⟩ trivial
  refine ⟨n, _, h1, h2, h3, hpost _ _ _ _ _ _ ⟨Cond.after_iff.mpr rfl, Cond.after_iff.mpr (eq_i res_at (Term.int_eval (1)) rfl), trivial⟩ ⟨hq.1, hq.2.1, (hq.2.2.sift fun y hy => Or.inr (N y hy)).mono (by decide) (by decide)⟩⟩
theorem main_1_1 : Claimed_1_1 := comes_1 fun _ _ _ _ _ _ h hF => ⟨h.1, hF⟩
theorem main_1_2 : Claimed_1_2 := comes_1 fun _ _ _ _ _ _ h hF => ⟨h.2.1, hF⟩
end Jvm.Pilot.@@N@@
namespace Jvm.Pilot.@@N@@
open Jvm Jvm.ClassFile Sem Op Lib Jvm.Free Jvm.Stand Jvm.Pilot.@@N@@.Jvm.D
/-! MADE BY PROGRAM (witnessworld.py) out of the Statement's table words and the real class files: 12 classes; the members and pool entries that the words name. The judged class is class 1, her method 3. -/
namespace start1
open Jvm.ClassFile
def u (s : String) : CpInfo := .utf8 (stringToUtf16 s)
/-- a pool by its gaps: so many unusable entries, then the entry; so many at the end -/
def gap : Nat → List CpInfo → List CpInfo
  | 0, r => r
  | n + 1, r => .unusable :: gap n r
def poolList (es : List (Nat × CpInfo)) (last : Nat) : List CpInfo := es.foldr (fun e r => gap e.1 (e.2 :: r)) (gap last [])
def pool (es : List (Nat × CpInfo)) (last : Nat) : Array CpInfo := ⟨poolList es last⟩
def fileOf (pool : Array CpInfo) (this : Nat) (attrs : Array Attribute := #[]) (ms : Array MethodInfo := #[]) (fl : Nat := 33) (sup : Nat := 0) (ifs : Array Nat := #[]) (fds : Array FieldInfo := #[]) : ClassFile where
  minorVersion := 0
  majorVersion := 65
  constantPool := pool
  accessFlags := fl
  thisClass := this
  superClass := sup
  interfaces := ifs
  fields := fds
  methods := ms
  attributes := attrs
def plain (name : String) (sup : Option ClassId) : Class where
  name := name
  kind := .ordinary
  loader := none
  accessFlags := 33
  super := sup
  interfaces := #[]
  cf := none
  fields := #[]
  methods := #[]
  instanceTypes := #[]
  staticTypes := #[]
  resolved := #[]
  callSites := []
  init := .initialized
  statics := none
  mirror := none

def pool0 : Array CpInfo := pool [(5, u "<init>"), (0, u "()V"), (1, .class_ 10), (1, u "java/lang/Object")] 113

def k0m0 : Method := { name := "<init>", desc := "()V", sig := { parameters := [], returnType := none }, accessFlags := 1, code := none }
/-- java/lang/Object -/
def k0 : Class := { plain "java/lang/Object" none with
  accessFlags := 33
  interfaces := #[]
  cf := some (fileOf pool0 8 #[] #[{ accessFlags := 1, nameIndex := 5, descriptorIndex := 6, attributes := #[] }] 33 0 #[] #[])
  fields := #[]
  methods := #[k0m0]
  instanceTypes := #[]
  staticTypes := #[]
  resolved := Array.replicate 124 none
  statics := none }

def pool1 : Array CpInfo := pool [(2, .class_ 4), (1, u "java/lang/Object"), (0, u "<init>"), (0, u "()V"), (0, .fieldref 8 9), (0, .class_ 10), (0, .nameAndType 11 12), (0, u "com/example/pathlatch/pathlatch/lock/LockMode"), (0, u "READ_SUBTREE"), (0, u "Lcom/example/pathlatch/pathlatch/lock/LockMode;"), (0, .fieldref 8 14), (0, .nameAndType 15 12), (0, u "SHARED"), (0, .fieldref 8 17), (0, .nameAndType 18 12), (0, u "RENAME"), (0, .fieldref 8 20), (0, .nameAndType 21 12), (0, u "INSERT_INTO"), (0, .fieldref 8 23), (0, .nameAndType 24 12), (0, u "INSERT_AFTER"), (0, .fieldref 8 26), (0, .nameAndType 27 12), (0, u "INSERT_BEFORE"), (0, .fieldref 8 29), (0, .nameAndType 30 12), (0, u "REPLACE"), (0, .fieldref 8 32), (0, .nameAndType 33 12), (0, u "DELETE"), (0, .fieldref 8 35), (0, .nameAndType 36 12), (0, u "INTENTION_SHARED"), (0, .fieldref 8 38), (0, .nameAndType 39 12), (0, u "INTENTION_EXCLUSIVE"), (0, .integer 2147483647), (0, .methodref 42 43), (0, .class_ 44), (0, .nameAndType 45 46), (0, u "com/example/pathlatch/pathlatch/lock/LockModeIntentionPinLaw"), (0, u "pick"), (0, u "(I)Lcom/example/pathlatch/pathlatch/lock/LockMode;"), (0, .methodref 8 48), (0, .nameAndType 49 50), (0, u "intention"), (0, u "()Lcom/example/pathlatch/pathlatch/lock/LockMode;"), (0, .methodref 42 52), (0, .nameAndType 53 46), (0, u "expected"), (3, u "law"), (0, u "(I)Z")] 2

def k1m0 : Method := { name := "<init>", desc := "()V", sig := { parameters := [], returnType := none }, accessFlags := 1, code := none }
def k1c1 : Code := { maxStack := 2, maxLocals := 1, code := method_2_code, exceptionTable := #[], attributes := #[] }
def k1m1 : Method := { name := "pick", desc := "(I)Lcom/example/pathlatch/pathlatch/lock/LockMode;", sig := { parameters := [.int], returnType := some (.object "com/example/pathlatch/pathlatch/lock/LockMode") }, accessFlags := 10, code := some k1c1 }
def k1c2 : Code := { maxStack := 2, maxLocals := 1, code := method_3_code, exceptionTable := #[], attributes := #[] }
def k1m2 : Method := { name := "expected", desc := "(I)Lcom/example/pathlatch/pathlatch/lock/LockMode;", sig := { parameters := [.int], returnType := some (.object "com/example/pathlatch/pathlatch/lock/LockMode") }, accessFlags := 10, code := some k1c2 }
def k1c3 : Code := { maxStack := 2, maxLocals := 4, code := code, exceptionTable := #[], attributes := #[] }
def k1m3 : Method := { name := "law", desc := "(I)Z", sig := { parameters := [.int], returnType := some .boolean }, accessFlags := 9, code := some k1c3 }
/-- com/example/pathlatch/pathlatch/lock/LockModeIntentionPinLaw -/
def k1 : Class := { plain "com/example/pathlatch/pathlatch/lock/LockModeIntentionPinLaw" (some 0) with
  accessFlags := 49
  interfaces := #[]
  cf := some (fileOf pool1 42 #[] #[{ accessFlags := 1, nameIndex := 5, descriptorIndex := 6, attributes := #[] }, { accessFlags := 10, nameIndex := 45, descriptorIndex := 46, attributes := #[] }, { accessFlags := 10, nameIndex := 53, descriptorIndex := 46, attributes := #[] }, { accessFlags := 9, nameIndex := 57, descriptorIndex := 58, attributes := #[] }] 49 2 #[] #[])
  fields := #[]
  methods := #[k1m0, k1m1, k1m2, k1m3]
  instanceTypes := #[]
  staticTypes := #[]
  resolved := Array.replicate 61 none
  statics := none }

def pool2 : Array CpInfo := pool [(1, .class_ 2), (0, u "java/lang/constant/Constable"), (0, .class_ 4), (0, u "java/lang/Object")] 6

/-- java/lang/constant/Constable -/
def k2 : Class := { plain "java/lang/constant/Constable" (some 0) with
  accessFlags := 1537
  interfaces := #[]
  cf := some (fileOf pool2 1 #[] #[] 1537 3 #[] #[])
  fields := #[]
  methods := #[]
  instanceTypes := #[]
  staticTypes := #[]
  resolved := Array.replicate 11 none
  statics := none }

def pool3 : Array CpInfo := pool [(1, .class_ 2), (0, u "java/lang/Comparable"), (0, .class_ 4), (0, u "java/lang/Object")] 7

/-- java/lang/Comparable -/
def k3 : Class := { plain "java/lang/Comparable" (some 0) with
  accessFlags := 1537
  interfaces := #[]
  cf := some (fileOf pool3 1 #[] #[] 1537 3 #[] #[])
  fields := #[]
  methods := #[]
  instanceTypes := #[]
  staticTypes := #[]
  resolved := Array.replicate 12 none
  statics := none }

def pool4 : Array CpInfo := pool [(1, .class_ 2), (0, u "java/io/Serializable"), (0, .class_ 4), (0, u "java/lang/Object")] 2

/-- java/io/Serializable -/
def k4 : Class := { plain "java/io/Serializable" (some 0) with
  accessFlags := 1537
  interfaces := #[]
  cf := some (fileOf pool4 1 #[] #[] 1537 3 #[] #[])
  fields := #[]
  methods := #[]
  instanceTypes := #[]
  staticTypes := #[]
  resolved := Array.replicate 7 none
  statics := none }

def pool5 : Array CpInfo := pool [(2, .class_ 4), (1, u "java/lang/Enum"), (0, u "name"), (0, u "Ljava/lang/String;"), (2, u "ordinal"), (0, u "I"), (1, .class_ 14), (1, u "java/lang/Object"), (4, u "hash"), (86, .class_ 108), (1, u "java/lang/Enum$EnumDesc"), (2, .class_ 112), (0, u "java/lang/constant/Constable"), (0, .class_ 114), (0, u "java/lang/Comparable"), (0, .class_ 116), (0, u "java/io/Serializable")] 87

/-- java/lang/Enum -/
def k5 : Class := { plain "java/lang/Enum" (some 0) with
  accessFlags := 1057
  interfaces := #[2, 3, 4]
  cf := some (fileOf pool5 2 #[.nestMembers #[106]] #[] 1057 12 #[111, 113, 115] #[{ accessFlags := 18, nameIndex := 5, descriptorIndex := 6, attributes := #[] }, { accessFlags := 18, nameIndex := 9, descriptorIndex := 10, attributes := #[] }, { accessFlags := 2, nameIndex := 19, descriptorIndex := 10, attributes := #[] }])
  fields := #[{ name := "name", type := (.object "java/lang/String"), accessFlags := 18, slot := 0, constantValue := 0 }, { name := "ordinal", type := .int, accessFlags := 18, slot := 1, constantValue := 0 }, { name := "hash", type := .int, accessFlags := 2, slot := 2, constantValue := 0 }]
  methods := #[]
  instanceTypes := #[(.object "java/lang/String"), .int, .int]
  staticTypes := #[]
  resolved := Array.replicate 204 none
  statics := none }

def pool6 : Array CpInfo := pool [(1, .class_ 2), (0, u "com/example/pathlatch/pathlatch/lock/LockMode"), (2, u "READ_SUBTREE"), (0, u "Lcom/example/pathlatch/pathlatch/lock/LockMode;"), (2, u "SHARED"), (2, u "RENAME"), (2, u "INSERT_INTO"), (2, u "INSERT_AFTER"), (2, u "INSERT_BEFORE"), (2, u "REPLACE"), (2, u "DELETE"), (0, .fieldref 1 29), (0, .nameAndType 30 6), (0, u "INTENTION_SHARED"), (0, .fieldref 1 32), (0, .nameAndType 33 6), (0, u "INTENTION_EXCLUSIVE"), (2, u "$VALUES"), (0, u "[Lcom/example/pathlatch/pathlatch/lock/LockMode;"), (6, .class_ 46), (1, u "java/lang/Enum"), (6, .fieldref 1 54), (0, .nameAndType 55 56), (0, u "reads"), (0, u "Z"), (12, u "compatibility"), (0, u "Ljava/lang/String;"), (49, u "intention"), (0, u "()Lcom/example/pathlatch/pathlatch/lock/LockMode;")] 5

def k6c0 : Code := { maxStack := 1, maxLocals := 1, code := prog_96_method_5_code, exceptionTable := #[], attributes := #[] }
def k6m0 : Method := { name := "intention", desc := "()Lcom/example/pathlatch/pathlatch/lock/LockMode;", sig := { parameters := [], returnType := some (.object "com/example/pathlatch/pathlatch/lock/LockMode") }, accessFlags := 1, code := some k6c0 }
/-- com/example/pathlatch/pathlatch/lock/LockMode -/
def k6 : Class := { plain "com/example/pathlatch/pathlatch/lock/LockMode" (some 5) with
  accessFlags := 16433
  interfaces := #[]
  cf := some (fileOf pool6 1 #[] #[{ accessFlags := 1, nameIndex := 120, descriptorIndex := 121, attributes := #[] }] 16433 44 #[] #[{ accessFlags := 16409, nameIndex := 5, descriptorIndex := 6, attributes := #[] }, { accessFlags := 16409, nameIndex := 9, descriptorIndex := 6, attributes := #[] }, { accessFlags := 16409, nameIndex := 12, descriptorIndex := 6, attributes := #[] }, { accessFlags := 16409, nameIndex := 15, descriptorIndex := 6, attributes := #[] }, { accessFlags := 16409, nameIndex := 18, descriptorIndex := 6, attributes := #[] }, { accessFlags := 16409, nameIndex := 21, descriptorIndex := 6, attributes := #[] }, { accessFlags := 16409, nameIndex := 24, descriptorIndex := 6, attributes := #[] }, { accessFlags := 16409, nameIndex := 27, descriptorIndex := 6, attributes := #[] }, { accessFlags := 16409, nameIndex := 30, descriptorIndex := 6, attributes := #[] }, { accessFlags := 16409, nameIndex := 33, descriptorIndex := 6, attributes := #[] }, { accessFlags := 18, nameIndex := 55, descriptorIndex := 56, attributes := #[] }, { accessFlags := 18, nameIndex := 69, descriptorIndex := 70, attributes := #[] }, { accessFlags := 4122, nameIndex := 36, descriptorIndex := 37, attributes := #[] }])
  fields := #[{ name := "READ_SUBTREE", type := (.object "com/example/pathlatch/pathlatch/lock/LockMode"), accessFlags := 16409, slot := 0, constantValue := 0 }, { name := "SHARED", type := (.object "com/example/pathlatch/pathlatch/lock/LockMode"), accessFlags := 16409, slot := 1, constantValue := 0 }, { name := "RENAME", type := (.object "com/example/pathlatch/pathlatch/lock/LockMode"), accessFlags := 16409, slot := 2, constantValue := 0 }, { name := "INSERT_INTO", type := (.object "com/example/pathlatch/pathlatch/lock/LockMode"), accessFlags := 16409, slot := 3, constantValue := 0 }, { name := "INSERT_AFTER", type := (.object "com/example/pathlatch/pathlatch/lock/LockMode"), accessFlags := 16409, slot := 4, constantValue := 0 }, { name := "INSERT_BEFORE", type := (.object "com/example/pathlatch/pathlatch/lock/LockMode"), accessFlags := 16409, slot := 5, constantValue := 0 }, { name := "REPLACE", type := (.object "com/example/pathlatch/pathlatch/lock/LockMode"), accessFlags := 16409, slot := 6, constantValue := 0 }, { name := "DELETE", type := (.object "com/example/pathlatch/pathlatch/lock/LockMode"), accessFlags := 16409, slot := 7, constantValue := 0 }, { name := "INTENTION_SHARED", type := (.object "com/example/pathlatch/pathlatch/lock/LockMode"), accessFlags := 16409, slot := 8, constantValue := 0 }, { name := "INTENTION_EXCLUSIVE", type := (.object "com/example/pathlatch/pathlatch/lock/LockMode"), accessFlags := 16409, slot := 9, constantValue := 0 }, { name := "reads", type := .boolean, accessFlags := 18, slot := 3, constantValue := 0 }, { name := "compatibility", type := (.object "java/lang/String"), accessFlags := 18, slot := 4, constantValue := 0 }, { name := "$VALUES", type := (.array (.object "com/example/pathlatch/pathlatch/lock/LockMode")), accessFlags := 4122, slot := 10, constantValue := 0 }]
  methods := #[k6m0]
  instanceTypes := #[(.object "java/lang/String"), .int, .int, .boolean, (.object "java/lang/String")]
  staticTypes := #[(.object "com/example/pathlatch/pathlatch/lock/LockMode"), (.object "com/example/pathlatch/pathlatch/lock/LockMode"), (.object "com/example/pathlatch/pathlatch/lock/LockMode"), (.object "com/example/pathlatch/pathlatch/lock/LockMode"), (.object "com/example/pathlatch/pathlatch/lock/LockMode"), (.object "com/example/pathlatch/pathlatch/lock/LockMode"), (.object "com/example/pathlatch/pathlatch/lock/LockMode"), (.object "com/example/pathlatch/pathlatch/lock/LockMode"), (.object "com/example/pathlatch/pathlatch/lock/LockMode"), (.object "com/example/pathlatch/pathlatch/lock/LockMode"), (.array (.object "com/example/pathlatch/pathlatch/lock/LockMode"))]
  resolved := Array.replicate 127 none
  statics := some 0 }

def pool7 : Array CpInfo := pool [(1, u "java/lang/Cloneable"), (0, .class_ 1), (0, u "java/lang/Object"), (0, .class_ 3)] 3

/-- java/lang/Cloneable -/
def k7 : Class := { plain "java/lang/Cloneable" (some 0) with
  accessFlags := 1537
  interfaces := #[]
  cf := some (fileOf pool7 2 #[] #[] 1537 4 #[] #[])
  fields := #[]
  methods := #[]
  instanceTypes := #[]
  staticTypes := #[]
  resolved := Array.replicate 8 none
  statics := none }

/-- the primitive byte -/
def k8 : Class := { plain "byte" none with kind := .primitive 'B', accessFlags := 0x411 }
/-- [B -/
def k9 : Class := { plain "[B" (some 0) with kind := .array 8 .byte, interfaces := #[7, 4], accessFlags := 1041 }

/-- the primitive int -/
def k10 : Class := { plain "int" none with kind := .primitive 'I', accessFlags := 0x411 }
/-- [I -/
def k11 : Class := { plain "[I" (some 0) with kind := .array 10 .int, interfaces := #[7, 4], accessFlags := 1041 }

def heap : Heap := #[{ cls := 6, slots := #[.ref 1, .ref 5, .ref 8, .ref 3, .ref 6, .ref 9, .ref 10, .ref 7, .ref 2, .ref 4, .null], vm := .statics 6 },
  { cls := 6, slots := #[.null, .int 0, .int 0, .int 1, .null], vm := .none },
  { cls := 6, slots := #[.null, .int 0, .int 0, .int 1, .null], vm := .none },
  { cls := 6, slots := #[.null, .int 0, .int 0, .int 0, .null], vm := .none },
  { cls := 6, slots := #[.null, .int 0, .int 0, .int 0, .null], vm := .none },
  { cls := 6, slots := #[.null, .int 0, .int 0, .int 1, .null], vm := .none },
  { cls := 6, slots := #[.null, .int 0, .int 0, .int 0, .null], vm := .none },
  { cls := 6, slots := #[.null, .int 0, .int 0, .int 0, .null], vm := .none },
  { cls := 6, slots := #[.null, .int 0, .int 0, .int 0, .null], vm := .none },
  { cls := 6, slots := #[.null, .int 0, .int 0, .int 0, .null], vm := .none },
  { cls := 6, slots := #[.null, .int 0, .int 0, .int 0, .null], vm := .none }]
def classes : Array Class := #[k0, k1, k2, k3, k4, k5, k6, k7, k8, k9, k10, k11]
def interned : List (Array UInt16 × Addr) := []
def slotsUsed : Nat := 61
def theMethod : MethodId := ⟨1, 3⟩
def args0 : Array Value := #[.int 5]
def aboutOver (below : List Frame) : State where
  vm := { classes := classes, interned := interned.toArray }
  heap := heap
  slotsUsed := slotsUsed
  threads := #[{ frames := .invoking theMethod args0 :: below }]
def below0 : List Frame := [.native { method := ⟨0, 0⟩, args := #[] }]
def about1 : State := aboutOver below0
def p0 : Program := .bare "" "" ""
def e0 : Env := launch0.env 0 0 0
theorem w_frames : about1.frames = Frame.invoking theMethod args0 :: below0 := rfl
set_option maxRecDepth 65536 in
theorem w_args : argsFit about1.vm theMethod args0 = true := by decide +kernel
set_option maxRecDepth 65536 in
theorem w_heap : heapFits about1 = true := by decide +kernel
set_option maxRecDepth 65536 in
theorem w_runnable : about1.curStatus? = some .runnable := by decide +kernel
set_option maxRecDepth 65536 in
theorem w_alone : about1.alone = true := by decide +kernel
set_option maxRecDepth 65536 in
theorem w_named : about1.methodNamed? x = some theMethod := by decide +kernel
set_option maxRecDepth 65536 in
theorem w_hears : about1.hears theMethod below0 = true := by decide +kernel
set_option maxRecDepth 65536 in
theorem w_ripe : about1.ripe theMethod args0 below0 = true := by decide +kernel
theorem w_running : about1.status = .running := rfl
set_option maxRecDepth 65536 in
theorem w_room : about1.hasRoom e0.platform room_1 = true :=
  launch0.hasRoom_least _ room_1 (by decide +kernel) (by decide +kernel) (by decide +kernel) (by decide +kernel) (by decide +kernel) (by decide +kernel)
theorem allAtoms_all (ts : List Jvm.Cond) (a : Array Jvm.Value) (st : Jvm.State) : (allAtoms ts).before a st = ts.all (fun c => c.before a st) := by
  induction ts with
  | nil => rfl
  | cons c t ih =>
    show (Jvm.Cond.and c (allAtoms t)).before a st = _
    rw [Jvm.Cond.before_and, ih, List.all_cons]
def words1 : List Jvm.Cond := Jvm.Cond.code x code maxLocals ret :: tables_1
/-- a 'code' word, met by the world's own term for the bytes: nothing is compared byte by byte -/
theorem code_word {y : MethodName} {bytes : ByteArray} {mx : Nat} {rt : Option FieldType} {a : Array Value} {s : State} {m : MethodId} {meth : Method} {c : Code} (h1 : s.methodNamed? y = some m) (h2 : s.vm.method? m = some meth) (h3 : meth.code = some c) (h4 : c.code = bytes)
    (h5 : (c.maxLocals == mx && c.exceptionTable.isEmpty && decide (c.maxStack ≤ mostOperands) && decide (meth.sig.returnType = rt) && !meth.locks && decide (parseMethodDescriptor y.desc = some meth.sig)) = true) : (Jvm.Cond.code y bytes mx rt).before a s = true := by
  simp only [Bool.and_eq_true, beq_iff_eq, Bool.not_eq_true', decide_eq_true_eq] at h5
  obtain ⟨⟨⟨⟨⟨g1, g2⟩, g3⟩, g4⟩, g5⟩, g6⟩ := h5
  simp [Cond.before, Cond.holds, Cond.value, h1, h2, h3, h4, g1, g2, g3, g4, g5, g6]
def isCode : Jvm.Cond → Bool
  | .code _ _ _ _ => true
  | _ => false
theorem all_split {L : List Jvm.Cond} {P : Jvm.Cond → Bool} (h1 : L.all (fun c => isCode c || P c) = true) (h2 : ∀ c ∈ L.filter isCode, P c = true) : L.all P = true := by
  refine List.all_eq_true.mpr fun c hc => ?_
  have h := List.all_eq_true.mp h1 c hc
  rcases Bool.eq_false_or_eq_true (isCode c) with hi | hi
  · exact h2 c (List.mem_filter.mpr ⟨hc, hi⟩)
  · simpa [hi] using h
set_option maxRecDepth 65536 in
theorem w_c0 : (Jvm.Cond.code x code maxLocals ret).before args0 about1 = true := code_word (m := ⟨1, 3⟩) (meth := k1m3) (c := k1c3) (by decide +kernel) rfl rfl rfl (by decide +kernel)
set_option maxRecDepth 65536 in
theorem w_c1 : (Jvm.Cond.code ({ cls := "com/example/pathlatch/pathlatch/lock/LockModeIntentionPinLaw", name := "pick", desc := "(I)Lcom/example/pathlatch/pathlatch/lock/LockMode;" } : Jvm.MethodName) method_2_code (1 : Nat) (Option.some (Jvm.ClassFile.FieldType.object "com/example/pathlatch/pathlatch/lock/LockMode"))).before args0 about1 = true := code_word (m := ⟨1, 1⟩) (meth := k1m1) (c := k1c1) (by decide +kernel) rfl rfl rfl (by decide +kernel)
set_option maxRecDepth 65536 in
theorem w_c2 : (Jvm.Cond.code ({ cls := "com/example/pathlatch/pathlatch/lock/LockMode", name := "intention", desc := "()Lcom/example/pathlatch/pathlatch/lock/LockMode;" } : Jvm.MethodName) prog_96_method_5_code (1 : Nat) (Option.some (Jvm.ClassFile.FieldType.object "com/example/pathlatch/pathlatch/lock/LockMode"))).before args0 about1 = true := code_word (m := ⟨6, 0⟩) (meth := k6m0) (c := k6c0) (by decide +kernel) rfl rfl rfl (by decide +kernel)
set_option maxRecDepth 65536 in
theorem w_c3 : (Jvm.Cond.code ({ cls := "com/example/pathlatch/pathlatch/lock/LockModeIntentionPinLaw", name := "expected", desc := "(I)Lcom/example/pathlatch/pathlatch/lock/LockMode;" } : Jvm.MethodName) method_3_code (1 : Nat) (Option.some (Jvm.ClassFile.FieldType.object "com/example/pathlatch/pathlatch/lock/LockMode"))).before args0 about1 = true := code_word (m := ⟨1, 2⟩) (meth := k1m2) (c := k1c2) (by decide +kernel) rfl rfl rfl (by decide +kernel)
def codes1 : List Jvm.Cond := [Jvm.Cond.code x code maxLocals ret, Jvm.Cond.code ({ cls := "com/example/pathlatch/pathlatch/lock/LockModeIntentionPinLaw", name := "pick", desc := "(I)Lcom/example/pathlatch/pathlatch/lock/LockMode;" } : Jvm.MethodName) method_2_code (1 : Nat) (Option.some (Jvm.ClassFile.FieldType.object "com/example/pathlatch/pathlatch/lock/LockMode")), Jvm.Cond.code ({ cls := "com/example/pathlatch/pathlatch/lock/LockMode", name := "intention", desc := "()Lcom/example/pathlatch/pathlatch/lock/LockMode;" } : Jvm.MethodName) prog_96_method_5_code (1 : Nat) (Option.some (Jvm.ClassFile.FieldType.object "com/example/pathlatch/pathlatch/lock/LockMode")), Jvm.Cond.code ({ cls := "com/example/pathlatch/pathlatch/lock/LockModeIntentionPinLaw", name := "expected", desc := "(I)Lcom/example/pathlatch/pathlatch/lock/LockMode;" } : Jvm.MethodName) method_3_code (1 : Nat) (Option.some (Jvm.ClassFile.FieldType.object "com/example/pathlatch/pathlatch/lock/LockMode"))]
set_option maxRecDepth 65536 in
theorem codes_eq : words1.filter isCode = codes1 := rfl
theorem w_codes : ∀ c ∈ words1.filter isCode, c.before args0 about1 = true := by
  rw [codes_eq]
  intro c hc
  simp only [codes1, List.mem_cons, List.not_mem_nil, or_false] at hc
  rcases hc with rfl | rfl | rfl | rfl
  · exact w_c0
  · exact w_c1
  · exact w_c2
  · exact w_c3
set_option maxRecDepth 65536 in
theorem w_t1 : (words1.take 24).all (fun c => isCode c || c.before args0 about1) = true := by decide +kernel
set_option maxRecDepth 65536 in
theorem w_t2 : (words1.drop 24).all (fun c => isCode c || c.before args0 about1) = true := by decide +kernel
theorem w_tables : (allAtoms (Jvm.Cond.code x code maxLocals ret :: tables_1)).before args0 about1 = true := by
  rw [allAtoms_all]
  show words1.all (fun c => c.before args0 about1) = true
  refine all_split ?_ w_codes
  rw [← List.take_append_drop 24 words1, List.all_append, w_t1, w_t2]
  rfl
set_option maxRecDepth 65536 in
theorem w_case : (Jvm.Cond.and given_1 narrow_1).before args0 about1 = true := by decide +kernel
theorem w_applies : (headSpec (Jvm.Cond.code x code maxLocals ret :: tables_1) room_1).applies x e0.platform about1 = true :=
  (Spec.applies_iff w_frames).mpr ⟨w_running, w_runnable, w_alone, w_named, w_hears, w_ripe, w_room, w_tables⟩
theorem atStart : AtStart classFile x code maxLocals ret World_1 tables_1 room_1 Calls_1 rest_1 Pre_1 launch0 p0 e0 about1 theMethod args0 below0 :=
  ⟨lists_1, trivial, launch0.admits_env _ _ _, launch0.least_env, fairChoices_fair.cas, fairChoices_fair.clock, w_frames, w_args, w_heap, w_applies, trivial, trivial, w_case⟩
end start1
theorem witness_1 : WitnessClaimed_1 := ⟨start1.p0, start1.e0, start1.about1, start1.theMethod, start1.args0, start1.below0, start1.atStart⟩
end Jvm.Pilot.@@N@@
