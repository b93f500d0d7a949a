import JvmDerived
import JvmDerived.Pilot.@@N@@Statement
import JvmDerived.Pilot.@@N@@Code
set_option linter.unusedVariables false
set_option linter.unusedSimpArgs false
namespace Jvm.Own
open Sem ClassFile Op Lib Jvm.Stand Jvm.Free Jvm.LawKit Jvm.RoadKit
/-- from here the run goes on to a return that the contract allows -/
def Wk (p : Program) (e : Env) (below : List Frame) (F : Outcome → State → Prop) (T : State) (g : JFrame) : Prop :=
  ∃ s₂ o, Steps p.tables e below (T.setTop g) s₂ ∧ s₂.status = .running ∧ Ended s₂ below o ∧ F o s₂
abbrev FN (s : State) (Q : Option Value → Heap → List Loc → Prop) (kc ks : Nat) : Outcome → State → Prop := fun o s₂ => ∃ v L, o = .returned v ∧ Q v s₂.heap L ∧ FrameEnd s o s₂ L kc ks
section Walk
variable {p : Program} {l : Launch} {e : Env} {R : Room} {s : State} {m : MethodId} {args : Array Value} {below : List Frame} {meth : Method} {c : Code} {T : State} {locs : List Loc} {cells slots : Nat} {Q : Option Value → Heap → List Loc → Prop} {Fe : Outcome → State → Prop} {kc ks pc : Nat} {Ls : Array Slot} {S : List Value} {Z : State} {a0 : Array Value} {h : Heap}
theorem Wk.step {T' : State} {g g' : JFrame} (h : Wk p e below Fe T' g') (st : ∀ t, Steps p.tables e below (T'.setTop g') t → Steps p.tables e below (T.setTop g) t) : Wk p e below Fe T g := by
  obtain ⟨s₂, o, h1, h2⟩ := h
  exact ⟨s₂, o, st _ h1, h2⟩
theorem Wk.come {T' : State} {g g' : JFrame} (h : Wk p e below Fe T' g') (st : Steps p.tables e below (T.setTop g) (T'.setTop g')) : Wk p e below Fe T g := h.step fun _ k => st.trans k
theorem w_iload (X : Stand p l e R s m args below meth c T locs cells slots) (hx : p.tables.exec = Jvm.exec) {k : Nat} (v : Int32) (hd : decode c.code pc = .ok (.iload k, 2)) (pc' : Nat) (hp : pc + 2 = pc') (hl : Ls[k]? = some (.val (.int v))) (h : Wk p e below Fe T (mkF m pc' Ls (.int v :: S))) : Wk p e below Fe T (mkF m pc Ls S) := by
  subst hp; exact h.step fun _ k => XS.iload X.here hx rfl hd hl k
theorem w_iloadN (X : Stand p l e R s m args below meth c T locs cells slots) (hx : p.tables.exec = Jvm.exec) {k : Fin 4} (v : Int32) (hd : decode c.code pc = .ok (.iload_n k, 1)) (pc' : Nat) (hp : pc + 1 = pc') (hl : Ls[k.val]? = some (.val (.int v))) (h : Wk p e below Fe T (mkF m pc' Ls (.int v :: S))) : Wk p e below Fe T (mkF m pc Ls S) := by
  subst hp; exact h.step fun _ k => XS.iloadN X.here hx rfl hd hl k
theorem w_aload (X : Stand p l e R s m args below meth c T locs cells slots) (hx : p.tables.exec = Jvm.exec) {k : Nat} (v : Value) (hd : decode c.code pc = .ok (.aload k, 2)) (pc' : Nat) (hp : pc + 2 = pc') (hl : Ls[k]? = some (.val v)) (hv : v.isRef = true) (h : Wk p e below Fe T (mkF m pc' Ls (v :: S))) : Wk p e below Fe T (mkF m pc Ls S) := by
  subst hp; exact h.step fun _ k => XS.aload X.here hx rfl hd hl hv k
theorem w_aloadN (X : Stand p l e R s m args below meth c T locs cells slots) (hx : p.tables.exec = Jvm.exec) {k : Fin 4} (v : Value) (hd : decode c.code pc = .ok (.aload_n k, 1)) (pc' : Nat) (hp : pc + 1 = pc') (hl : Ls[k.val]? = some (.val v)) (hv : v.isRef = true) (h : Wk p e below Fe T (mkF m pc' Ls (v :: S))) : Wk p e below Fe T (mkF m pc Ls S) := by
  subst hp; exact h.step fun _ k => XS.aloadN X.here hx rfl hd hl hv k
theorem w_istore (X : Stand p l e R s m args below meth c T locs cells slots) (hx : p.tables.exec = Jvm.exec) {k : Nat} {x : Int32} (hd : decode c.code pc = .ok (.istore k, 2)) (pc' : Nat) (hp : pc + 2 = pc') (l' : Array Slot) (hl : storeLocals Ls k (.int x) = some l') (h : Wk p e below Fe T (mkF m pc' l' S)) : Wk p e below Fe T (mkF m pc Ls (.int x :: S)) := by
  subst hp; exact h.step fun _ k => XS.istore X.here hx rfl hd rfl hl k
theorem w_astore (X : Stand p l e R s m args below meth c T locs cells slots) (hx : p.tables.exec = Jvm.exec) {k : Nat} {x : Value} (hd : decode c.code pc = .ok (.astore k, 2)) (pc' : Nat) (hp : pc + 2 = pc') (hv : x.isRef = true) (l' : Array Slot) (hl : storeLocals Ls k x = some l') (h : Wk p e below Fe T (mkF m pc' l' S)) : Wk p e below Fe T (mkF m pc Ls (x :: S)) := by
  subst hp; exact h.step fun _ k => XS.astore X.here hx rfl hd rfl hv hl k
theorem w_iconst (X : Stand p l e R s m args below meth c T locs cells slots) (hx : p.tables.exec = Jvm.exec) {i : Int} (hd : decode c.code pc = .ok (.iconst i, 1)) (pc' : Nat) (hp : pc + 1 = pc') (z : Int32) (hz : Int32.ofInt i = z) (h : Wk p e below Fe T (mkF m pc' Ls (.int z :: S))) : Wk p e below Fe T (mkF m pc Ls S) := by
  subst hp hz; exact h.step fun _ k => XS.iconst X.here hx rfl hd k
theorem w_iadd (X : Stand p l e R s m args below meth c T locs cells slots) (hx : p.tables.exec = Jvm.exec) {x y : Int32} (hd : decode c.code pc = .ok (.iadd, 1)) (pc' : Nat) (hp : pc + 1 = pc') {z : Int32} (hz : z = x + y) (h : Wk p e below Fe T (mkF m pc' Ls (.int z :: S))) : Wk p e below Fe T (mkF m pc Ls (.int y :: .int x :: S)) := by
  subst hp hz; exact h.step fun _ k => XS.iadd X.here hx rfl hd rfl k
theorem w_ixor (X : Stand p l e R s m args below meth c T locs cells slots) (hx : p.tables.exec = Jvm.exec) {x y : Int32} (hd : decode c.code pc = .ok (.ixor, 1)) (pc' : Nat) (hp : pc + 1 = pc') {z : Int32} (hz : z = x ^^^ y) (h : Wk p e below Fe T (mkF m pc' Ls (.int z :: S))) : Wk p e below Fe T (mkF m pc Ls (.int y :: .int x :: S)) := by
  subst hp hz; exact h.step fun _ k => XS.ixor X.here hx rfl hd rfl k
theorem w_dup (X : Stand p l e R s m args below meth c T locs cells slots) (hx : p.tables.exec = Jvm.exec) {x : Value} (hd : decode c.code pc = .ok (.dup, 1)) (pc' : Nat) (hp : pc + 1 = pc') (hc : x.category = 1) (h : Wk p e below Fe T (mkF m pc' Ls (x :: x :: S))) : Wk p e below Fe T (mkF m pc Ls (x :: S)) := by
  subst hp; exact h.step fun _ k => XS.dup X.here hx rfl hd rfl hc k
theorem w_goto (X : Stand p l e R s m args below meth c T locs cells slots) (hx : p.tables.exec = Jvm.exec) {o : Int} (hd : decode c.code pc = .ok (.goto o, 3)) (pc' : Nat) (h : Wk p e below Fe T (mkF m pc' Ls S)) (ho : 0 ≤ (pc : Int) + o := by decide) (hp : ((pc : Int) + o).toNat = pc' := by decide) : Wk p e below Fe T (mkF m pc Ls S) := by
  exact h.step fun _ k => XS.goto X.here hx rfl rfl hd ho hp k
theorem holds_eq {x y : Int32} {A B : Int} (ha : x.toInt = A) (hb : y.toInt = B) : ((A = B) → if_icmp.holds .eq x y = true) ∧ ((¬ A = B) → if_icmp.holds .eq x y = false) := by
  subst ha hb
  constructor
  · intro q
    first
    | exact (tlt (x := x) (y := y) (Int32.lt_iff_toInt_lt.mpr (by omega))).1
    | exact (flt (x := x) (y := y) (fun r => by have := Int32.lt_iff_toInt_lt.mp r; omega)).2.1
    | exact (tlt (x := y) (y := x) (Int32.lt_iff_toInt_lt.mpr (by omega))).2.2.1
    | exact (flt (x := y) (y := x) (fun r => by have := Int32.lt_iff_toInt_lt.mp r; omega)).2.2.2
    | exact (teq (x := x) (y := y) (Int32.toInt_inj.mp (by omega))).1
    | exact (feq (x := x) (y := y) (fun r => q (by rw [r]))).2
  · intro q
    first
    | exact (flt (x := x) (y := y) (fun r => by have := Int32.lt_iff_toInt_lt.mp r; omega)).1
    | exact (tlt (x := x) (y := y) (Int32.lt_iff_toInt_lt.mpr (by omega))).2.1
    | exact (flt (x := y) (y := x) (fun r => by have := Int32.lt_iff_toInt_lt.mp r; omega)).2.2.1
    | exact (tlt (x := y) (y := x) (Int32.lt_iff_toInt_lt.mpr (by omega))).2.2.2
    | exact (feq (x := x) (y := y) (fun r => q (by rw [r]))).1
    | exact (teq (x := x) (y := y) (Int32.toInt_inj.mp (by omega))).2
theorem w_if_eq (X : Stand p l e R s m args below meth c T locs cells slots) (hx : p.tables.exec = Jvm.exec) {x : Int32} {o : Int} (A : Int) (ha : x.toInt = A) (hd : decode c.code pc = .ok (.ifCond .eq o, 3)) (pt pn : Nat) (h1 : A = 0 → Wk p e below Fe T (mkF m pt Ls S)) (h2 : ¬ A = 0 → Wk p e below Fe T (mkF m pn Ls S)) (ho : 0 ≤ (pc : Int) + o := by decide) (hp : ((pc : Int) + o).toNat = pt := by decide) (hn : pc + 3 = pn := by rfl) : Wk p e below Fe T (mkF m pc Ls (.int x :: S)) := by
  subst hn
  have hb : (0 : Int32).toInt = 0 := rfl
  by_cases q : A = 0
  · exact (h1 q).step fun _ k => XS.ifYes X.here hx rfl rfl hd rfl ((if0 _ _).trans ((holds_eq ha hb).1 q)) ho hp k
  · have q' : ¬ A = 0 := by omega
    exact (h2 q').step fun _ k => XS.ifNo X.here hx rfl hd rfl ((if0 _ _).trans ((holds_eq ha hb).2 q')) k
theorem holds_ne {x y : Int32} {A B : Int} (ha : x.toInt = A) (hb : y.toInt = B) : ((¬ A = B) → if_icmp.holds .ne x y = true) ∧ ((A = B) → if_icmp.holds .ne x y = false) := by
  subst ha hb
  constructor
  · intro q
    first
    | exact (tlt (x := x) (y := y) (Int32.lt_iff_toInt_lt.mpr (by omega))).1
    | exact (flt (x := x) (y := y) (fun r => by have := Int32.lt_iff_toInt_lt.mp r; omega)).2.1
    | exact (tlt (x := y) (y := x) (Int32.lt_iff_toInt_lt.mpr (by omega))).2.2.1
    | exact (flt (x := y) (y := x) (fun r => by have := Int32.lt_iff_toInt_lt.mp r; omega)).2.2.2
    | exact (teq (x := x) (y := y) (Int32.toInt_inj.mp (by omega))).1
    | exact (feq (x := x) (y := y) (fun r => q (by rw [r]))).2
  · intro q
    first
    | exact (flt (x := x) (y := y) (fun r => by have := Int32.lt_iff_toInt_lt.mp r; omega)).1
    | exact (tlt (x := x) (y := y) (Int32.lt_iff_toInt_lt.mpr (by omega))).2.1
    | exact (flt (x := y) (y := x) (fun r => by have := Int32.lt_iff_toInt_lt.mp r; omega)).2.2.1
    | exact (tlt (x := y) (y := x) (Int32.lt_iff_toInt_lt.mpr (by omega))).2.2.2
    | exact (feq (x := x) (y := y) (fun r => q (by rw [r]))).1
    | exact (teq (x := x) (y := y) (Int32.toInt_inj.mp (by omega))).2
theorem w_icmp_ne (X : Stand p l e R s m args below meth c T locs cells slots) (hx : p.tables.exec = Jvm.exec) {x y : Int32} {o : Int} (A B : Int) (ha : x.toInt = A) (hb : y.toInt = B) (hd : decode c.code pc = .ok (.if_icmp .ne o, 3)) (pt pn : Nat) (h1 : ¬ A = B → Wk p e below Fe T (mkF m pt Ls S)) (h2 : A = B → Wk p e below Fe T (mkF m pn Ls S)) (ho : 0 ≤ (pc : Int) + o := by decide) (hp : ((pc : Int) + o).toNat = pt := by decide) (hn : pc + 3 = pn := by rfl) : Wk p e below Fe T (mkF m pc Ls (.int y :: .int x :: S)) := by
  subst hn
  by_cases q : ¬ A = B
  · exact (h1 q).step fun _ k => XS.icmpYes X.here hx rfl rfl hd rfl ((holds_ne ha hb).1 q) ho hp k
  · have q' : A = B := by omega
    exact (h2 q').step fun _ k => XS.icmpNo X.here hx rfl hd rfl ((holds_ne ha hb).2 q') k
theorem w_retN (X : Stand p l e R s m args below meth c T locs cells slots) (hx : p.tables.exec = Jvm.exec) (hlocks : meth.locks = false) {t : FieldType} {z : Int32} (hret : meth.sig.returnType = some t) (ht : t = .boolean ∨ t = .byte ∨ t = .char ∨ t = .short) (hd : decode c.code pc = .ok (.ireturn, 1)) (hc : cells ≤ kc) (hs : slots ≤ ks) (hQ : Q (some (.int (nar t z))) T.heap locs) : Wk p e below (FN s Q kc ks) T (mkF m pc Ls (.int z :: S)) := by
  obtain ⟨fs, hr, hrun, hended, hW, hsame⟩ := X.leave (v := some (.int (nar t z))) (fun h => by rw [hret] at h; cases h) hlocks
  exact ⟨_, _, retN X hx hret ht hd hr, hrun, hended, _, _, rfl, hQ, ⟨_, rfl⟩, hW, hsame.mono hc hs⟩
theorem w_retO (X : Stand p l e R s m args below meth c T locs cells slots) (hx : p.tables.exec = Jvm.exec) (hlocks : meth.locks = false) {t : FieldType} {w : Value} {i : Instr} (hret : meth.sig.returnType = some t) (hn : narrow t w = w)
    (hi : (i = .ireturn ∧ (t = .int ∨ t = .boolean ∨ t = .byte ∨ t = .char ∨ t = .short) ∧ ∃ z, w = .int z) ∨ (i = .lreturn ∧ t = .long ∧ ∃ z, w = .long z) ∨ (i = .dreturn ∧ t = .double ∧ ∃ z, w = .double z) ∨ (i = .freturn ∧ t = .float ∧ ∃ z, w = .float z) ∨ (i = .areturn ∧ t.isReference = true ∧ w.isRef = true))
    (hd : decode c.code pc = .ok (i, 1)) (hc : cells ≤ kc) (hs : slots ≤ ks) (hQ : Q (some w) T.heap locs) : Wk p e below (FN s Q kc ks) T (mkF m pc Ls (w :: S)) := by
  obtain ⟨fs, hr, hrun, hended, hW, hsame⟩ := X.leave (v := some w) (fun h => by rw [hret] at h; cases h) hlocks
  exact ⟨_, _, retOut X hx hret hn hi hd hr, hrun, hended, _, _, rfl, hQ, ⟨_, rfl⟩, hW, hsame.mono hc hs⟩
theorem w_retI (X : Stand p l e R s m args below meth c T locs cells slots) (hx : p.tables.exec = Jvm.exec) (hlocks : meth.locks = false) {z : Int32} (hret : meth.sig.returnType = some .int) (hd : decode c.code pc = .ok (.ireturn, 1)) (hc : cells ≤ kc) (hs : slots ≤ ks) (hQ : Q (some (.int z)) T.heap locs) : Wk p e below (FN s Q kc ks) T (mkF m pc Ls (.int z :: S)) :=
  w_retO X hx hlocks hret rfl (Or.inl ⟨rfl, Or.inl rfl, _, rfl⟩) hd hc hs hQ
theorem w_ret0 (X : Stand p l e R s m args below meth c T locs cells slots) (hx : p.tables.exec = Jvm.exec) (hlocks : meth.locks = false) (hret : meth.sig.returnType = none) (hd : decode c.code pc = .ok (.return_, 1)) (hc : cells ≤ kc) (hs : slots ≤ ks) (hQ : Q none T.heap locs) : Wk p e below (FN s Q kc ks) T (mkF m pc Ls []) := by
  obtain ⟨fs, hr, hrun, hended, hW, hsame⟩ := X.leave (v := none) (fun _ => rfl) hlocks
  exact ⟨_, _, X.returnOut hx hret hd hr, hrun, hended, _, _, rfl, hQ, ⟨_, rfl⟩, hW, hsame.mono hc hs⟩
theorem w_init (X : Stand p l e R s m args below meth c T locs cells slots) (hx : p.tables.exec = Jvm.exec) (hZ : Z.Warmed39 s.vm) {own : String} {index : Nat} {y : MethodName} {bytes : ByteArray} {maxL : Nat} {rm : Room} {as' : Array Value} {Qc : Option Value → Heap → List Loc → Prop} (hy1 : y.name = "<init>") (hown : s.vm.findClass own = some m.cls) (eT : T.heap = h)
    (hM : MetFree l y (head1 [Cond.code y bytes maxL none] rm) (fun a U => a = as' ∧ Z.Warmed39 U.vm ∧ U.heap = h) (fun _ _ _ _ _ => True) (fun _ U o U' => ∃ v L, o = .returned v ∧ Qc v U'.heap L ∧ FrameEnd U o U' L rm.cells rm.slots))
    (w1 : (Cond.methodLink own index y).before a0 Z = true) (w2 : (Cond.instanceMethod y).before a0 Z = true) (w3 : (Cond.initialized y.cls).before a0 Z = true) (w4 : (Cond.code y bytes maxL none).before a0 Z = true) (hy : y.cls ≠ "java/lang/invoke/MethodHandle" ∧ y.cls ≠ "java/lang/invoke/VarHandle")
    (hsize : Ls.size = c.maxLocals) (a : Addr) (argsL rest : List Value) (hlen : ∀ sig, parseMethodDescriptor y.desc = some sig → argsL.length = sig.parameters.length) (hst : S = argsL.reverse ++ .ref a :: rest) (has : (Value.ref a :: argsL).toArray = as')
    (hf : rm.frames + 1 ≤ R.frames) (W : Nat) (hW : (rest.map fun v => v.category).sum = W) (hl : W + (maxL + 11) + rm.locals ≤ R.locals) (hc : cells + rm.cells ≤ R.cells) (hs : slots + rm.slots ≤ R.slots) (hd : decode c.code pc = .ok (.invokespecial index, 3)) (pc' : Nat) (hp : pc + 3 = pc')
    (k : ∀ (v : Option Value) (T' : State) (L : List Loc), Stand p l e R s m args below meth c T' (locs ++ L) (cells + rm.cells) (slots + rm.slots) → Qc v T'.heap L → Wk p e below Fe T' (mkF m pc' Ls (v.toList ++ rest))) : Wk p e below Fe T (mkF m pc Ls S) := by
  subst hp hst has hW
  obtain ⟨v, _, ⟨T', L', k', n'⟩, -, X', ⟨Lc, q1, q2, q3, q4⟩, st⟩ := X.specialBack hx hy1 hown (mvT hZ w1) (mvT hZ w2) (mvT hZ w4) hy (backOf hM hZ w4 w3 hf hl) (g := mkF m pc Ls (argsL.reverse ++ .ref a :: rest)) rfl hsize (Steps.refl _) hlen rfl (by show 2 * 0 + _ ≤ _; rw [Nat.mul_zero, Nat.zero_add]; exact Nat.le_refl _) hd (fun _ _ => ⟨rfl, eT, hc, hs⟩)
  dsimp only [Pt.U, Pt.locs, Pt.cells, Pt.slots] at X' q2 q3 q4 st q1
  subst q2 q3 q4
  exact (k v T' Lc X' q1).come st
theorem w_virt (X : Stand p l e R s m args below meth c T locs cells slots) (hx : p.tables.exec = Jvm.exec) (hZ : Z.Warmed39 s.vm) {own : String} {index : Nat} {y : MethodName} {bytes : ByteArray} {maxL : Nat} {ret : Option FieldType} {rm : Room} {as' : Array Value} {Qc : Option Value → Heap → List Loc → Prop} {C : String} {y0 : MethodName} (hown : s.vm.findClass own = some m.cls) (eT : T.heap = h)
    (hM : MetFree l y (head1 [Cond.code y bytes maxL ret] rm) (fun a U => a = as' ∧ Z.Warmed39 U.vm ∧ U.heap = h) (fun _ _ _ _ _ => True) (fun _ U o U' => ∃ v L, o = .returned v ∧ Qc v U'.heap L ∧ FrameEnd U o U' L rm.cells rm.slots))
    (w1 : (Cond.methodLink own index y0).before a0 Z = true) (w2 : (Cond.declares y0).before a0 Z = true) (nf : NotFace s y0) (w5 : (Cond.selects C y0 y).before a0 Z = true) (w6 : (Cond.instanceMethod y).before a0 Z = true) (w3 : (Cond.initialized y.cls).before a0 Z = true) (w4 : (Cond.code y bytes maxL ret).before a0 Z = true) (hy : y0.cls ≠ "java/lang/invoke/MethodHandle" ∧ y0.cls ≠ "java/lang/invoke/VarHandle")
    (a : Addr) (E : Exa Z h a C)
    (hsize : Ls.size = c.maxLocals) (argsL rest : List Value) (hlen : ∀ sig, parseMethodDescriptor y0.desc = some sig → argsL.length = sig.parameters.length) (hst : S = argsL.reverse ++ .ref a :: rest) (has : (Value.ref a :: argsL).toArray = as')
    (hf : rm.frames + 1 ≤ R.frames) (W : Nat) (hW : (rest.map fun v => v.category).sum = W) (hl : W + (maxL + 11) + rm.locals ≤ R.locals) (hc : cells + rm.cells ≤ R.cells) (hs : slots + rm.slots ≤ R.slots) (hd : decode c.code pc = .ok (.invokevirtual index, 3)) (pc' : Nat) (hp : pc + 3 = pc')
    (k : ∀ (v : Option Value) (T' : State) (L : List Loc), Stand p l e R s m args below meth c T' (locs ++ L) (cells + rm.cells) (slots + rm.slots) → Qc v T'.heap L → Wk p e below Fe T' (mkF m pc' Ls (v.toList ++ rest))) : Wk p e below Fe T (mkF m pc Ls S) := by
  subst hp hst has hW
  obtain ⟨cq, kq, qa, qb, qc⟩ := isOf hZ eT E
  obtain ⟨v, _, ⟨T', L', k', n'⟩, -, X', ⟨Lc, q1, q2, q3, q4⟩, st⟩ := X.virtualBack hx hown (mvT hZ w1) (mvT hZ w2) nf (mvT hZ w5) (mvT hZ w6) hy (backOf hM hZ w4 w3 hf hl) qa qc (g := mkF m pc Ls (argsL.reverse ++ .ref a :: rest)) rfl hsize (Steps.refl _) hlen rfl (by show 2 * 0 + _ ≤ _; rw [Nat.mul_zero, Nat.zero_add]; exact Nat.le_refl _) hd (fun _ _ => ⟨rfl, eT, hc, hs⟩)
  dsimp only [Pt.U, Pt.locs, Pt.cells, Pt.slots] at X' q2 q3 q4 st q1
  subst q2 q3 q4
  exact (k v T' Lc X' q1).come st
theorem w_objinit (X : Stand p l e R s m args below meth c T locs cells slots) (hx : p.tables.exec = Jvm.exec) (hZ : Z.Warmed39 s.vm) {own : String} {idx : Nat} (hown : s.vm.findClass own = some m.cls) (eT : T.heap = h) (w1 : (Cond.methodLink own idx Lib.objectInit).before a0 Z = true) (w2 : (Cond.instanceMethod Lib.objectInit).before a0 Z = true) (w3 : (Cond.code Lib.objectInit ⟨#[0xb1]⟩ 1 none).before a0 Z = true)
    (hsize : Ls.size = c.maxLocals) {a : Addr} (hf : 1 ≤ R.frames) (W : Nat) (hW : (S.map fun v => v.category).sum = W) (hl : W + 12 ≤ R.locals) (hd : decode c.code pc = .ok (.invokespecial idx, 3)) (pc' : Nat) (hp : pc + 3 = pc')
    (k : ∀ T' : State, Stand p l e R s m args below meth c T' locs cells slots → T'.heap = h → Wk p e below Fe T' (mkF m pc' Ls S)) : Wk p e below Fe T (mkF m pc Ls (.ref a :: S)) := by
  subst hp hW
  obtain ⟨T', X', e', st⟩ := initO X hx hZ hown w1 w2 w3 eT (g := mkF m pc Ls (.ref a :: S)) rfl hsize rfl hd hf (by show 2 * 0 + _ ≤ _; rw [Nat.mul_zero, Nat.zero_add]; exact Nat.le_refl _) hl
  exact (k T' X' e').step st
theorem w_getF (X : Stand p l e R s m args below meth c T locs cells slots) (hx : p.tables.exec = Jvm.exec) (hZ : Z.Warmed39 s.vm) {own R0 O n d host : String} {index : Nat} (hown : s.vm.findClass own = some m.cls) (eT : T.heap = h) (w : (Cond.fieldLink own index R0 n d).before a0 Z = true ∨ (Cond.fieldLinkNest own index R0 n d host).before a0 Z = true) (via : Via Z R0 O n d)
    {a : Addr} {v : Value} (F : Fld Z h a O n d v) (hd : decode c.code pc = .ok (.getfield index, 3)) (pc' : Nat) (hp : pc + 3 = pc')
    (k : ∀ T' : State, Stand p l e R s m args below meth c T' locs cells slots → T'.heap = h → Wk p e below Fe T' (mkF m pc' Ls (v :: S))) : Wk p e below Fe T (mkF m pc Ls (.ref a :: S)) := by
  subst hp
  obtain ⟨T', X', e', st⟩ := getF X hx hZ hown w via eT F (g := mkF m pc Ls (.ref a :: S)) rfl rfl hd
  exact (k T' X' e').step st
theorem w_getS (X : Stand p l e R s m args below meth c T locs cells slots) (hx : p.tables.exec = Jvm.exec) (hZ : Z.Warmed39 s.vm) {own R0 O n d host : String} {index : Nat} (hown : s.vm.findClass own = some m.cls) (eT : T.heap = h) (w : (Cond.fieldLink own index R0 n d).before a0 Z = true ∨ (Cond.fieldLinkNest own index R0 n d host).before a0 Z = true) (via : Via Z R0 O n d)
    {v : Value} (F : Sta Z h O n d v) (hd : decode c.code pc = .ok (.getstatic index, 3)) (pc' : Nat) (hp : pc + 3 = pc')
    (k : ∀ T' : State, Stand p l e R s m args below meth c T' locs cells slots → T'.heap = h → Wk p e below Fe T' (mkF m pc' Ls (v :: S))) : Wk p e below Fe T (mkF m pc Ls S) := by
  subst hp
  obtain ⟨T', X', e', st⟩ := getS2 X hx hZ hown w via eT F (g := mkF m pc Ls S) rfl hd
  exact (k T' X' e').step st
theorem w_putF (X : Stand p l e R s m args below meth c T locs cells slots) (hx : p.tables.exec = Jvm.exec) (hZ : Z.Warmed39 s.vm) {own R0 O n d host C : String} {index kk : Nat} {ty : FieldType} (hown : s.vm.findClass own = some m.cls) (eT : T.heap = h) (w : (Cond.fieldLink own index R0 n d).before a0 Z = true ∨ (Cond.fieldLinkNest own index R0 n d host).before a0 Z = true) (via : Via Z R0 O n d)
    {a : Addr} {v old : Value} (F : Fld Z h a O n d old) (E : Exa Z h a C) (L : (Cond.lays C O n d).before a0 Z = true ∨ ((Cond.laysFinal C O n d).before a0 Z = true ∧ own = O ∧ meth.name = "<init>")) (wi : (Cond.instantiable C kk).before a0 Z = true)
    (hty : parseFieldDescriptor d = some ty) (hn : narrow ty v = v) (hf : fits ty v = true) (hd : decode c.code pc = .ok (.putfield index, 3)) (pc' : Nat) (hp : pc + 3 = pc')
    (k : ∀ (T' : State) (h' : Heap), Stand p l e R s m args below meth c T' (locs ++ [⟨a, Jvm.RoadKit.slotOf Z O n d⟩]) cells slots → T'.heap = h' → Wr h h' a (Jvm.RoadKit.slotOf Z O n d) v → Wk p e below Fe T' (mkF m pc' Ls S)) : Wk p e below Fe T (mkF m pc Ls (v :: .ref a :: S)) := by
  subst hp
  obtain ⟨T', h', X', e', W', st⟩ := putF X hx hZ hown w via eT F E L wi hty hn hf (g := mkF m pc Ls (v :: .ref a :: S)) rfl rfl hd
  exact (k T' h' X' e' W').step st
theorem w_new (X : Stand p l e R s m args below meth c T locs cells slots) (hx : p.tables.exec = Jvm.exec) (hZ : Z.Warmed39 s.vm) {own C : String} {index n : Nat} (hown : s.vm.findClass own = some m.cls) (eT : T.heap = h) (w : (Cond.classLink own index C).before a0 Z = true) (wi : (Cond.instantiable C n).before a0 Z = true) (wz : (Cond.initialized C).before a0 Z = true)
    (hc : cells + 1 ≤ R.cells) (hl : slots + n ≤ R.slots) (hd : decode c.code pc = .ok (.new index, 3)) (pc' : Nat) (hp : pc + 3 = pc')
    (k : ∀ (T' : State) (h' : Heap) (a : Addr), Stand p l e R s m args below meth c T' locs (cells + 1) (slots + n) → T'.heap = h' → a = h.size → Ext h h' → Exa Z h' a C → (∀ {O nm d : String} {ty : FieldType}, Laid Z a0 C O nm d → parseFieldDescriptor d = some ty → Fld Z h' a O nm d (defaultValue ty)) → Wk p e below Fe T' (mkF m pc' Ls (.ref a :: S))) : Wk p e below Fe T (mkF m pc Ls S) := by
  subst hp
  obtain ⟨T', h', X', e', E', A', D', -, st⟩ := newO X hx hZ hown w wi wz eT (g := mkF m pc Ls S) rfl hd hc hl
  exact (k T' h' _ X' e' rfl E' A' D').step st
abbrev CT (l : Launch) (y : MethodName) (bytes : ByteArray) (maxL : Nat) (ret : Option FieldType) (ws : List Cond) (rm : Room) (as' : Array Value) (Z : State) (h0 : Heap) (Q : Option Value → Heap → List Loc → Prop) : Prop :=
  MetFree l y (head1 (Cond.code y bytes maxL ret :: ws) rm) (fun a U => a = as' ∧ Z.Warmed39 U.vm ∧ U.heap = h0) (fun _ _ _ _ _ => True) (fun _ U o U' => ∃ v L, o = .returned v ∧ Q v U'.heap L ∧ FrameEnd U o U' L rm.cells rm.slots)
theorem body_of {y : MethodName} {bytes : ByteArray} {maxL : Nat} {ret : Option FieldType} {ws : List Cond} {rm : Room} {as' : Array Value} {h0 : Heap} (hpl : plainFor y = true)
    (k : ∀ (p : Program) (e : Env) (s : State) (m : MethodId) (below : List Frame) (meth : Method) (c : Code) (s₁ : State), p.tables.exec = Jvm.exec → (∀ {pc : Nat} {r : Except DecodeError (Instr × Nat)}, decode bytes pc = r → decode c.code pc = r) → meth.sig.returnType = ret → meth.locks = false → c.maxLocals = maxL → s.vm.findClass y.cls = some m.cls → meth.name = y.name → Stand p l e rm s m as' below meth c s₁ [] 0 0 → s₁.heap = h0 → Z.Warmed39 s.vm → Wk p e below (FN s Q kc ks) s₁ (entryFrame m as' maxL)) :
    MetFree l y (head1 (Cond.code y bytes maxL ret :: ws) rm) (fun a U => a = as' ∧ Z.Warmed39 U.vm ∧ U.heap = h0) (fun _ _ _ _ _ => True) (fun _ U o U' => ∃ v L, o = .returned v ∧ Q v U'.heap L ∧ FrameEnd U o U' L kc ks) := by
  refine MetFree.of_bodySF hpl hisR ?_
  intro p e s m args below meth c s₁ Bd hml0 hP hK
  obtain ⟨rfl, hZ, hh⟩ := hP
  obtain ⟨s₂, o, h1, h2⟩ := k p e s m below meth c s₁ Bd.exec (fun q => hb Bd.bytes q) Bd.returns Bd.notSynchronized hml0 (findClass_of_methodNamed Bd.named) (name_of_methodNamed Bd.named Bd.method).1 (Stand.of_body Bd) (by rw [← hh, Bd.state]; rfl) hZ
  exact ⟨s₂, o, h1, h2⟩
theorem eqInt_v {a : Term} {k : Int32} {first s' : State} {o : Option Outcome} {idx : List Nat} (h : (Cond.eq a (.int k)).value args first o s' idx = some true) : a.eval args first o idx s' = some (.int k) := by
  cases ha : a.eval args first o idx s' with
  | none => simp [Cond.value, ha] at h
  | some x => cases x <;> simp [Cond.value, ha, Term.eval] at h ⊢; exact h
theorem exa_plain {a : Addr} {C : String} (E : Exa Z h a C) : ∃ cell : Cell, h[a]? = some cell ∧ cell.vm.isStatics = false := by
  obtain ⟨cell, k, h1, -, -, h4, -⟩ := E; exact ⟨cell, h1, h4⟩
theorem sta_keep {h' : Heap} {ws : List Addr} {C n d : String} {v : Value} (F : Sta Z h C n d v) (K : Keep h h' ws) (q : ∀ x ∈ ws, ∃ cell : Cell, h[x]? = some cell ∧ cell.vm.isStatics = false) : Sta Z h' C n d v := by
  obtain ⟨cf, i, k, f, st, cell, h1, h2, h3, h4, h5, h6, h7⟩ := F
  refine ⟨cf, i, k, f, st, cell, h1, h2, h3, h4, K.2.1 st cell h5 (fun hm => ?_), h6, h7⟩
  obtain ⟨c2, g1, g2⟩ := q st hm
  cases h5.symm.trans g1
  rw [g2] at h6; cases h6
end Walk
/-! plain facts on Int32 and Int64, in Ints -/
theorem addM {x y : Int32} {A B : Int} (ha : x.toInt = A) (hb : y.toInt = B) : ((x + y).toInt - (A + B)) % 4294967296 = 0 := by subst ha hb; exact c_iadd x y
end Jvm.Own
namespace Jvm.Pilot.@@N@@
open Jvm Jvm.ClassFile Sem Op Lib Jvm.Free Jvm.Stand Jvm.LawKit Jvm.RoadKit Bundle Jvm.Own Jvm.Pilot.@@N@@.Jvm.D
abbrev cN_0 : String := "java/lang/Record"
abbrev cN_1 : String := "com/example/lapidary/lapidary/rules/gem/Haul"
abbrev cN_2 : String := "com/example/lapidary/lapidary/rules/gem/FinalScore"
abbrev cN_3 : String := "Lcom/example/lapidary/lapidary/rules/gem/Haul;"
abbrev cN_4 : String := "com/example/lapidary/lapidary/rules/gem/FinalScoreTotalPinLaw"
theorem tw_0 {Z : State} {a0 : Array Value} (hw : ∀ d ∈ tables_1, d.before a0 Z = true) : (Jvm.Cond.classLink "com/example/lapidary/lapidary/rules/gem/FinalScoreTotalPinLaw" (7 : Nat) "com/example/lapidary/lapidary/rules/gem/Haul").before a0 Z = true := hw _ (List.mem_of_getElem? (i := 0) rfl)
theorem tw_1 {Z : State} {a0 : Array Value} (hw : ∀ d ∈ tables_1, d.before a0 Z = true) : (Jvm.Cond.instantiable "com/example/lapidary/lapidary/rules/gem/Haul" (3 : Nat)).before a0 Z = true := hw _ (List.mem_of_getElem? (i := 1) rfl)
theorem tw_2 {Z : State} {a0 : Array Value} (hw : ∀ d ∈ tables_1, d.before a0 Z = true) : (Jvm.Cond.initialized "com/example/lapidary/lapidary/rules/gem/Haul").before a0 Z = true := hw _ (List.mem_of_getElem? (i := 2) rfl)
theorem tw_3 {Z : State} {a0 : Array Value} (hw : ∀ d ∈ tables_1, d.before a0 Z = true) : (Jvm.Cond.methodLink "com/example/lapidary/lapidary/rules/gem/FinalScoreTotalPinLaw" (9 : Nat) ({ cls := "com/example/lapidary/lapidary/rules/gem/Haul", name := "<init>", desc := "(III)V" } : Jvm.MethodName)).before a0 Z = true := hw _ (List.mem_of_getElem? (i := 3) rfl)
theorem tw_4 {Z : State} {a0 : Array Value} (hw : ∀ d ∈ tables_1, d.before a0 Z = true) : (Jvm.Cond.instanceMethod ({ cls := "com/example/lapidary/lapidary/rules/gem/Haul", name := "<init>", desc := "(III)V" } : Jvm.MethodName)).before a0 Z = true := hw _ (List.mem_of_getElem? (i := 4) rfl)
theorem tw_5 {Z : State} {a0 : Array Value} (hw : ∀ d ∈ tables_1, d.before a0 Z = true) : (Jvm.Cond.code ({ cls := "com/example/lapidary/lapidary/rules/gem/Haul", name := "<init>", desc := "(III)V" } : Jvm.MethodName) prog_20_method_1_code (4 : Nat) (Option.none : Option Jvm.ClassFile.FieldType)).before a0 Z = true := hw _ (List.mem_of_getElem? (i := 5) rfl)
theorem tw_6 {Z : State} {a0 : Array Value} (hw : ∀ d ∈ tables_1, d.before a0 Z = true) : (Jvm.Cond.methodLink "com/example/lapidary/lapidary/rules/gem/Haul" (1 : Nat) ({ cls := "java/lang/Record", name := "<init>", desc := "()V" } : Jvm.MethodName)).before a0 Z = true := hw _ (List.mem_of_getElem? (i := 6) rfl)
theorem tw_7 {Z : State} {a0 : Array Value} (hw : ∀ d ∈ tables_1, d.before a0 Z = true) : (Jvm.Cond.instanceMethod ({ cls := "java/lang/Record", name := "<init>", desc := "()V" } : Jvm.MethodName)).before a0 Z = true := hw _ (List.mem_of_getElem? (i := 7) rfl)
theorem tw_9 {Z : State} {a0 : Array Value} (hw : ∀ d ∈ tables_1, d.before a0 Z = true) : (Jvm.Cond.initialized "java/lang/Record").before a0 Z = true := hw _ (List.mem_of_getElem? (i := 9) rfl)
theorem tw_10 {Z : State} {a0 : Array Value} (hw : ∀ d ∈ tables_1, d.before a0 Z = true) : (Jvm.Cond.code ({ cls := "java/lang/Record", name := "<init>", desc := "()V" } : Jvm.MethodName) jdk_30_method_1_code (1 : Nat) (Option.none : Option Jvm.ClassFile.FieldType)).before a0 Z = true := hw _ (List.mem_of_getElem? (i := 10) rfl)
theorem tw_11 {Z : State} {a0 : Array Value} (hw : ∀ d ∈ tables_1, d.before a0 Z = true) : (Jvm.Cond.methodLink "java/lang/Record" (1 : Nat) ({ cls := "java/lang/Object", name := "<init>", desc := "()V" } : Jvm.MethodName)).before a0 Z = true := hw _ (List.mem_of_getElem? (i := 11) rfl)
theorem tw_12 {Z : State} {a0 : Array Value} (hw : ∀ d ∈ tables_1, d.before a0 Z = true) : (Jvm.Cond.instanceMethod ({ cls := "java/lang/Object", name := "<init>", desc := "()V" } : Jvm.MethodName)).before a0 Z = true := hw _ (List.mem_of_getElem? (i := 12) rfl)
theorem tw_13 {Z : State} {a0 : Array Value} (hw : ∀ d ∈ tables_1, d.before a0 Z = true) : (Jvm.Cond.code ({ cls := "java/lang/Object", name := "<init>", desc := "()V" } : Jvm.MethodName) object_method_1_code (1 : Nat) (Option.none : Option Jvm.ClassFile.FieldType)).before a0 Z = true := hw _ (List.mem_of_getElem? (i := 13) rfl)
theorem tw_14 {Z : State} {a0 : Array Value} (hw : ∀ d ∈ tables_1, d.before a0 Z = true) : (Jvm.Cond.fieldLink "com/example/lapidary/lapidary/rules/gem/Haul" (7 : Nat) "com/example/lapidary/lapidary/rules/gem/Haul" "gems" "I").before a0 Z = true := hw _ (List.mem_of_getElem? (i := 14) rfl)
theorem tw_15 {Z : State} {a0 : Array Value} (hw : ∀ d ∈ tables_1, d.before a0 Z = true) : (Jvm.Cond.laysFinal "com/example/lapidary/lapidary/rules/gem/Haul" "com/example/lapidary/lapidary/rules/gem/Haul" "gems" "I").before a0 Z = true := hw _ (List.mem_of_getElem? (i := 15) rfl)
theorem tw_16 {Z : State} {a0 : Array Value} (hw : ∀ d ∈ tables_1, d.before a0 Z = true) : (Jvm.Cond.fieldLink "com/example/lapidary/lapidary/rules/gem/Haul" (13 : Nat) "com/example/lapidary/lapidary/rules/gem/Haul" "points" "I").before a0 Z = true := hw _ (List.mem_of_getElem? (i := 16) rfl)
theorem tw_17 {Z : State} {a0 : Array Value} (hw : ∀ d ∈ tables_1, d.before a0 Z = true) : (Jvm.Cond.laysFinal "com/example/lapidary/lapidary/rules/gem/Haul" "com/example/lapidary/lapidary/rules/gem/Haul" "points" "I").before a0 Z = true := hw _ (List.mem_of_getElem? (i := 17) rfl)
theorem tw_18 {Z : State} {a0 : Array Value} (hw : ∀ d ∈ tables_1, d.before a0 Z = true) : (Jvm.Cond.fieldLink "com/example/lapidary/lapidary/rules/gem/Haul" (16 : Nat) "com/example/lapidary/lapidary/rules/gem/Haul" "longest" "I").before a0 Z = true := hw _ (List.mem_of_getElem? (i := 18) rfl)
theorem tw_19 {Z : State} {a0 : Array Value} (hw : ∀ d ∈ tables_1, d.before a0 Z = true) : (Jvm.Cond.laysFinal "com/example/lapidary/lapidary/rules/gem/Haul" "com/example/lapidary/lapidary/rules/gem/Haul" "longest" "I").before a0 Z = true := hw _ (List.mem_of_getElem? (i := 19) rfl)
theorem tw_20 {Z : State} {a0 : Array Value} (hw : ∀ d ∈ tables_1, d.before a0 Z = true) : (Jvm.Cond.classLink "com/example/lapidary/lapidary/rules/gem/FinalScoreTotalPinLaw" (12 : Nat) "com/example/lapidary/lapidary/rules/gem/FinalScore").before a0 Z = true := hw _ (List.mem_of_getElem? (i := 20) rfl)
theorem tw_21 {Z : State} {a0 : Array Value} (hw : ∀ d ∈ tables_1, d.before a0 Z = true) : (Jvm.Cond.instantiable "com/example/lapidary/lapidary/rules/gem/FinalScore" (3 : Nat)).before a0 Z = true := hw _ (List.mem_of_getElem? (i := 21) rfl)
theorem tw_22 {Z : State} {a0 : Array Value} (hw : ∀ d ∈ tables_1, d.before a0 Z = true) : (Jvm.Cond.initialized "com/example/lapidary/lapidary/rules/gem/FinalScore").before a0 Z = true := hw _ (List.mem_of_getElem? (i := 22) rfl)
theorem tw_23 {Z : State} {a0 : Array Value} (hw : ∀ d ∈ tables_1, d.before a0 Z = true) : (Jvm.Cond.methodLink "com/example/lapidary/lapidary/rules/gem/FinalScoreTotalPinLaw" (14 : Nat) ({ cls := "com/example/lapidary/lapidary/rules/gem/FinalScore", name := "<init>", desc := "(Lcom/example/lapidary/lapidary/rules/gem/Haul;II)V" } : Jvm.MethodName)).before a0 Z = true := hw _ (List.mem_of_getElem? (i := 23) rfl)
theorem tw_24 {Z : State} {a0 : Array Value} (hw : ∀ d ∈ tables_1, d.before a0 Z = true) : (Jvm.Cond.instanceMethod ({ cls := "com/example/lapidary/lapidary/rules/gem/FinalScore", name := "<init>", desc := "(Lcom/example/lapidary/lapidary/rules/gem/Haul;II)V" } : Jvm.MethodName)).before a0 Z = true := hw _ (List.mem_of_getElem? (i := 24) rfl)
theorem tw_25 {Z : State} {a0 : Array Value} (hw : ∀ d ∈ tables_1, d.before a0 Z = true) : (Jvm.Cond.code ({ cls := "com/example/lapidary/lapidary/rules/gem/FinalScore", name := "<init>", desc := "(Lcom/example/lapidary/lapidary/rules/gem/Haul;II)V" } : Jvm.MethodName) prog_14_method_1_code (4 : Nat) (Option.none : Option Jvm.ClassFile.FieldType)).before a0 Z = true := hw _ (List.mem_of_getElem? (i := 25) rfl)
theorem tw_26 {Z : State} {a0 : Array Value} (hw : ∀ d ∈ tables_1, d.before a0 Z = true) : (Jvm.Cond.methodLink "com/example/lapidary/lapidary/rules/gem/FinalScore" (1 : Nat) ({ cls := "java/lang/Record", name := "<init>", desc := "()V" } : Jvm.MethodName)).before a0 Z = true := hw _ (List.mem_of_getElem? (i := 26) rfl)
theorem tw_27 {Z : State} {a0 : Array Value} (hw : ∀ d ∈ tables_1, d.before a0 Z = true) : (Jvm.Cond.fieldLink "com/example/lapidary/lapidary/rules/gem/FinalScore" (7 : Nat) "com/example/lapidary/lapidary/rules/gem/FinalScore" "haul" "Lcom/example/lapidary/lapidary/rules/gem/Haul;").before a0 Z = true := hw _ (List.mem_of_getElem? (i := 27) rfl)
theorem tw_28 {Z : State} {a0 : Array Value} (hw : ∀ d ∈ tables_1, d.before a0 Z = true) : (Jvm.Cond.laysFinal "com/example/lapidary/lapidary/rules/gem/FinalScore" "com/example/lapidary/lapidary/rules/gem/FinalScore" "haul" "Lcom/example/lapidary/lapidary/rules/gem/Haul;").before a0 Z = true := hw _ (List.mem_of_getElem? (i := 28) rfl)
theorem tw_29 {Z : State} {a0 : Array Value} (hw : ∀ d ∈ tables_1, d.before a0 Z = true) : (Jvm.Cond.fieldLink "com/example/lapidary/lapidary/rules/gem/FinalScore" (13 : Nat) "com/example/lapidary/lapidary/rules/gem/FinalScore" "mostGems" "I").before a0 Z = true := hw _ (List.mem_of_getElem? (i := 29) rfl)
theorem tw_30 {Z : State} {a0 : Array Value} (hw : ∀ d ∈ tables_1, d.before a0 Z = true) : (Jvm.Cond.laysFinal "com/example/lapidary/lapidary/rules/gem/FinalScore" "com/example/lapidary/lapidary/rules/gem/FinalScore" "mostGems" "I").before a0 Z = true := hw _ (List.mem_of_getElem? (i := 30) rfl)
theorem tw_31 {Z : State} {a0 : Array Value} (hw : ∀ d ∈ tables_1, d.before a0 Z = true) : (Jvm.Cond.fieldLink "com/example/lapidary/lapidary/rules/gem/FinalScore" (17 : Nat) "com/example/lapidary/lapidary/rules/gem/FinalScore" "longestChain" "I").before a0 Z = true := hw _ (List.mem_of_getElem? (i := 31) rfl)
theorem tw_32 {Z : State} {a0 : Array Value} (hw : ∀ d ∈ tables_1, d.before a0 Z = true) : (Jvm.Cond.laysFinal "com/example/lapidary/lapidary/rules/gem/FinalScore" "com/example/lapidary/lapidary/rules/gem/FinalScore" "longestChain" "I").before a0 Z = true := hw _ (List.mem_of_getElem? (i := 32) rfl)
theorem tw_33 {Z : State} {a0 : Array Value} (hw : ∀ d ∈ tables_1, d.before a0 Z = true) : (Jvm.Cond.methodLink "com/example/lapidary/lapidary/rules/gem/FinalScoreTotalPinLaw" (17 : Nat) ({ cls := "com/example/lapidary/lapidary/rules/gem/FinalScore", name := "total", desc := "()I" } : Jvm.MethodName)).before a0 Z = true := hw _ (List.mem_of_getElem? (i := 33) rfl)
theorem tw_34 {Z : State} {a0 : Array Value} (hw : ∀ d ∈ tables_1, d.before a0 Z = true) : (Jvm.Cond.declares ({ cls := "com/example/lapidary/lapidary/rules/gem/FinalScore", name := "total", desc := "()I" } : Jvm.MethodName)).before a0 Z = true := hw _ (List.mem_of_getElem? (i := 34) rfl)
theorem tw_35 {Z : State} {a0 : Array Value} (hw : ∀ d ∈ tables_1, d.before a0 Z = true) : (Jvm.Cond.instanceMethod ({ cls := "com/example/lapidary/lapidary/rules/gem/FinalScore", name := "total", desc := "()I" } : Jvm.MethodName)).before a0 Z = true := hw _ (List.mem_of_getElem? (i := 35) rfl)
theorem tw_36 {Z : State} {a0 : Array Value} (hw : ∀ d ∈ tables_1, d.before a0 Z = true) : (Jvm.Cond.selects "com/example/lapidary/lapidary/rules/gem/FinalScore" ({ cls := "com/example/lapidary/lapidary/rules/gem/FinalScore", name := "total", desc := "()I" } : Jvm.MethodName) ({ cls := "com/example/lapidary/lapidary/rules/gem/FinalScore", name := "total", desc := "()I" } : Jvm.MethodName)).before a0 Z = true := hw _ (List.mem_of_getElem? (i := 36) rfl)
theorem tw_37 {Z : State} {a0 : Array Value} (hw : ∀ d ∈ tables_1, d.before a0 Z = true) : (Jvm.Cond.code ({ cls := "com/example/lapidary/lapidary/rules/gem/FinalScore", name := "total", desc := "()I" } : Jvm.MethodName) prog_14_method_2_code (1 : Nat) (Option.some Jvm.ClassFile.FieldType.int)).before a0 Z = true := hw _ (List.mem_of_getElem? (i := 37) rfl)
theorem tw_38 {Z : State} {a0 : Array Value} (hw : ∀ d ∈ tables_1, d.before a0 Z = true) : (Jvm.Cond.methodLink "com/example/lapidary/lapidary/rules/gem/FinalScore" (20 : Nat) ({ cls := "com/example/lapidary/lapidary/rules/gem/Haul", name := "points", desc := "()I" } : Jvm.MethodName)).before a0 Z = true := hw _ (List.mem_of_getElem? (i := 38) rfl)
theorem tw_39 {Z : State} {a0 : Array Value} (hw : ∀ d ∈ tables_1, d.before a0 Z = true) : (Jvm.Cond.declares ({ cls := "com/example/lapidary/lapidary/rules/gem/Haul", name := "points", desc := "()I" } : Jvm.MethodName)).before a0 Z = true := hw _ (List.mem_of_getElem? (i := 39) rfl)
theorem tw_40 {Z : State} {a0 : Array Value} (hw : ∀ d ∈ tables_1, d.before a0 Z = true) : (Jvm.Cond.instanceMethod ({ cls := "com/example/lapidary/lapidary/rules/gem/Haul", name := "points", desc := "()I" } : Jvm.MethodName)).before a0 Z = true := hw _ (List.mem_of_getElem? (i := 40) rfl)
theorem tw_41 {Z : State} {a0 : Array Value} (hw : ∀ d ∈ tables_1, d.before a0 Z = true) : (Jvm.Cond.selects "com/example/lapidary/lapidary/rules/gem/Haul" ({ cls := "com/example/lapidary/lapidary/rules/gem/Haul", name := "points", desc := "()I" } : Jvm.MethodName) ({ cls := "com/example/lapidary/lapidary/rules/gem/Haul", name := "points", desc := "()I" } : Jvm.MethodName)).before a0 Z = true := hw _ (List.mem_of_getElem? (i := 41) rfl)
theorem tw_42 {Z : State} {a0 : Array Value} (hw : ∀ d ∈ tables_1, d.before a0 Z = true) : (Jvm.Cond.code ({ cls := "com/example/lapidary/lapidary/rules/gem/Haul", name := "points", desc := "()I" } : Jvm.MethodName) prog_20_method_8_code (1 : Nat) (Option.some Jvm.ClassFile.FieldType.int)).before a0 Z = true := hw _ (List.mem_of_getElem? (i := 42) rfl)
theorem tw_43 {Z : State} {a0 : Array Value} (hw : ∀ d ∈ tables_1, d.before a0 Z = true) : (Jvm.Cond.fieldLink "com/example/lapidary/lapidary/rules/gem/FinalScoreTotalPinLaw" (21 : Nat) "com/example/lapidary/lapidary/rules/gem/Haul" "NONE" "Lcom/example/lapidary/lapidary/rules/gem/Haul;").before a0 Z = true := hw _ (List.mem_of_getElem? (i := 43) rfl)
theorem tw_44 {Z : State} {a0 : Array Value} (hw : ∀ d ∈ tables_1, d.before a0 Z = true) : (Jvm.Cond.laysStatic "com/example/lapidary/lapidary/rules/gem/Haul" "NONE" "Lcom/example/lapidary/lapidary/rules/gem/Haul;").before a0 Z = true := hw _ (List.mem_of_getElem? (i := 44) rfl)
theorem d2_0 : decode jdk_30_method_1_code 0 = .ok (.aload_n 0, 1) := by decide +kernel
theorem d2_1 : decode jdk_30_method_1_code 1 = .ok (.invokespecial 1, 3) := by decide +kernel
theorem d2_4 : decode jdk_30_method_1_code 4 = .ok (.return_, 1) := by decide +kernel
theorem pn_0 : plainName "java/lang/Record" = true := by first | (simp [plainName, overriddenIn]; done) | decide +kernel
abbrev mN_2 : MethodName := ⟨"java/lang/Record", "<init>", "()V"⟩
theorem pd_0 : parseMethodDescriptor "()V" = some ⟨[], none⟩ := by decide +kernel
theorem d1_0 : decode prog_20_method_1_code 0 = .ok (.aload_n 0, 1) := by decide +kernel
theorem d1_1 : decode prog_20_method_1_code 1 = .ok (.invokespecial 1, 3) := by decide +kernel
theorem d1_4 : decode prog_20_method_1_code 4 = .ok (.aload_n 0, 1) := by decide +kernel
theorem d1_5 : decode prog_20_method_1_code 5 = .ok (.iload_n 1, 1) := by decide +kernel
theorem d1_6 : decode prog_20_method_1_code 6 = .ok (.putfield 7, 3) := by decide +kernel
theorem d1_9 : decode prog_20_method_1_code 9 = .ok (.aload_n 0, 1) := by decide +kernel
theorem d1_10 : decode prog_20_method_1_code 10 = .ok (.iload_n 2, 1) := by decide +kernel
theorem d1_11 : decode prog_20_method_1_code 11 = .ok (.putfield 13, 3) := by decide +kernel
theorem d1_14 : decode prog_20_method_1_code 14 = .ok (.aload_n 0, 1) := by decide +kernel
theorem d1_15 : decode prog_20_method_1_code 15 = .ok (.iload_n 3, 1) := by decide +kernel
theorem d1_16 : decode prog_20_method_1_code 16 = .ok (.putfield 16, 3) := by decide +kernel
theorem d1_19 : decode prog_20_method_1_code 19 = .ok (.return_, 1) := by decide +kernel
theorem pn_1 : plainName "com/example/lapidary/lapidary/rules/gem/Haul" = true := by first | (simp [plainName, overriddenIn]; done) | decide +kernel
abbrev mN_1 : MethodName := ⟨"com/example/lapidary/lapidary/rules/gem/Haul", "<init>", "(III)V"⟩
theorem d4_0 : decode prog_14_method_1_code 0 = .ok (.aload_n 0, 1) := by decide +kernel
theorem d4_1 : decode prog_14_method_1_code 1 = .ok (.invokespecial 1, 3) := by decide +kernel
theorem d4_4 : decode prog_14_method_1_code 4 = .ok (.aload_n 0, 1) := by decide +kernel
theorem d4_5 : decode prog_14_method_1_code 5 = .ok (.aload_n 1, 1) := by decide +kernel
theorem d4_6 : decode prog_14_method_1_code 6 = .ok (.putfield 7, 3) := by decide +kernel
theorem d4_9 : decode prog_14_method_1_code 9 = .ok (.aload_n 0, 1) := by decide +kernel
theorem d4_10 : decode prog_14_method_1_code 10 = .ok (.iload_n 2, 1) := by decide +kernel
theorem d4_11 : decode prog_14_method_1_code 11 = .ok (.putfield 13, 3) := by decide +kernel
theorem d4_14 : decode prog_14_method_1_code 14 = .ok (.aload_n 0, 1) := by decide +kernel
theorem d4_15 : decode prog_14_method_1_code 15 = .ok (.iload_n 3, 1) := by decide +kernel
theorem d4_16 : decode prog_14_method_1_code 16 = .ok (.putfield 17, 3) := by decide +kernel
theorem d4_19 : decode prog_14_method_1_code 19 = .ok (.return_, 1) := by decide +kernel
theorem pn_2 : plainName "com/example/lapidary/lapidary/rules/gem/FinalScore" = true := by first | (simp [plainName, overriddenIn]; done) | decide +kernel
abbrev mN_4 : MethodName := ⟨"com/example/lapidary/lapidary/rules/gem/FinalScore", "<init>", "(Lcom/example/lapidary/lapidary/rules/gem/Haul;II)V"⟩
theorem d6_0 : decode prog_20_method_8_code 0 = .ok (.aload_n 0, 1) := by decide +kernel
theorem d6_1 : decode prog_20_method_8_code 1 = .ok (.getfield 13, 3) := by decide +kernel
theorem d6_4 : decode prog_20_method_8_code 4 = .ok (.ireturn, 1) := by decide +kernel
abbrev mN_6 : MethodName := ⟨"com/example/lapidary/lapidary/rules/gem/Haul", "points", "()I"⟩
theorem pd_1 : parseMethodDescriptor "()I" = some ⟨[], some .int⟩ := by decide +kernel
theorem d5_0 : decode prog_14_method_2_code 0 = .ok (.aload_n 0, 1) := by decide +kernel
theorem d5_1 : decode prog_14_method_2_code 1 = .ok (.getfield 7, 3) := by decide +kernel
theorem d5_4 : decode prog_14_method_2_code 4 = .ok (.invokevirtual 20, 3) := by decide +kernel
theorem d5_7 : decode prog_14_method_2_code 7 = .ok (.aload_n 0, 1) := by decide +kernel
theorem d5_8 : decode prog_14_method_2_code 8 = .ok (.getfield 13, 3) := by decide +kernel
theorem d5_11 : decode prog_14_method_2_code 11 = .ok (.iadd, 1) := by decide +kernel
theorem d5_12 : decode prog_14_method_2_code 12 = .ok (.aload_n 0, 1) := by decide +kernel
theorem d5_13 : decode prog_14_method_2_code 13 = .ok (.getfield 17, 3) := by decide +kernel
theorem d5_16 : decode prog_14_method_2_code 16 = .ok (.iadd, 1) := by decide +kernel
theorem d5_17 : decode prog_14_method_2_code 17 = .ok (.ireturn, 1) := by decide +kernel
abbrev mN_5 : MethodName := ⟨"com/example/lapidary/lapidary/rules/gem/FinalScore", "total", "()I"⟩
theorem pd_2 : parseMethodDescriptor "(III)V" = some ⟨[.int, .int, .int], none⟩ := by decide +kernel
theorem pd_3 : parseMethodDescriptor "(Lcom/example/lapidary/lapidary/rules/gem/Haul;II)V" = some ⟨[(.object "com/example/lapidary/lapidary/rules/gem/Haul"), .int, .int], none⟩ := by decide +kernel
theorem pn_3 : plainName "com/example/lapidary/lapidary/rules/gem/FinalScoreTotalPinLaw" = true := by first | (simp [plainName, overriddenIn]; done) | decide +kernel
theorem ef_2 (m : MethodId) (x0 : Addr) : entryFrame m #[(.ref x0)] 1 = mkF m 0 #[.val (.ref x0)] [] := by first | (simp [entryFrame, mkF, argsToLocals, Value.category]; done) | rfl
def Q2 (Z : State) (a : Addr) (h0 : Heap) (n0 : Nat) (v : Option Value) (h : Heap) (L : List Loc) : Prop := v = none ∧ Fr n0 L ∧ h = h0
set_option maxRecDepth 65536 in
set_option maxHeartbeats 40000000 in
theorem rm2 (l : Launch) (Z : State) (a0 : Array Value) (hw : ∀ d ∈ tables_1, d.before a0 Z = true) (ws : List Jvm.Cond) (a : Addr) (h0 : Heap) (n0 : Nat) (Z0 : n0 ≤ h0.size) :
    CT l mN_2 jdk_30_method_1_code 1 none ws ({ frames := 1, cells := 0, slots := 0, locals := 12 } : Room) #[(.ref a)] Z h0 (Q2 Z a h0 n0) := by
  refine body_of (plainFor_of_name pn_0) ?_
  intro p e s m below meth c s₁ hx dB hret hlk hml hown0 hnm X0 e0 hZ
  have hown : s.vm.findClass cN_0 = some m.cls := hown0
  have N0 := Fr.nil n0
  rw [ef_2]
  show Wk p e below (FN s (Q2 Z a h0 n0) 0 0) s₁ (mkF m 0 #[.val (.ref a)] [])
  refine w_aloadN X0 hx (.ref a) (dB d2_0) 1 rfl rfl rfl ?_
  refine w_objinit X0 hx hZ hown e0 (tw_11 hw) (tw_12 hw) (tw_13 hw) (by rw [hml]; rfl) (by decide) 0 rfl (by decide) (dB d2_1) 4 rfl (fun T1 X1 e1 => ?_)
  refine w_ret0 X1 hx hlk hret (dB d2_4) (by decide) (by decide) ?_
  rw [e1]
  exact ⟨rfl, N0, rfl⟩
theorem ef_1 (m : MethodId) (x0 : Addr) (x1 : Int32) (x2 : Int32) (x3 : Int32) : entryFrame m #[(.ref x0), (.int x1), (.int x2), (.int x3)] 4 = mkF m 0 #[.val (.ref x0), .val (.int x1), .val (.int x2), .val (.int x3)] [] := by first | (simp [entryFrame, mkF, argsToLocals, Value.category]; done) | rfl
def Q1 (Z : State) (a : Addr) (xg : Int32) (xp : Int32) (xl : Int32) (h0 : Heap) (n0 : Nat) (v : Option Value) (h : Heap) (L : List Loc) : Prop := v = none ∧ Fr n0 L ∧ Keep h0 h [a] ∧ Fld Z h a cN_1 "gems" "I" (.int xg) ∧ Fld Z h a cN_1 "points" "I" (.int xp) ∧ Fld Z h a cN_1 "longest" "I" (.int xl)
set_option maxRecDepth 65536 in
set_option maxHeartbeats 40000000 in
theorem rm1 (l : Launch) (Z : State) (a0 : Array Value) (hw : ∀ d ∈ tables_1, d.before a0 Z = true) (ws : List Jvm.Cond) (a : Addr) (xg : Int32) (xp : Int32) (xl : Int32) (h0 : Heap) (n0 : Nat) (Z0 : n0 ≤ h0.size) (E_a : Exa Z h0 a cN_1) (F_gems_a : Fld Z h0 a cN_1 "gems" "I" (.int (0 : Int32))) (F_points_a : Fld Z h0 a cN_1 "points" "I" (.int (0 : Int32))) (F_longest_a : Fld Z h0 a cN_1 "longest" "I" (.int (0 : Int32))) (g_a : n0 ≤ a) :
    CT l mN_1 prog_20_method_1_code 4 none ws ({ frames := 2, cells := 0, slots := 0, locals := 24 } : Room) #[(.ref a), (.int xg), (.int xp), (.int xl)] Z h0 (Q1 Z a xg xp xl h0 n0) := by
  refine body_of (plainFor_of_name pn_1) ?_
  intro p e s m below meth c s₁ hx dB hret hlk hml hown0 hnm X0 e0 hZ
  have hown : s.vm.findClass cN_1 = some m.cls := hown0
  have N0 := Fr.nil n0
  rw [ef_1]
  show Wk p e below (FN s (Q1 Z a xg xp xl h0 n0) 0 0) s₁ (mkF m 0 #[.val (.ref a), .val (.int xg), .val (.int xp), .val (.int xl)] [])
  have r_xg := rng32 xg
  have r_xp := rng32 xp
  have r_xl := rng32 xl
  refine w_aloadN X0 hx (.ref a) (dB d1_0) 1 rfl rfl rfl ?_
  refine w_init X0 hx hZ rfl hown e0 (rm2 l Z a0 hw [] a h0 n0 Z0 ) (tw_6 hw) (tw_7 hw) (tw_9 hw) (tw_10 hw) (by decide) (by rw [hml]; rfl) a [] [] (lenOf pd_0 rfl) rfl rfl (by decide) 0 rfl (by decide) (by decide) (by decide) (dB d1_1) 4 rfl (fun r2 T2 L2 X2 q2 => ?_)
  obtain ⟨rfl, Nq2, eq2⟩ := q2
  have N2 := Fr.app N0 Nq2
  dsimp only [Option.toList_some, Option.toList_none, List.cons_append, List.nil_append]
  refine w_aloadN X2 hx (.ref a) (dB d1_4) 5 rfl rfl rfl ?_
  refine w_iloadN X2 hx xg (dB d1_5) 6 rfl rfl ?_
  refine w_putF X2 hx hZ hown eq2 (host := "") (Or.inl (tw_14 hw)) Via.refl F_gems_a E_a (Or.inr ⟨(tw_15 hw), rfl, hnm⟩) (tw_1 hw) (ty := .int) (by decide) rfl rfl (dB d1_6) 9 rfl (fun T3 h3 X3 e3 W3 => ?_)
  have F4 : Exa Z h3 a cN_1 := E_a.wr W3
  have F5 : Fld Z h3 a cN_1 "gems" "I" (.int xg) := F_gems_a.same W3
  have F6 : Fld Z h3 a cN_1 "points" "I" (.int (0 : Int32)) := F_points_a.other W3 (Or.inr (slot_ne (Or.inr (tw_17 hw)) (Or.inr (tw_15 hw)) (by decide) (t := .int) (t' := .int) (by decide) (by decide)))
  have F7 : Fld Z h3 a cN_1 "longest" "I" (.int (0 : Int32)) := F_longest_a.other W3 (Or.inr (slot_ne (Or.inr (tw_19 hw)) (Or.inr (tw_15 hw)) (by decide) (t := .int) (t' := .int) (by decide) (by decide)))
  have Z3 : n0 ≤ h3.size := by rw [W3.size]; exact Z0
  have K3 : Keep h0 h3 [a] := (Keep.refl h0 [a]).wr W3 (Or.inl (List.mem_of_getElem? (i := 0) rfl))
  have N3 := Fr.snoc X3 N2 g_a
  refine w_aloadN X3 hx (.ref a) (dB d1_9) 10 rfl rfl rfl ?_
  refine w_iloadN X3 hx xp (dB d1_10) 11 rfl rfl ?_
  refine w_putF X3 hx hZ hown e3 (host := "") (Or.inl (tw_16 hw)) Via.refl F6 F4 (Or.inr ⟨(tw_17 hw), rfl, hnm⟩) (tw_1 hw) (ty := .int) (by decide) rfl rfl (dB d1_11) 14 rfl (fun T8 h8 X8 e8 W8 => ?_)
  have F9 : Exa Z h8 a cN_1 := F4.wr W8
  have F10 : Fld Z h8 a cN_1 "gems" "I" (.int xg) := F5.other W8 (Or.inr (slot_ne (Or.inr (tw_15 hw)) (Or.inr (tw_17 hw)) (by decide) (t := .int) (t' := .int) (by decide) (by decide)))
  have F11 : Fld Z h8 a cN_1 "points" "I" (.int xp) := F6.same W8
  have F12 : Fld Z h8 a cN_1 "longest" "I" (.int (0 : Int32)) := F7.other W8 (Or.inr (slot_ne (Or.inr (tw_19 hw)) (Or.inr (tw_17 hw)) (by decide) (t := .int) (t' := .int) (by decide) (by decide)))
  have Z8 : n0 ≤ h8.size := by rw [W8.size]; exact Z3
  have K8 : Keep h0 h8 [a] := K3.wr W8 (Or.inl (List.mem_of_getElem? (i := 0) rfl))
  have N8 := Fr.snoc X8 N3 g_a
  refine w_aloadN X8 hx (.ref a) (dB d1_14) 15 rfl rfl rfl ?_
  refine w_iloadN X8 hx xl (dB d1_15) 16 rfl rfl ?_
  refine w_putF X8 hx hZ hown e8 (host := "") (Or.inl (tw_18 hw)) Via.refl F12 F9 (Or.inr ⟨(tw_19 hw), rfl, hnm⟩) (tw_1 hw) (ty := .int) (by decide) rfl rfl (dB d1_16) 19 rfl (fun T13 h13 X13 e13 W13 => ?_)
  have F14 : Exa Z h13 a cN_1 := F9.wr W13
  have F15 : Fld Z h13 a cN_1 "gems" "I" (.int xg) := F10.other W13 (Or.inr (slot_ne (Or.inr (tw_15 hw)) (Or.inr (tw_19 hw)) (by decide) (t := .int) (t' := .int) (by decide) (by decide)))
  have F16 : Fld Z h13 a cN_1 "points" "I" (.int xp) := F11.other W13 (Or.inr (slot_ne (Or.inr (tw_17 hw)) (Or.inr (tw_19 hw)) (by decide) (t := .int) (t' := .int) (by decide) (by decide)))
  have F17 : Fld Z h13 a cN_1 "longest" "I" (.int xl) := F12.same W13
  have Z13 : n0 ≤ h13.size := by rw [W13.size]; exact Z8
  have K13 : Keep h0 h13 [a] := K8.wr W13 (Or.inl (List.mem_of_getElem? (i := 0) rfl))
  have N13 := Fr.snoc X13 N8 g_a
  refine w_ret0 X13 hx hlk hret (dB d1_19) (by decide) (by decide) ?_
  rw [e13]
  exact ⟨rfl, N13, K13, F15, F16, F17⟩
theorem ef_4 (m : MethodId) (x0 : Addr) (x1 : Addr) (x2 : Int32) (x3 : Int32) : entryFrame m #[(.ref x0), (.ref x1), (.int x2), (.int x3)] 4 = mkF m 0 #[.val (.ref x0), .val (.ref x1), .val (.int x2), .val (.int x3)] [] := by first | (simp [entryFrame, mkF, argsToLocals, Value.category]; done) | rfl
def Q4 (Z : State) (a : Addr) (hb_ : Addr) (xm : Int32) (xc : Int32) (h0 : Heap) (n0 : Nat) (v : Option Value) (h : Heap) (L : List Loc) : Prop := v = none ∧ Fr n0 L ∧ Keep h0 h [a] ∧ Fld Z h a cN_2 "haul" cN_3 (.ref hb_) ∧ Fld Z h a cN_2 "mostGems" "I" (.int xm) ∧ Fld Z h a cN_2 "longestChain" "I" (.int xc)
set_option maxRecDepth 65536 in
set_option maxHeartbeats 40000000 in
theorem rm4 (l : Launch) (Z : State) (a0 : Array Value) (hw : ∀ d ∈ tables_1, d.before a0 Z = true) (ws : List Jvm.Cond) (a : Addr) (hb_ : Addr) (xm : Int32) (xc : Int32) (h0 : Heap) (n0 : Nat) (Z0 : n0 ≤ h0.size) (E_a : Exa Z h0 a cN_2) (F_haul_a : Fld Z h0 a cN_2 "haul" cN_3 .null) (F_mostGems_a : Fld Z h0 a cN_2 "mostGems" "I" (.int (0 : Int32))) (F_longestChain_a : Fld Z h0 a cN_2 "longestChain" "I" (.int (0 : Int32))) (g_a : n0 ≤ a) :
    CT l mN_4 prog_14_method_1_code 4 none ws ({ frames := 2, cells := 0, slots := 0, locals := 24 } : Room) #[(.ref a), (.ref hb_), (.int xm), (.int xc)] Z h0 (Q4 Z a hb_ xm xc h0 n0) := by
  refine body_of (plainFor_of_name pn_2) ?_
  intro p e s m below meth c s₁ hx dB hret hlk hml hown0 hnm X0 e0 hZ
  have hown : s.vm.findClass cN_2 = some m.cls := hown0
  have N0 := Fr.nil n0
  rw [ef_4]
  show Wk p e below (FN s (Q4 Z a hb_ xm xc h0 n0) 0 0) s₁ (mkF m 0 #[.val (.ref a), .val (.ref hb_), .val (.int xm), .val (.int xc)] [])
  have r_xm := rng32 xm
  have r_xc := rng32 xc
  refine w_aloadN X0 hx (.ref a) (dB d4_0) 1 rfl rfl rfl ?_
  refine w_init X0 hx hZ rfl hown e0 (rm2 l Z a0 hw [] a h0 n0 Z0 ) (tw_26 hw) (tw_7 hw) (tw_9 hw) (tw_10 hw) (by decide) (by rw [hml]; rfl) a [] [] (lenOf pd_0 rfl) rfl rfl (by decide) 0 rfl (by decide) (by decide) (by decide) (dB d4_1) 4 rfl (fun r18 T18 L18 X18 q18 => ?_)
  obtain ⟨rfl, Nq18, eq18⟩ := q18
  have N18 := Fr.app N0 Nq18
  dsimp only [Option.toList_some, Option.toList_none, List.cons_append, List.nil_append]
  refine w_aloadN X18 hx (.ref a) (dB d4_4) 5 rfl rfl rfl ?_
  refine w_aloadN X18 hx (.ref hb_) (dB d4_5) 6 rfl rfl rfl ?_
  refine w_putF X18 hx hZ hown eq18 (host := "") (Or.inl (tw_27 hw)) Via.refl F_haul_a E_a (Or.inr ⟨(tw_28 hw), rfl, hnm⟩) (tw_21 hw) (ty := (.object "com/example/lapidary/lapidary/rules/gem/Haul")) (by decide) rfl rfl (dB d4_6) 9 rfl (fun T19 h19 X19 e19 W19 => ?_)
  have F20 : Exa Z h19 a cN_2 := E_a.wr W19
  have F21 : Fld Z h19 a cN_2 "haul" cN_3 (.ref hb_) := F_haul_a.same W19
  have F22 : Fld Z h19 a cN_2 "mostGems" "I" (.int (0 : Int32)) := F_mostGems_a.other W19 (Or.inr (slot_ne (Or.inr (tw_30 hw)) (Or.inr (tw_28 hw)) (by decide) (t := .int) (t' := (.object "com/example/lapidary/lapidary/rules/gem/Haul")) (by decide) (by decide)))
  have F23 : Fld Z h19 a cN_2 "longestChain" "I" (.int (0 : Int32)) := F_longestChain_a.other W19 (Or.inr (slot_ne (Or.inr (tw_32 hw)) (Or.inr (tw_28 hw)) (by decide) (t := .int) (t' := (.object "com/example/lapidary/lapidary/rules/gem/Haul")) (by decide) (by decide)))
  have Z19 : n0 ≤ h19.size := by rw [W19.size]; exact Z0
  have K19 : Keep h0 h19 [a] := (Keep.refl h0 [a]).wr W19 (Or.inl (List.mem_of_getElem? (i := 0) rfl))
  have N19 := Fr.snoc X19 N18 g_a
  refine w_aloadN X19 hx (.ref a) (dB d4_9) 10 rfl rfl rfl ?_
  refine w_iloadN X19 hx xm (dB d4_10) 11 rfl rfl ?_
  refine w_putF X19 hx hZ hown e19 (host := "") (Or.inl (tw_29 hw)) Via.refl F22 F20 (Or.inr ⟨(tw_30 hw), rfl, hnm⟩) (tw_21 hw) (ty := .int) (by decide) rfl rfl (dB d4_11) 14 rfl (fun T24 h24 X24 e24 W24 => ?_)
  have F25 : Exa Z h24 a cN_2 := F20.wr W24
  have F26 : Fld Z h24 a cN_2 "haul" cN_3 (.ref hb_) := F21.other W24 (Or.inr (slot_ne (Or.inr (tw_28 hw)) (Or.inr (tw_30 hw)) (by decide) (t := (.object "com/example/lapidary/lapidary/rules/gem/Haul")) (t' := .int) (by decide) (by decide)))
  have F27 : Fld Z h24 a cN_2 "mostGems" "I" (.int xm) := F22.same W24
  have F28 : Fld Z h24 a cN_2 "longestChain" "I" (.int (0 : Int32)) := F23.other W24 (Or.inr (slot_ne (Or.inr (tw_32 hw)) (Or.inr (tw_30 hw)) (by decide) (t := .int) (t' := .int) (by decide) (by decide)))
  have Z24 : n0 ≤ h24.size := by rw [W24.size]; exact Z19
  have K24 : Keep h0 h24 [a] := K19.wr W24 (Or.inl (List.mem_of_getElem? (i := 0) rfl))
  have N24 := Fr.snoc X24 N19 g_a
  refine w_aloadN X24 hx (.ref a) (dB d4_14) 15 rfl rfl rfl ?_
  refine w_iloadN X24 hx xc (dB d4_15) 16 rfl rfl ?_
  refine w_putF X24 hx hZ hown e24 (host := "") (Or.inl (tw_31 hw)) Via.refl F28 F25 (Or.inr ⟨(tw_32 hw), rfl, hnm⟩) (tw_21 hw) (ty := .int) (by decide) rfl rfl (dB d4_16) 19 rfl (fun T29 h29 X29 e29 W29 => ?_)
  have F30 : Exa Z h29 a cN_2 := F25.wr W29
  have F31 : Fld Z h29 a cN_2 "haul" cN_3 (.ref hb_) := F26.other W29 (Or.inr (slot_ne (Or.inr (tw_28 hw)) (Or.inr (tw_32 hw)) (by decide) (t := (.object "com/example/lapidary/lapidary/rules/gem/Haul")) (t' := .int) (by decide) (by decide)))
  have F32 : Fld Z h29 a cN_2 "mostGems" "I" (.int xm) := F27.other W29 (Or.inr (slot_ne (Or.inr (tw_30 hw)) (Or.inr (tw_32 hw)) (by decide) (t := .int) (t' := .int) (by decide) (by decide)))
  have F33 : Fld Z h29 a cN_2 "longestChain" "I" (.int xc) := F28.same W29
  have Z29 : n0 ≤ h29.size := by rw [W29.size]; exact Z24
  have K29 : Keep h0 h29 [a] := K24.wr W29 (Or.inl (List.mem_of_getElem? (i := 0) rfl))
  have N29 := Fr.snoc X29 N24 g_a
  refine w_ret0 X29 hx hlk hret (dB d4_19) (by decide) (by decide) ?_
  rw [e29]
  exact ⟨rfl, N29, K29, F31, F32, F33⟩
theorem ef_6 (m : MethodId) (x0 : Addr) : entryFrame m #[(.ref x0)] 1 = mkF m 0 #[.val (.ref x0)] [] := by first | (simp [entryFrame, mkF, argsToLocals, Value.category]; done) | rfl
def Q6 (Z : State) (a : Addr) (xp : Int32) (h0 : Heap) (n0 : Nat) (v : Option Value) (h : Heap) (L : List Loc) : Prop := ∃ z : Int32, v = some (.int z) ∧ (z.toInt = xp.toInt) ∧ Fr n0 L ∧ h = h0
set_option maxRecDepth 65536 in
set_option maxHeartbeats 40000000 in
theorem rm6 (l : Launch) (Z : State) (a0 : Array Value) (hw : ∀ d ∈ tables_1, d.before a0 Z = true) (ws : List Jvm.Cond) (a : Addr) (xp : Int32) (h0 : Heap) (n0 : Nat) (Z0 : n0 ≤ h0.size) (F_points_a : Fld Z h0 a cN_1 "points" "I" (.int xp)) :
    CT l mN_6 prog_20_method_8_code 1 (some .int) ws ({ frames := 0, cells := 0, slots := 0, locals := 0 } : Room) #[(.ref a)] Z h0 (Q6 Z a xp h0 n0) := by
  refine body_of (plainFor_of_name pn_1) ?_
  intro p e s m below meth c s₁ hx dB hret hlk hml hown0 hnm X0 e0 hZ
  have hown : s.vm.findClass cN_1 = some m.cls := hown0
  have N0 := Fr.nil n0
  rw [ef_6]
  show Wk p e below (FN s (Q6 Z a xp h0 n0) 0 0) s₁ (mkF m 0 #[.val (.ref a)] [])
  refine w_aloadN X0 hx (.ref a) (dB d6_0) 1 rfl rfl rfl ?_
  refine w_getF X0 hx hZ hown e0 (host := "") (Or.inl (tw_16 hw)) Via.refl F_points_a (dB d6_1) 4 rfl (fun T34 X34 e34 => ?_)
  refine w_retI X34 hx hlk hret (dB d6_4) (by decide) (by decide) ?_
  rw [e34]
  exact ⟨xp, rfl, by have hz : xp.toInt = xp.toInt := rfl; omega, N0, rfl⟩
theorem ef_5 (m : MethodId) (x0 : Addr) : entryFrame m #[(.ref x0)] 1 = mkF m 0 #[.val (.ref x0)] [] := by first | (simp [entryFrame, mkF, argsToLocals, Value.category]; done) | rfl
def Q5 (Z : State) (a : Addr) (hb_ : Addr) (xp : Int32) (xm : Int32) (xc : Int32) (h0 : Heap) (n0 : Nat) (v : Option Value) (h : Heap) (L : List Loc) : Prop := ∃ z : Int32, v = some (.int z) ∧ ((z.toInt - (xp.toInt + xm.toInt + xc.toInt)) % 4294967296 = 0 ∧ -2147483648 ≤ z.toInt ∧ z.toInt < 2147483648) ∧ Fr n0 L ∧ h = h0
set_option maxRecDepth 65536 in
set_option maxHeartbeats 40000000 in
theorem rm5 (l : Launch) (Z : State) (a0 : Array Value) (hw : ∀ d ∈ tables_1, d.before a0 Z = true) (ws : List Jvm.Cond) (a : Addr) (hb_ : Addr) (xp : Int32) (xm : Int32) (xc : Int32) (h0 : Heap) (n0 : Nat) (Z0 : n0 ≤ h0.size) (F_haul_a : Fld Z h0 a cN_2 "haul" cN_3 (.ref hb_)) (E_hb_ : Exa Z h0 hb_ cN_1) (F_points_hb_ : Fld Z h0 hb_ cN_1 "points" "I" (.int xp)) (F_mostGems_a : Fld Z h0 a cN_2 "mostGems" "I" (.int xm)) (F_longestChain_a : Fld Z h0 a cN_2 "longestChain" "I" (.int xc)) :
    CT l mN_5 prog_14_method_2_code 1 (some .int) ws ({ frames := 1, cells := 0, slots := 0, locals := 12 } : Room) #[(.ref a)] Z h0 (Q5 Z a hb_ xp xm xc h0 n0) := by
  refine body_of (plainFor_of_name pn_2) ?_
  intro p e s m below meth c s₁ hx dB hret hlk hml hown0 hnm X0 e0 hZ
  have hown : s.vm.findClass cN_2 = some m.cls := hown0
  have N0 := Fr.nil n0
  rw [ef_5]
  show Wk p e below (FN s (Q5 Z a hb_ xp xm xc h0 n0) 0 0) s₁ (mkF m 0 #[.val (.ref a)] [])
  refine w_aloadN X0 hx (.ref a) (dB d5_0) 1 rfl rfl rfl ?_
  refine w_getF X0 hx hZ hown e0 (host := "") (Or.inl (tw_27 hw)) Via.refl F_haul_a (dB d5_1) 4 rfl (fun T35 X35 e35 => ?_)
  refine w_virt X35 hx hZ hown e35 (rm6 l Z a0 hw [] hb_ xp h0 n0 Z0 F_points_hb_) (tw_38 hw) (tw_39 hw) (notFace_of_selects (args := #[]) (mvT hZ (tw_41 hw))) (tw_41 hw) (tw_40 hw) (tw_2 hw) (tw_42 hw) (by decide) hb_ E_hb_ (by rw [hml]; rfl) [] [] (lenOf pd_1 rfl) rfl rfl (by decide) 0 rfl (by decide) (by decide) (by decide) (dB d5_4) 7 rfl (fun r36 T36 L36 X36 q36 => ?_)
  obtain ⟨z36, rfl, f36, Nq36, eq36⟩ := q36
  have N36 := Fr.app N0 Nq36
  dsimp only [Option.toList_some, Option.toList_none, List.cons_append, List.nil_append]
  refine w_aloadN X36 hx (.ref a) (dB d5_7) 8 rfl rfl rfl ?_
  refine w_getF X36 hx hZ hown eq36 (host := "") (Or.inl (tw_29 hw)) Via.refl F_mostGems_a (dB d5_8) 11 rfl (fun T37 X37 e37 => ?_)
  obtain ⟨v38, e38⟩ : ∃ z : Int32, z = z36 + xm := ⟨_, rfl⟩
  have n38 : (v38.toInt - (z36.toInt + xm.toInt)) % 4294967296 = 0 := by rw [e38]; exact addM rfl rfl
  have n38b : -2147483648 ≤ v38.toInt ∧ v38.toInt < 2147483648 := by rw [e38]; exact rng32 _
  refine w_iadd X37 hx (dB d5_11) 12 rfl e38 ?_
  refine w_aloadN X37 hx (.ref a) (dB d5_12) 13 rfl rfl rfl ?_
  refine w_getF X37 hx hZ hown e37 (host := "") (Or.inl (tw_31 hw)) Via.refl F_longestChain_a (dB d5_13) 16 rfl (fun T39 X39 e39 => ?_)
  obtain ⟨v40, e40⟩ : ∃ z : Int32, z = v38 + xc := ⟨_, rfl⟩
  have n40 : (v40.toInt - (v38.toInt + xc.toInt)) % 4294967296 = 0 := by rw [e40]; exact addM rfl rfl
  have n40b : -2147483648 ≤ v40.toInt ∧ v40.toInt < 2147483648 := by rw [e40]; exact rng32 _
  refine w_iadd X39 hx (dB d5_16) 17 rfl e40 ?_
  refine w_retI X39 hx hlk hret (dB d5_17) (by decide) (by decide) ?_
  rw [e39]
  exact ⟨v40, rfl, by have hz : v40.toInt = v40.toInt := rfl; omega, N36, rfl⟩
theorem ef_0 (m : MethodId) (x0 : Int32) (x1 : Int32) (x2 : Int32) (x3 : Int32) (x4 : Int32) (x5 : Int32) : entryFrame m #[(.int x0), (.int x1), (.int x2), (.int x3), (.int x4), (.int x5)] maxLocals = mkF m 0 #[.val (.int x0), .val (.int x1), .val (.int x2), .val (.int x3), .val (.int x4), .val (.int x5), .unset, .unset, .unset, .unset, .unset, .unset, .unset, .unset, .unset, .unset] [] := by first | (simp [entryFrame, mkF, argsToLocals, Value.category, maxLocals]; done) | rfl
def Q0 (Z : State) (g : Int32) (xp : Int32) (xl : Int32) (xm : Int32) (xc : Int32) (xx : Int32) (st_NONE : Addr) (h0 : Heap) (n0 : Nat) (v : Option Value) (h : Heap) (L : List Loc) : Prop := v = some (.int 1) ∧ Fr n0 L
set_option maxRecDepth 65536 in
set_option maxHeartbeats 40000000 in
theorem rm0 (l : Launch) (Z : State) (a0 : Array Value) (hw : ∀ d ∈ tables_1, d.before a0 Z = true) (ws : List Jvm.Cond) (g : Int32) (xp : Int32) (xl : Int32) (xm : Int32) (xc : Int32) (xx : Int32) (st_NONE : Addr) (h0 : Heap) (n0 : Nat) (Z0 : n0 ≤ h0.size) (S_st_NONE : Sta Z h0 cN_1 "NONE" cN_3 (.ref st_NONE)) (E_st_NONE : Exa Z h0 st_NONE cN_1) (F_points_st_NONE : Fld Z h0 st_NONE cN_1 "points" "I" (.int (0 : Int32))) :
    MetFree l x (head1 (Jvm.Cond.code x code maxLocals ret :: ws) room_1) (fun as_ U => as_ = #[(.int g), (.int xp), (.int xl), (.int xm), (.int xc), (.int xx)] ∧ Z.Warmed39 U.vm ∧ U.heap = h0) (fun _ _ _ _ _ => True) (fun _ U o U' => ∃ v L, o = .returned v ∧ Q0 Z g xp xl xm xc xx st_NONE h0 n0 v U'.heap L ∧ FrameEnd U o U' L 6 18) := by
  refine body_of (plainFor_of_name pn_3) ?_
  intro p e s m below meth c s₁ hx dB hret hlk hml hown0 hnm X0 e0 hZ
  have hown : s.vm.findClass cN_4 = some m.cls := hown0
  have N0 := Fr.nil n0
  rw [ef_0]
  show Wk p e below (FN s (Q0 Z g xp xl xm xc xx st_NONE h0 n0) 6 18) s₁ (mkF m 0 #[.val (.int g), .val (.int xp), .val (.int xl), .val (.int xm), .val (.int xc), .val (.int xx), .unset, .unset, .unset, .unset, .unset, .unset, .unset, .unset, .unset, .unset] [])
  have r_g := rng32 g
  have r_xp := rng32 xp
  have r_xl := rng32 xl
  have r_xm := rng32 xm
  have r_xc := rng32 xc
  have r_xx := rng32 xx
  refine w_new X0 hx hZ hown e0 (tw_0 hw) (tw_1 hw) (tw_2 hw) (by decide) (by decide) (dB at_0) 3 rfl (fun T41 h41 a41 X41 e41 g41 E41 A41 D41 => ?_)
  have ne_st_NONE_a41 : st_NONE ≠ a41 := Nat.ne_of_lt (Nat.lt_of_lt_of_le E_st_NONE.lt (Nat.le_of_eq g41.symm))
  have g_a41 : n0 ≤ a41 := Nat.le_trans Z0 (Nat.le_of_eq g41.symm)
  have s_a41 : h0.size ≤ a41 := Nat.le_trans (Keep.refl h0 []).1 (Nat.le_of_eq g41.symm)
  have F42 : Sta Z h41 cN_1 "NONE" cN_3 (.ref st_NONE) := S_st_NONE.ext E41
  have F43 : Exa Z h41 st_NONE cN_1 := E_st_NONE.ext E41
  have F44 : Fld Z h41 st_NONE cN_1 "points" "I" (.int (0 : Int32)) := F_points_st_NONE.ext E41
  have Z41 : n0 ≤ h41.size := Nat.le_trans Z0 E41.1
  have K41 : Keep h0 h41 [] := (Keep.refl h0 []).ext E41
  have F45 : Fld Z h41 a41 cN_1 "gems" "I" (.int (0 : Int32)) := D41 (Or.inr (tw_15 hw)) (ty := .int) (by decide)
  have F46 : Fld Z h41 a41 cN_1 "points" "I" (.int (0 : Int32)) := D41 (Or.inr (tw_17 hw)) (ty := .int) (by decide)
  have F47 : Fld Z h41 a41 cN_1 "longest" "I" (.int (0 : Int32)) := D41 (Or.inr (tw_19 hw)) (ty := .int) (by decide)
  refine w_dup X41 hx (dB at_3) 4 rfl rfl ?_
  refine w_iloadN X41 hx g (dB at_4) 5 rfl rfl ?_
  refine w_iloadN X41 hx xp (dB at_5) 6 rfl rfl ?_
  refine w_iloadN X41 hx xl (dB at_6) 7 rfl rfl ?_
  refine w_init X41 hx hZ rfl hown e41 (rm1 l Z a0 hw [] a41 g xp xl h41 n0 Z41 A41 F45 F46 F47 g_a41) (tw_3 hw) (tw_4 hw) (tw_2 hw) (tw_5 hw) (by decide) (by rw [hml]; rfl) a41 [(.int g), (.int xp), (.int xl)] [(.ref a41)] (lenOf pd_2 rfl) rfl rfl (by decide) 1 rfl (by decide) (by decide) (by decide) (dB at_7) 10 rfl (fun r48 T48 L48 X48 q48 => ?_)
  obtain ⟨rfl, Nq48, Kq48, G48_0, G48_1, G48_2⟩ := q48
  have N48 := Fr.app N0 Nq48
  have F49 : Sta Z T48.heap cN_1 "NONE" cN_3 (.ref st_NONE) := sta_keep F42 Kq48 (allS (exa_plain A41) all0)
  have F50 : Exa Z T48.heap st_NONE cN_1 := F43.keep Kq48
  have F51 : Fld Z T48.heap st_NONE cN_1 "points" "I" (.int (0 : Int32)) := F44.keep Kq48 (ninS ne_st_NONE_a41 nin0)
  have F52 : Exa Z T48.heap a41 cN_1 := A41.keep Kq48
  have Z48 : n0 ≤ T48.heap.size := Nat.le_trans Z41 Kq48.1
  have K48 : Keep h0 T48.heap [] := K41.trans Kq48 (allS (Or.inr s_a41) all0)
  dsimp only [Option.toList_some, Option.toList_none, List.cons_append, List.nil_append]
  refine w_astore X48 hx (dB at_10) 12 rfl rfl #[.val (.int g), .val (.int xp), .val (.int xl), .val (.int xm), .val (.int xc), .val (.int xx), .val (.ref a41), .unset, .unset, .unset, .unset, .unset, .unset, .unset, .unset, .unset] rfl ?_
  refine w_new X48 hx hZ hown rfl (tw_0 hw) (tw_1 hw) (tw_2 hw) (by decide) (by decide) (dB at_12) 15 rfl (fun T53 h53 a53 X53 e53 g53 E53 A53 D53 => ?_)
  have ne_st_NONE_a53 : st_NONE ≠ a53 := Nat.ne_of_lt (Nat.lt_of_lt_of_le F50.lt (Nat.le_of_eq g53.symm))
  have ne_a41_a53 : a41 ≠ a53 := Nat.ne_of_lt (Nat.lt_of_lt_of_le F52.lt (Nat.le_of_eq g53.symm))
  have g_a53 : n0 ≤ a53 := Nat.le_trans Z48 (Nat.le_of_eq g53.symm)
  have s_a53 : h0.size ≤ a53 := Nat.le_trans K48.1 (Nat.le_of_eq g53.symm)
  have F54 : Sta Z h53 cN_1 "NONE" cN_3 (.ref st_NONE) := F49.ext E53
  have F55 : Exa Z h53 st_NONE cN_1 := F50.ext E53
  have F56 : Fld Z h53 st_NONE cN_1 "points" "I" (.int (0 : Int32)) := F51.ext E53
  have F57 : Exa Z h53 a41 cN_1 := F52.ext E53
  have F58 : Fld Z h53 a41 cN_1 "gems" "I" (.int g) := G48_0.ext E53
  have F59 : Fld Z h53 a41 cN_1 "points" "I" (.int xp) := G48_1.ext E53
  have F60 : Fld Z h53 a41 cN_1 "longest" "I" (.int xl) := G48_2.ext E53
  have Z53 : n0 ≤ h53.size := Nat.le_trans Z48 E53.1
  have K53 : Keep h0 h53 [] := K48.ext E53
  have F61 : Fld Z h53 a53 cN_1 "gems" "I" (.int (0 : Int32)) := D53 (Or.inr (tw_15 hw)) (ty := .int) (by decide)
  have F62 : Fld Z h53 a53 cN_1 "points" "I" (.int (0 : Int32)) := D53 (Or.inr (tw_17 hw)) (ty := .int) (by decide)
  have F63 : Fld Z h53 a53 cN_1 "longest" "I" (.int (0 : Int32)) := D53 (Or.inr (tw_19 hw)) (ty := .int) (by decide)
  refine w_dup X53 hx (dB at_15) 16 rfl rfl ?_
  refine w_iload X53 hx xx (dB at_16) 18 rfl rfl ?_
  refine w_iloadN X53 hx xp (dB at_18) 19 rfl rfl ?_
  refine w_iloadN X53 hx xl (dB at_19) 20 rfl rfl ?_
  refine w_iload X53 hx xx (dB at_20) 22 rfl rfl ?_
  obtain ⟨v64, e64⟩ : ∃ z : Int32, z = xl ^^^ xx := ⟨_, rfl⟩
  have n64 : -2147483648 ≤ v64.toInt ∧ v64.toInt < 2147483648 := by rw [e64]; exact rng32 _
  refine w_ixor X53 hx (dB at_22) 23 rfl e64 ?_
  refine w_init X53 hx hZ rfl hown e53 (rm1 l Z a0 hw [] a53 xx xp v64 h53 n0 Z53 A53 F61 F62 F63 g_a53) (tw_3 hw) (tw_4 hw) (tw_2 hw) (tw_5 hw) (by decide) (by rw [hml]; rfl) a53 [(.int xx), (.int xp), (.int v64)] [(.ref a53)] (lenOf pd_2 rfl) rfl rfl (by decide) 1 rfl (by decide) (by decide) (by decide) (dB at_23) 26 rfl (fun r65 T65 L65 X65 q65 => ?_)
  obtain ⟨rfl, Nq65, Kq65, G65_0, G65_1, G65_2⟩ := q65
  have N65 := Fr.app N48 Nq65
  have F66 : Sta Z T65.heap cN_1 "NONE" cN_3 (.ref st_NONE) := sta_keep F54 Kq65 (allS (exa_plain A53) all0)
  have F67 : Exa Z T65.heap st_NONE cN_1 := F55.keep Kq65
  have F68 : Fld Z T65.heap st_NONE cN_1 "points" "I" (.int (0 : Int32)) := F56.keep Kq65 (ninS ne_st_NONE_a53 nin0)
  have F69 : Exa Z T65.heap a41 cN_1 := F57.keep Kq65
  have F70 : Fld Z T65.heap a41 cN_1 "gems" "I" (.int g) := F58.keep Kq65 (ninS ne_a41_a53 nin0)
  have F71 : Fld Z T65.heap a41 cN_1 "points" "I" (.int xp) := F59.keep Kq65 (ninS ne_a41_a53 nin0)
  have F72 : Fld Z T65.heap a41 cN_1 "longest" "I" (.int xl) := F60.keep Kq65 (ninS ne_a41_a53 nin0)
  have F73 : Exa Z T65.heap a53 cN_1 := A53.keep Kq65
  have Z65 : n0 ≤ T65.heap.size := Nat.le_trans Z53 Kq65.1
  have K65 : Keep h0 T65.heap [] := K53.trans Kq65 (allS (Or.inr s_a53) all0)
  dsimp only [Option.toList_some, Option.toList_none, List.cons_append, List.nil_append]
  refine w_astore X65 hx (dB at_26) 28 rfl rfl #[.val (.int g), .val (.int xp), .val (.int xl), .val (.int xm), .val (.int xc), .val (.int xx), .val (.ref a41), .val (.ref a53), .unset, .unset, .unset, .unset, .unset, .unset, .unset, .unset] rfl ?_
  refine w_new X65 hx hZ hown rfl (tw_20 hw) (tw_21 hw) (tw_22 hw) (by decide) (by decide) (dB at_28) 31 rfl (fun T74 h74 a74 X74 e74 g74 E74 A74 D74 => ?_)
  have ne_st_NONE_a74 : st_NONE ≠ a74 := Nat.ne_of_lt (Nat.lt_of_lt_of_le F67.lt (Nat.le_of_eq g74.symm))
  have ne_a41_a74 : a41 ≠ a74 := Nat.ne_of_lt (Nat.lt_of_lt_of_le F69.lt (Nat.le_of_eq g74.symm))
  have ne_a53_a74 : a53 ≠ a74 := Nat.ne_of_lt (Nat.lt_of_lt_of_le F73.lt (Nat.le_of_eq g74.symm))
  have g_a74 : n0 ≤ a74 := Nat.le_trans Z65 (Nat.le_of_eq g74.symm)
  have s_a74 : h0.size ≤ a74 := Nat.le_trans K65.1 (Nat.le_of_eq g74.symm)
  have F75 : Sta Z h74 cN_1 "NONE" cN_3 (.ref st_NONE) := F66.ext E74
  have F76 : Exa Z h74 st_NONE cN_1 := F67.ext E74
  have F77 : Fld Z h74 st_NONE cN_1 "points" "I" (.int (0 : Int32)) := F68.ext E74
  have F78 : Exa Z h74 a41 cN_1 := F69.ext E74
  have F79 : Fld Z h74 a41 cN_1 "gems" "I" (.int g) := F70.ext E74
  have F80 : Fld Z h74 a41 cN_1 "points" "I" (.int xp) := F71.ext E74
  have F81 : Fld Z h74 a41 cN_1 "longest" "I" (.int xl) := F72.ext E74
  have F82 : Exa Z h74 a53 cN_1 := F73.ext E74
  have F83 : Fld Z h74 a53 cN_1 "gems" "I" (.int xx) := G65_0.ext E74
  have F84 : Fld Z h74 a53 cN_1 "points" "I" (.int xp) := G65_1.ext E74
  have F85 : Fld Z h74 a53 cN_1 "longest" "I" (.int v64) := G65_2.ext E74
  have Z74 : n0 ≤ h74.size := Nat.le_trans Z65 E74.1
  have K74 : Keep h0 h74 [] := K65.ext E74
  have F86 : Fld Z h74 a74 cN_2 "haul" cN_3 .null := D74 (Or.inr (tw_28 hw)) (ty := (.object "com/example/lapidary/lapidary/rules/gem/Haul")) (by decide)
  have F87 : Fld Z h74 a74 cN_2 "mostGems" "I" (.int (0 : Int32)) := D74 (Or.inr (tw_30 hw)) (ty := .int) (by decide)
  have F88 : Fld Z h74 a74 cN_2 "longestChain" "I" (.int (0 : Int32)) := D74 (Or.inr (tw_32 hw)) (ty := .int) (by decide)
  refine w_dup X74 hx (dB at_31) 32 rfl rfl ?_
  refine w_aload X74 hx (.ref a41) (dB at_32) 34 rfl rfl rfl ?_
  refine w_iloadN X74 hx xm (dB at_34) 35 rfl rfl ?_
  refine w_iload X74 hx xc (dB at_35) 37 rfl rfl ?_
  refine w_init X74 hx hZ rfl hown e74 (rm4 l Z a0 hw [] a74 a41 xm xc h74 n0 Z74 A74 F86 F87 F88 g_a74) (tw_23 hw) (tw_24 hw) (tw_22 hw) (tw_25 hw) (by decide) (by rw [hml]; rfl) a74 [(.ref a41), (.int xm), (.int xc)] [(.ref a74)] (lenOf pd_3 rfl) rfl rfl (by decide) 1 rfl (by decide) (by decide) (by decide) (dB at_37) 40 rfl (fun r89 T89 L89 X89 q89 => ?_)
  obtain ⟨rfl, Nq89, Kq89, G89_0, G89_1, G89_2⟩ := q89
  have N89 := Fr.app N65 Nq89
  have F90 : Sta Z T89.heap cN_1 "NONE" cN_3 (.ref st_NONE) := sta_keep F75 Kq89 (allS (exa_plain A74) all0)
  have F91 : Exa Z T89.heap st_NONE cN_1 := F76.keep Kq89
  have F92 : Fld Z T89.heap st_NONE cN_1 "points" "I" (.int (0 : Int32)) := F77.keep Kq89 (ninS ne_st_NONE_a74 nin0)
  have F93 : Exa Z T89.heap a41 cN_1 := F78.keep Kq89
  have F94 : Fld Z T89.heap a41 cN_1 "gems" "I" (.int g) := F79.keep Kq89 (ninS ne_a41_a74 nin0)
  have F95 : Fld Z T89.heap a41 cN_1 "points" "I" (.int xp) := F80.keep Kq89 (ninS ne_a41_a74 nin0)
  have F96 : Fld Z T89.heap a41 cN_1 "longest" "I" (.int xl) := F81.keep Kq89 (ninS ne_a41_a74 nin0)
  have F97 : Exa Z T89.heap a53 cN_1 := F82.keep Kq89
  have F98 : Fld Z T89.heap a53 cN_1 "gems" "I" (.int xx) := F83.keep Kq89 (ninS ne_a53_a74 nin0)
  have F99 : Fld Z T89.heap a53 cN_1 "points" "I" (.int xp) := F84.keep Kq89 (ninS ne_a53_a74 nin0)
  have F100 : Fld Z T89.heap a53 cN_1 "longest" "I" (.int v64) := F85.keep Kq89 (ninS ne_a53_a74 nin0)
  have F101 : Exa Z T89.heap a74 cN_2 := A74.keep Kq89
  have Z89 : n0 ≤ T89.heap.size := Nat.le_trans Z74 Kq89.1
  have K89 : Keep h0 T89.heap [] := K74.trans Kq89 (allS (Or.inr s_a74) all0)
  dsimp only [Option.toList_some, Option.toList_none, List.cons_append, List.nil_append]
  refine w_astore X89 hx (dB at_40) 42 rfl rfl #[.val (.int g), .val (.int xp), .val (.int xl), .val (.int xm), .val (.int xc), .val (.int xx), .val (.ref a41), .val (.ref a53), .val (.ref a74), .unset, .unset, .unset, .unset, .unset, .unset, .unset] rfl ?_
  refine w_new X89 hx hZ hown rfl (tw_20 hw) (tw_21 hw) (tw_22 hw) (by decide) (by decide) (dB at_42) 45 rfl (fun T102 h102 a102 X102 e102 g102 E102 A102 D102 => ?_)
  have ne_st_NONE_a102 : st_NONE ≠ a102 := Nat.ne_of_lt (Nat.lt_of_lt_of_le F91.lt (Nat.le_of_eq g102.symm))
  have ne_a41_a102 : a41 ≠ a102 := Nat.ne_of_lt (Nat.lt_of_lt_of_le F93.lt (Nat.le_of_eq g102.symm))
  have ne_a53_a102 : a53 ≠ a102 := Nat.ne_of_lt (Nat.lt_of_lt_of_le F97.lt (Nat.le_of_eq g102.symm))
  have ne_a74_a102 : a74 ≠ a102 := Nat.ne_of_lt (Nat.lt_of_lt_of_le F101.lt (Nat.le_of_eq g102.symm))
  have g_a102 : n0 ≤ a102 := Nat.le_trans Z89 (Nat.le_of_eq g102.symm)
  have s_a102 : h0.size ≤ a102 := Nat.le_trans K89.1 (Nat.le_of_eq g102.symm)
  have F103 : Sta Z h102 cN_1 "NONE" cN_3 (.ref st_NONE) := F90.ext E102
  have F104 : Exa Z h102 st_NONE cN_1 := F91.ext E102
  have F105 : Fld Z h102 st_NONE cN_1 "points" "I" (.int (0 : Int32)) := F92.ext E102
  have F106 : Exa Z h102 a41 cN_1 := F93.ext E102
  have F107 : Fld Z h102 a41 cN_1 "gems" "I" (.int g) := F94.ext E102
  have F108 : Fld Z h102 a41 cN_1 "points" "I" (.int xp) := F95.ext E102
  have F109 : Fld Z h102 a41 cN_1 "longest" "I" (.int xl) := F96.ext E102
  have F110 : Exa Z h102 a53 cN_1 := F97.ext E102
  have F111 : Fld Z h102 a53 cN_1 "gems" "I" (.int xx) := F98.ext E102
  have F112 : Fld Z h102 a53 cN_1 "points" "I" (.int xp) := F99.ext E102
  have F113 : Fld Z h102 a53 cN_1 "longest" "I" (.int v64) := F100.ext E102
  have F114 : Exa Z h102 a74 cN_2 := F101.ext E102
  have F115 : Fld Z h102 a74 cN_2 "haul" cN_3 (.ref a41) := G89_0.ext E102
  have F116 : Fld Z h102 a74 cN_2 "mostGems" "I" (.int xm) := G89_1.ext E102
  have F117 : Fld Z h102 a74 cN_2 "longestChain" "I" (.int xc) := G89_2.ext E102
  have Z102 : n0 ≤ h102.size := Nat.le_trans Z89 E102.1
  have K102 : Keep h0 h102 [] := K89.ext E102
  have F118 : Fld Z h102 a102 cN_2 "haul" cN_3 .null := D102 (Or.inr (tw_28 hw)) (ty := (.object "com/example/lapidary/lapidary/rules/gem/Haul")) (by decide)
  have F119 : Fld Z h102 a102 cN_2 "mostGems" "I" (.int (0 : Int32)) := D102 (Or.inr (tw_30 hw)) (ty := .int) (by decide)
  have F120 : Fld Z h102 a102 cN_2 "longestChain" "I" (.int (0 : Int32)) := D102 (Or.inr (tw_32 hw)) (ty := .int) (by decide)
  refine w_dup X102 hx (dB at_45) 46 rfl rfl ?_
  refine w_aload X102 hx (.ref a53) (dB at_46) 48 rfl rfl rfl ?_
  refine w_iconst X102 hx (dB at_48) 49 rfl (0 : Int32) (by decide) ?_
  refine w_iconst X102 hx (dB at_49) 50 rfl (0 : Int32) (by decide) ?_
  refine w_init X102 hx hZ rfl hown e102 (rm4 l Z a0 hw [] a102 a53 (0 : Int32) (0 : Int32) h102 n0 Z102 A102 F118 F119 F120 g_a102) (tw_23 hw) (tw_24 hw) (tw_22 hw) (tw_25 hw) (by decide) (by rw [hml]; rfl) a102 [(.ref a53), (.int (0 : Int32)), (.int (0 : Int32))] [(.ref a102)] (lenOf pd_3 rfl) rfl rfl (by decide) 1 rfl (by decide) (by decide) (by decide) (dB at_50) 53 rfl (fun r121 T121 L121 X121 q121 => ?_)
  obtain ⟨rfl, Nq121, Kq121, G121_0, G121_1, G121_2⟩ := q121
  have N121 := Fr.app N89 Nq121
  have F122 : Sta Z T121.heap cN_1 "NONE" cN_3 (.ref st_NONE) := sta_keep F103 Kq121 (allS (exa_plain A102) all0)
  have F123 : Exa Z T121.heap st_NONE cN_1 := F104.keep Kq121
  have F124 : Fld Z T121.heap st_NONE cN_1 "points" "I" (.int (0 : Int32)) := F105.keep Kq121 (ninS ne_st_NONE_a102 nin0)
  have F125 : Exa Z T121.heap a41 cN_1 := F106.keep Kq121
  have F126 : Fld Z T121.heap a41 cN_1 "gems" "I" (.int g) := F107.keep Kq121 (ninS ne_a41_a102 nin0)
  have F127 : Fld Z T121.heap a41 cN_1 "points" "I" (.int xp) := F108.keep Kq121 (ninS ne_a41_a102 nin0)
  have F128 : Fld Z T121.heap a41 cN_1 "longest" "I" (.int xl) := F109.keep Kq121 (ninS ne_a41_a102 nin0)
  have F129 : Exa Z T121.heap a53 cN_1 := F110.keep Kq121
  have F130 : Fld Z T121.heap a53 cN_1 "gems" "I" (.int xx) := F111.keep Kq121 (ninS ne_a53_a102 nin0)
  have F131 : Fld Z T121.heap a53 cN_1 "points" "I" (.int xp) := F112.keep Kq121 (ninS ne_a53_a102 nin0)
  have F132 : Fld Z T121.heap a53 cN_1 "longest" "I" (.int v64) := F113.keep Kq121 (ninS ne_a53_a102 nin0)
  have F133 : Exa Z T121.heap a74 cN_2 := F114.keep Kq121
  have F134 : Fld Z T121.heap a74 cN_2 "haul" cN_3 (.ref a41) := F115.keep Kq121 (ninS ne_a74_a102 nin0)
  have F135 : Fld Z T121.heap a74 cN_2 "mostGems" "I" (.int xm) := F116.keep Kq121 (ninS ne_a74_a102 nin0)
  have F136 : Fld Z T121.heap a74 cN_2 "longestChain" "I" (.int xc) := F117.keep Kq121 (ninS ne_a74_a102 nin0)
  have F137 : Exa Z T121.heap a102 cN_2 := A102.keep Kq121
  have Z121 : n0 ≤ T121.heap.size := Nat.le_trans Z102 Kq121.1
  have K121 : Keep h0 T121.heap [] := K102.trans Kq121 (allS (Or.inr s_a102) all0)
  dsimp only [Option.toList_some, Option.toList_none, List.cons_append, List.nil_append]
  refine w_virt X121 hx hZ hown rfl (rm5 l Z a0 hw [] a102 a53 xp (0 : Int32) (0 : Int32) T121.heap n0 Z121 G121_0 F129 F131 G121_1 G121_2) (tw_33 hw) (tw_34 hw) (notFace_of_selects (args := #[]) (mvT hZ (tw_36 hw))) (tw_36 hw) (tw_35 hw) (tw_22 hw) (tw_37 hw) (by decide) a102 F137 (by rw [hml]; rfl) [] [] (lenOf pd_1 rfl) rfl rfl (by decide) 0 rfl (by decide) (by decide) (by decide) (dB at_53) 56 rfl (fun r138 T138 L138 X138 q138 => ?_)
  obtain ⟨z138, rfl, f138, Nq138, eq138⟩ := q138
  have N138 := Fr.app N121 Nq138
  try simp only [show ((0 : Int32)).toInt = 0 from by decide] at f138
  dsimp only [Option.toList_some, Option.toList_none, List.cons_append, List.nil_append]
  refine w_istore X138 hx (dB at_56) 58 rfl #[.val (.int g), .val (.int xp), .val (.int xl), .val (.int xm), .val (.int xc), .val (.int xx), .val (.ref a41), .val (.ref a53), .val (.ref a74), .val (.int z138), .unset, .unset, .unset, .unset, .unset, .unset] rfl ?_
  refine w_new X138 hx hZ hown eq138 (tw_20 hw) (tw_21 hw) (tw_22 hw) (by decide) (by decide) (dB at_58) 61 rfl (fun T139 h139 a139 X139 e139 g139 E139 A139 D139 => ?_)
  have ne_st_NONE_a139 : st_NONE ≠ a139 := Nat.ne_of_lt (Nat.lt_of_lt_of_le F123.lt (Nat.le_of_eq g139.symm))
  have ne_a41_a139 : a41 ≠ a139 := Nat.ne_of_lt (Nat.lt_of_lt_of_le F125.lt (Nat.le_of_eq g139.symm))
  have ne_a53_a139 : a53 ≠ a139 := Nat.ne_of_lt (Nat.lt_of_lt_of_le F129.lt (Nat.le_of_eq g139.symm))
  have ne_a74_a139 : a74 ≠ a139 := Nat.ne_of_lt (Nat.lt_of_lt_of_le F133.lt (Nat.le_of_eq g139.symm))
  have ne_a102_a139 : a102 ≠ a139 := Nat.ne_of_lt (Nat.lt_of_lt_of_le F137.lt (Nat.le_of_eq g139.symm))
  have g_a139 : n0 ≤ a139 := Nat.le_trans Z121 (Nat.le_of_eq g139.symm)
  have s_a139 : h0.size ≤ a139 := Nat.le_trans K121.1 (Nat.le_of_eq g139.symm)
  have F140 : Sta Z h139 cN_1 "NONE" cN_3 (.ref st_NONE) := F122.ext E139
  have F141 : Exa Z h139 st_NONE cN_1 := F123.ext E139
  have F142 : Fld Z h139 st_NONE cN_1 "points" "I" (.int (0 : Int32)) := F124.ext E139
  have F143 : Exa Z h139 a41 cN_1 := F125.ext E139
  have F144 : Fld Z h139 a41 cN_1 "gems" "I" (.int g) := F126.ext E139
  have F145 : Fld Z h139 a41 cN_1 "points" "I" (.int xp) := F127.ext E139
  have F146 : Fld Z h139 a41 cN_1 "longest" "I" (.int xl) := F128.ext E139
  have F147 : Exa Z h139 a53 cN_1 := F129.ext E139
  have F148 : Fld Z h139 a53 cN_1 "gems" "I" (.int xx) := F130.ext E139
  have F149 : Fld Z h139 a53 cN_1 "points" "I" (.int xp) := F131.ext E139
  have F150 : Fld Z h139 a53 cN_1 "longest" "I" (.int v64) := F132.ext E139
  have F151 : Exa Z h139 a74 cN_2 := F133.ext E139
  have F152 : Fld Z h139 a74 cN_2 "haul" cN_3 (.ref a41) := F134.ext E139
  have F153 : Fld Z h139 a74 cN_2 "mostGems" "I" (.int xm) := F135.ext E139
  have F154 : Fld Z h139 a74 cN_2 "longestChain" "I" (.int xc) := F136.ext E139
  have F155 : Exa Z h139 a102 cN_2 := F137.ext E139
  have F156 : Fld Z h139 a102 cN_2 "haul" cN_3 (.ref a53) := G121_0.ext E139
  have F157 : Fld Z h139 a102 cN_2 "mostGems" "I" (.int (0 : Int32)) := G121_1.ext E139
  have F158 : Fld Z h139 a102 cN_2 "longestChain" "I" (.int (0 : Int32)) := G121_2.ext E139
  have Z139 : n0 ≤ h139.size := Nat.le_trans Z121 E139.1
  have K139 : Keep h0 h139 [] := K121.ext E139
  have F159 : Fld Z h139 a139 cN_2 "haul" cN_3 .null := D139 (Or.inr (tw_28 hw)) (ty := (.object "com/example/lapidary/lapidary/rules/gem/Haul")) (by decide)
  have F160 : Fld Z h139 a139 cN_2 "mostGems" "I" (.int (0 : Int32)) := D139 (Or.inr (tw_30 hw)) (ty := .int) (by decide)
  have F161 : Fld Z h139 a139 cN_2 "longestChain" "I" (.int (0 : Int32)) := D139 (Or.inr (tw_32 hw)) (ty := .int) (by decide)
  refine w_dup X139 hx (dB at_61) 62 rfl rfl ?_
  refine w_getS X139 hx hZ hown e139 (host := "") (Or.inl (tw_43 hw)) Via.refl F140 (dB at_62) 65 rfl (fun T162 X162 e162 => ?_)
  refine w_iloadN X162 hx xm (dB at_65) 66 rfl rfl ?_
  refine w_iconst X162 hx (dB at_66) 67 rfl (0 : Int32) (by decide) ?_
  refine w_init X162 hx hZ rfl hown e162 (rm4 l Z a0 hw [] a139 st_NONE xm (0 : Int32) h139 n0 Z139 A139 F159 F160 F161 g_a139) (tw_23 hw) (tw_24 hw) (tw_22 hw) (tw_25 hw) (by decide) (by rw [hml]; rfl) a139 [(.ref st_NONE), (.int xm), (.int (0 : Int32))] [(.ref a139)] (lenOf pd_3 rfl) rfl rfl (by decide) 1 rfl (by decide) (by decide) (by decide) (dB at_67) 70 rfl (fun r163 T163 L163 X163 q163 => ?_)
  obtain ⟨rfl, Nq163, Kq163, G163_0, G163_1, G163_2⟩ := q163
  have N163 := Fr.app N138 Nq163
  have F164 : Sta Z T163.heap cN_1 "NONE" cN_3 (.ref st_NONE) := sta_keep F140 Kq163 (allS (exa_plain A139) all0)
  have F165 : Exa Z T163.heap st_NONE cN_1 := F141.keep Kq163
  have F166 : Fld Z T163.heap st_NONE cN_1 "points" "I" (.int (0 : Int32)) := F142.keep Kq163 (ninS ne_st_NONE_a139 nin0)
  have F167 : Exa Z T163.heap a41 cN_1 := F143.keep Kq163
  have F168 : Fld Z T163.heap a41 cN_1 "gems" "I" (.int g) := F144.keep Kq163 (ninS ne_a41_a139 nin0)
  have F169 : Fld Z T163.heap a41 cN_1 "points" "I" (.int xp) := F145.keep Kq163 (ninS ne_a41_a139 nin0)
  have F170 : Fld Z T163.heap a41 cN_1 "longest" "I" (.int xl) := F146.keep Kq163 (ninS ne_a41_a139 nin0)
  have F171 : Exa Z T163.heap a53 cN_1 := F147.keep Kq163
  have F172 : Fld Z T163.heap a53 cN_1 "gems" "I" (.int xx) := F148.keep Kq163 (ninS ne_a53_a139 nin0)
  have F173 : Fld Z T163.heap a53 cN_1 "points" "I" (.int xp) := F149.keep Kq163 (ninS ne_a53_a139 nin0)
  have F174 : Fld Z T163.heap a53 cN_1 "longest" "I" (.int v64) := F150.keep Kq163 (ninS ne_a53_a139 nin0)
  have F175 : Exa Z T163.heap a74 cN_2 := F151.keep Kq163
  have F176 : Fld Z T163.heap a74 cN_2 "haul" cN_3 (.ref a41) := F152.keep Kq163 (ninS ne_a74_a139 nin0)
  have F177 : Fld Z T163.heap a74 cN_2 "mostGems" "I" (.int xm) := F153.keep Kq163 (ninS ne_a74_a139 nin0)
  have F178 : Fld Z T163.heap a74 cN_2 "longestChain" "I" (.int xc) := F154.keep Kq163 (ninS ne_a74_a139 nin0)
  have F179 : Exa Z T163.heap a102 cN_2 := F155.keep Kq163
  have F180 : Fld Z T163.heap a102 cN_2 "haul" cN_3 (.ref a53) := F156.keep Kq163 (ninS ne_a102_a139 nin0)
  have F181 : Fld Z T163.heap a102 cN_2 "mostGems" "I" (.int (0 : Int32)) := F157.keep Kq163 (ninS ne_a102_a139 nin0)
  have F182 : Fld Z T163.heap a102 cN_2 "longestChain" "I" (.int (0 : Int32)) := F158.keep Kq163 (ninS ne_a102_a139 nin0)
  have F183 : Exa Z T163.heap a139 cN_2 := A139.keep Kq163
  have Z163 : n0 ≤ T163.heap.size := Nat.le_trans Z139 Kq163.1
  have K163 : Keep h0 T163.heap [] := K139.trans Kq163 (allS (Or.inr s_a139) all0)
  dsimp only [Option.toList_some, Option.toList_none, List.cons_append, List.nil_append]
  refine w_virt X163 hx hZ hown rfl (rm5 l Z a0 hw [] a139 st_NONE (0 : Int32) xm (0 : Int32) T163.heap n0 Z163 G163_0 F165 F166 G163_1 G163_2) (tw_33 hw) (tw_34 hw) (notFace_of_selects (args := #[]) (mvT hZ (tw_36 hw))) (tw_36 hw) (tw_35 hw) (tw_22 hw) (tw_37 hw) (by decide) a139 F183 (by rw [hml]; rfl) [] [] (lenOf pd_1 rfl) rfl rfl (by decide) 0 rfl (by decide) (by decide) (by decide) (dB at_70) 73 rfl (fun r184 T184 L184 X184 q184 => ?_)
  obtain ⟨z184, rfl, f184, Nq184, eq184⟩ := q184
  have N184 := Fr.app N163 Nq184
  try simp only [show ((0 : Int32)).toInt = 0 from by decide] at f184
  dsimp only [Option.toList_some, Option.toList_none, List.cons_append, List.nil_append]
  refine w_istore X184 hx (dB at_73) 75 rfl #[.val (.int g), .val (.int xp), .val (.int xl), .val (.int xm), .val (.int xc), .val (.int xx), .val (.ref a41), .val (.ref a53), .val (.ref a74), .val (.int z138), .val (.int z184), .unset, .unset, .unset, .unset, .unset] rfl ?_
  refine w_new X184 hx hZ hown eq184 (tw_20 hw) (tw_21 hw) (tw_22 hw) (by decide) (by decide) (dB at_75) 78 rfl (fun T185 h185 a185 X185 e185 g185 E185 A185 D185 => ?_)
  have ne_st_NONE_a185 : st_NONE ≠ a185 := Nat.ne_of_lt (Nat.lt_of_lt_of_le F165.lt (Nat.le_of_eq g185.symm))
  have ne_a41_a185 : a41 ≠ a185 := Nat.ne_of_lt (Nat.lt_of_lt_of_le F167.lt (Nat.le_of_eq g185.symm))
  have ne_a53_a185 : a53 ≠ a185 := Nat.ne_of_lt (Nat.lt_of_lt_of_le F171.lt (Nat.le_of_eq g185.symm))
  have ne_a74_a185 : a74 ≠ a185 := Nat.ne_of_lt (Nat.lt_of_lt_of_le F175.lt (Nat.le_of_eq g185.symm))
  have ne_a102_a185 : a102 ≠ a185 := Nat.ne_of_lt (Nat.lt_of_lt_of_le F179.lt (Nat.le_of_eq g185.symm))
  have ne_a139_a185 : a139 ≠ a185 := Nat.ne_of_lt (Nat.lt_of_lt_of_le F183.lt (Nat.le_of_eq g185.symm))
  have g_a185 : n0 ≤ a185 := Nat.le_trans Z163 (Nat.le_of_eq g185.symm)
  have s_a185 : h0.size ≤ a185 := Nat.le_trans K163.1 (Nat.le_of_eq g185.symm)
  have F186 : Sta Z h185 cN_1 "NONE" cN_3 (.ref st_NONE) := F164.ext E185
  have F187 : Exa Z h185 st_NONE cN_1 := F165.ext E185
  have F188 : Fld Z h185 st_NONE cN_1 "points" "I" (.int (0 : Int32)) := F166.ext E185
  have F189 : Exa Z h185 a41 cN_1 := F167.ext E185
  have F190 : Fld Z h185 a41 cN_1 "gems" "I" (.int g) := F168.ext E185
  have F191 : Fld Z h185 a41 cN_1 "points" "I" (.int xp) := F169.ext E185
  have F192 : Fld Z h185 a41 cN_1 "longest" "I" (.int xl) := F170.ext E185
  have F193 : Exa Z h185 a53 cN_1 := F171.ext E185
  have F194 : Fld Z h185 a53 cN_1 "gems" "I" (.int xx) := F172.ext E185
  have F195 : Fld Z h185 a53 cN_1 "points" "I" (.int xp) := F173.ext E185
  have F196 : Fld Z h185 a53 cN_1 "longest" "I" (.int v64) := F174.ext E185
  have F197 : Exa Z h185 a74 cN_2 := F175.ext E185
  have F198 : Fld Z h185 a74 cN_2 "haul" cN_3 (.ref a41) := F176.ext E185
  have F199 : Fld Z h185 a74 cN_2 "mostGems" "I" (.int xm) := F177.ext E185
  have F200 : Fld Z h185 a74 cN_2 "longestChain" "I" (.int xc) := F178.ext E185
  have F201 : Exa Z h185 a102 cN_2 := F179.ext E185
  have F202 : Fld Z h185 a102 cN_2 "haul" cN_3 (.ref a53) := F180.ext E185
  have F203 : Fld Z h185 a102 cN_2 "mostGems" "I" (.int (0 : Int32)) := F181.ext E185
  have F204 : Fld Z h185 a102 cN_2 "longestChain" "I" (.int (0 : Int32)) := F182.ext E185
  have F205 : Exa Z h185 a139 cN_2 := F183.ext E185
  have F206 : Fld Z h185 a139 cN_2 "haul" cN_3 (.ref st_NONE) := G163_0.ext E185
  have F207 : Fld Z h185 a139 cN_2 "mostGems" "I" (.int xm) := G163_1.ext E185
  have F208 : Fld Z h185 a139 cN_2 "longestChain" "I" (.int (0 : Int32)) := G163_2.ext E185
  have Z185 : n0 ≤ h185.size := Nat.le_trans Z163 E185.1
  have K185 : Keep h0 h185 [] := K163.ext E185
  have F209 : Fld Z h185 a185 cN_2 "haul" cN_3 .null := D185 (Or.inr (tw_28 hw)) (ty := (.object "com/example/lapidary/lapidary/rules/gem/Haul")) (by decide)
  have F210 : Fld Z h185 a185 cN_2 "mostGems" "I" (.int (0 : Int32)) := D185 (Or.inr (tw_30 hw)) (ty := .int) (by decide)
  have F211 : Fld Z h185 a185 cN_2 "longestChain" "I" (.int (0 : Int32)) := D185 (Or.inr (tw_32 hw)) (ty := .int) (by decide)
  refine w_dup X185 hx (dB at_78) 79 rfl rfl ?_
  refine w_getS X185 hx hZ hown e185 (host := "") (Or.inl (tw_43 hw)) Via.refl F186 (dB at_79) 82 rfl (fun T212 X212 e212 => ?_)
  refine w_iconst X212 hx (dB at_82) 83 rfl (0 : Int32) (by decide) ?_
  refine w_iload X212 hx xc (dB at_83) 85 rfl rfl ?_
  refine w_init X212 hx hZ rfl hown e212 (rm4 l Z a0 hw [] a185 st_NONE (0 : Int32) xc h185 n0 Z185 A185 F209 F210 F211 g_a185) (tw_23 hw) (tw_24 hw) (tw_22 hw) (tw_25 hw) (by decide) (by rw [hml]; rfl) a185 [(.ref st_NONE), (.int (0 : Int32)), (.int xc)] [(.ref a185)] (lenOf pd_3 rfl) rfl rfl (by decide) 1 rfl (by decide) (by decide) (by decide) (dB at_85) 88 rfl (fun r213 T213 L213 X213 q213 => ?_)
  obtain ⟨rfl, Nq213, Kq213, G213_0, G213_1, G213_2⟩ := q213
  have N213 := Fr.app N184 Nq213
  have F214 : Sta Z T213.heap cN_1 "NONE" cN_3 (.ref st_NONE) := sta_keep F186 Kq213 (allS (exa_plain A185) all0)
  have F215 : Exa Z T213.heap st_NONE cN_1 := F187.keep Kq213
  have F216 : Fld Z T213.heap st_NONE cN_1 "points" "I" (.int (0 : Int32)) := F188.keep Kq213 (ninS ne_st_NONE_a185 nin0)
  have F217 : Exa Z T213.heap a41 cN_1 := F189.keep Kq213
  have F218 : Fld Z T213.heap a41 cN_1 "gems" "I" (.int g) := F190.keep Kq213 (ninS ne_a41_a185 nin0)
  have F219 : Fld Z T213.heap a41 cN_1 "points" "I" (.int xp) := F191.keep Kq213 (ninS ne_a41_a185 nin0)
  have F220 : Fld Z T213.heap a41 cN_1 "longest" "I" (.int xl) := F192.keep Kq213 (ninS ne_a41_a185 nin0)
  have F221 : Exa Z T213.heap a53 cN_1 := F193.keep Kq213
  have F222 : Fld Z T213.heap a53 cN_1 "gems" "I" (.int xx) := F194.keep Kq213 (ninS ne_a53_a185 nin0)
  have F223 : Fld Z T213.heap a53 cN_1 "points" "I" (.int xp) := F195.keep Kq213 (ninS ne_a53_a185 nin0)
  have F224 : Fld Z T213.heap a53 cN_1 "longest" "I" (.int v64) := F196.keep Kq213 (ninS ne_a53_a185 nin0)
  have F225 : Exa Z T213.heap a74 cN_2 := F197.keep Kq213
  have F226 : Fld Z T213.heap a74 cN_2 "haul" cN_3 (.ref a41) := F198.keep Kq213 (ninS ne_a74_a185 nin0)
  have F227 : Fld Z T213.heap a74 cN_2 "mostGems" "I" (.int xm) := F199.keep Kq213 (ninS ne_a74_a185 nin0)
  have F228 : Fld Z T213.heap a74 cN_2 "longestChain" "I" (.int xc) := F200.keep Kq213 (ninS ne_a74_a185 nin0)
  have F229 : Exa Z T213.heap a102 cN_2 := F201.keep Kq213
  have F230 : Fld Z T213.heap a102 cN_2 "haul" cN_3 (.ref a53) := F202.keep Kq213 (ninS ne_a102_a185 nin0)
  have F231 : Fld Z T213.heap a102 cN_2 "mostGems" "I" (.int (0 : Int32)) := F203.keep Kq213 (ninS ne_a102_a185 nin0)
  have F232 : Fld Z T213.heap a102 cN_2 "longestChain" "I" (.int (0 : Int32)) := F204.keep Kq213 (ninS ne_a102_a185 nin0)
  have F233 : Exa Z T213.heap a139 cN_2 := F205.keep Kq213
  have F234 : Fld Z T213.heap a139 cN_2 "haul" cN_3 (.ref st_NONE) := F206.keep Kq213 (ninS ne_a139_a185 nin0)
  have F235 : Fld Z T213.heap a139 cN_2 "mostGems" "I" (.int xm) := F207.keep Kq213 (ninS ne_a139_a185 nin0)
  have F236 : Fld Z T213.heap a139 cN_2 "longestChain" "I" (.int (0 : Int32)) := F208.keep Kq213 (ninS ne_a139_a185 nin0)
  have F237 : Exa Z T213.heap a185 cN_2 := A185.keep Kq213
  have Z213 : n0 ≤ T213.heap.size := Nat.le_trans Z185 Kq213.1
  have K213 : Keep h0 T213.heap [] := K185.trans Kq213 (allS (Or.inr s_a185) all0)
  dsimp only [Option.toList_some, Option.toList_none, List.cons_append, List.nil_append]
  refine w_virt X213 hx hZ hown rfl (rm5 l Z a0 hw [] a185 st_NONE (0 : Int32) (0 : Int32) xc T213.heap n0 Z213 G213_0 F215 F216 G213_1 G213_2) (tw_33 hw) (tw_34 hw) (notFace_of_selects (args := #[]) (mvT hZ (tw_36 hw))) (tw_36 hw) (tw_35 hw) (tw_22 hw) (tw_37 hw) (by decide) a185 F237 (by rw [hml]; rfl) [] [] (lenOf pd_1 rfl) rfl rfl (by decide) 0 rfl (by decide) (by decide) (by decide) (dB at_88) 91 rfl (fun r238 T238 L238 X238 q238 => ?_)
  obtain ⟨z238, rfl, f238, Nq238, eq238⟩ := q238
  have N238 := Fr.app N213 Nq238
  try simp only [show ((0 : Int32)).toInt = 0 from by decide] at f238
  dsimp only [Option.toList_some, Option.toList_none, List.cons_append, List.nil_append]
  refine w_istore X238 hx (dB at_91) 93 rfl #[.val (.int g), .val (.int xp), .val (.int xl), .val (.int xm), .val (.int xc), .val (.int xx), .val (.ref a41), .val (.ref a53), .val (.ref a74), .val (.int z138), .val (.int z184), .val (.int z238), .unset, .unset, .unset, .unset] rfl ?_
  refine w_iload X238 hx z138 (dB at_93) 95 rfl rfl ?_
  refine w_iloadN X238 hx xp (dB at_95) 96 rfl rfl ?_
  refine w_icmp_ne X238 hx z138.toInt xp.toInt rfl rfl (dB at_96) 103 99 (fun c239 => ?_) (fun c239 => ?_)
  ·exfalso; omega
  ·refine w_iconst X238 hx (dB at_99) 100 rfl (1 : Int32) (by decide) ?_
   refine w_goto X238 hx (dB at_100) 104 ?_
   refine w_istore X238 hx (dB at_104) 106 rfl #[.val (.int g), .val (.int xp), .val (.int xl), .val (.int xm), .val (.int xc), .val (.int xx), .val (.ref a41), .val (.ref a53), .val (.ref a74), .val (.int z138), .val (.int z184), .val (.int z238), .val (.int (1 : Int32)), .unset, .unset, .unset] rfl ?_
   refine w_iload X238 hx z184 (dB at_106) 108 rfl rfl ?_
   refine w_iloadN X238 hx xm (dB at_108) 109 rfl rfl ?_
   refine w_icmp_ne X238 hx z184.toInt xm.toInt rfl rfl (dB at_109) 116 112 (fun c240 => ?_) (fun c240 => ?_)
   ·exfalso; omega
   ·refine w_iconst X238 hx (dB at_112) 113 rfl (1 : Int32) (by decide) ?_
    refine w_goto X238 hx (dB at_113) 117 ?_
    refine w_istore X238 hx (dB at_117) 119 rfl #[.val (.int g), .val (.int xp), .val (.int xl), .val (.int xm), .val (.int xc), .val (.int xx), .val (.ref a41), .val (.ref a53), .val (.ref a74), .val (.int z138), .val (.int z184), .val (.int z238), .val (.int (1 : Int32)), .val (.int (1 : Int32)), .unset, .unset] rfl ?_
    refine w_iload X238 hx z238 (dB at_119) 121 rfl rfl ?_
    refine w_iload X238 hx xc (dB at_121) 123 rfl rfl ?_
    refine w_icmp_ne X238 hx z238.toInt xc.toInt rfl rfl (dB at_123) 130 126 (fun c241 => ?_) (fun c241 => ?_)
    ·exfalso; omega
    ·refine w_iconst X238 hx (dB at_126) 127 rfl (1 : Int32) (by decide) ?_
     refine w_goto X238 hx (dB at_127) 131 ?_
     refine w_istore X238 hx (dB at_131) 133 rfl #[.val (.int g), .val (.int xp), .val (.int xl), .val (.int xm), .val (.int xc), .val (.int xx), .val (.ref a41), .val (.ref a53), .val (.ref a74), .val (.int z138), .val (.int z184), .val (.int z238), .val (.int (1 : Int32)), .val (.int (1 : Int32)), .val (.int (1 : Int32)), .unset] rfl ?_
     refine w_aload X238 hx (.ref a74) (dB at_133) 135 rfl rfl rfl ?_
     refine w_virt X238 hx hZ hown eq238 (rm5 l Z a0 hw [] a74 a41 xp xm xc T213.heap n0 Z213 F226 F217 F219 F227 F228) (tw_33 hw) (tw_34 hw) (notFace_of_selects (args := #[]) (mvT hZ (tw_36 hw))) (tw_36 hw) (tw_35 hw) (tw_22 hw) (tw_37 hw) (by decide) a74 F225 (by rw [hml]; rfl) [] [] (lenOf pd_1 rfl) rfl rfl (by decide) 0 rfl (by decide) (by decide) (by decide) (dB at_135) 138 rfl (fun r242 T242 L242 X242 q242 => ?_)
     obtain ⟨z242, rfl, f242, Nq242, eq242⟩ := q242
     have N242 := Fr.app N238 Nq242
     dsimp only [Option.toList_some, Option.toList_none, List.cons_append, List.nil_append]
     refine w_iload X242 hx z138 (dB at_138) 140 rfl rfl ?_
     refine w_iload X242 hx z184 (dB at_140) 142 rfl rfl ?_
     obtain ⟨v243, e243⟩ : ∃ z : Int32, z = z138 + z184 := ⟨_, rfl⟩
     have n243 : (v243.toInt - (z138.toInt + z184.toInt)) % 4294967296 = 0 := by rw [e243]; exact addM rfl rfl
     have n243b : -2147483648 ≤ v243.toInt ∧ v243.toInt < 2147483648 := by rw [e243]; exact rng32 _
     refine w_iadd X242 hx (dB at_142) 143 rfl e243 ?_
     refine w_iload X242 hx z238 (dB at_143) 145 rfl rfl ?_
     obtain ⟨v244, e244⟩ : ∃ z : Int32, z = v243 + z238 := ⟨_, rfl⟩
     have n244 : (v244.toInt - (v243.toInt + z238.toInt)) % 4294967296 = 0 := by rw [e244]; exact addM rfl rfl
     have n244b : -2147483648 ≤ v244.toInt ∧ v244.toInt < 2147483648 := by rw [e244]; exact rng32 _
     refine w_iadd X242 hx (dB at_145) 146 rfl e244 ?_
     refine w_icmp_ne X242 hx z242.toInt v244.toInt rfl rfl (dB at_146) 153 149 (fun c245 => ?_) (fun c245 => ?_)
     ·exfalso; omega
     ·refine w_iconst X242 hx (dB at_149) 150 rfl (1 : Int32) (by decide) ?_
      refine w_goto X242 hx (dB at_150) 154 ?_
      refine w_istore X242 hx (dB at_154) 156 rfl #[.val (.int g), .val (.int xp), .val (.int xl), .val (.int xm), .val (.int xc), .val (.int xx), .val (.ref a41), .val (.ref a53), .val (.ref a74), .val (.int z138), .val (.int z184), .val (.int z238), .val (.int (1 : Int32)), .val (.int (1 : Int32)), .val (.int (1 : Int32)), .val (.int (1 : Int32))] rfl ?_
      refine w_iload X242 hx (1 : Int32) (dB at_156) 158 rfl rfl ?_
      refine w_if_eq X242 hx 1 (by decide) (dB at_158) 180 161 (fun c246 => ?_) (fun c246 => ?_)
      ·exfalso; omega
      ·refine w_iload X242 hx (1 : Int32) (dB at_161) 163 rfl rfl ?_
       refine w_if_eq X242 hx 1 (by decide) (dB at_163) 180 166 (fun c247 => ?_) (fun c247 => ?_)
       ·exfalso; omega
       ·refine w_iload X242 hx (1 : Int32) (dB at_166) 168 rfl rfl ?_
        refine w_if_eq X242 hx 1 (by decide) (dB at_168) 180 171 (fun c248 => ?_) (fun c248 => ?_)
        ·exfalso; omega
        ·refine w_iload X242 hx (1 : Int32) (dB at_171) 173 rfl rfl ?_
         refine w_if_eq X242 hx 1 (by decide) (dB at_173) 180 176 (fun c249 => ?_) (fun c249 => ?_)
         ·exfalso; omega
         ·refine w_iconst X242 hx (dB at_176) 177 rfl (1 : Int32) (by decide) ?_
          refine w_goto X242 hx (dB at_177) 181 ?_
          refine w_retN X242 hx hlk (t := .boolean) hret (by simp) (dB at_181) (by decide) (by decide) ?_
          rw [eq242]
          exact ⟨rfl, N242⟩
set_option maxRecDepth 65536 in
set_option maxHeartbeats 40000000 in
theorem comes_1 {Post : Tables → Env → Array Value → State → Outcome → State → Prop} (hpost : ∀ tb e args s v u, (limb_1_1.after args s (.returned v) u = true ∧ limb_1_2.after args s (.returned v) u = true ∧ True) → FrameEnd s (.returned v) u (Jvm.fieldLocs frame_1_writes args s ++ Jvm.arrayLocs frame_1_arrays args s ++ Jvm.staticLocs frame_1_statics s) 24 128 → Post tb e args s (.returned v) u) :
    ArmFor flags0 classFile x code maxLocals ret World_1 tables_1 room_1 Calls_1 rest_1 Pre_1 Post := by
  intro l hfl _ _ p e ha hc hk s m args below hf hA hF happ hP
  obtain ⟨hcalls, hrest, hpre⟩ := hP
  obtain ⟨-, -, -, hnamed, -, -, -, hat⟩ := (Spec.applies_iff hf).mp happ
  obtain ⟨hg, hn⟩ := and_e (Cond.before_iff.mp (show (Jvm.Cond.and given_1 narrow_1).before args s = true from hpre))
  obtain ⟨gg1, gg2⟩ := and_e hg
  obtain ⟨gg3, gg4⟩ := and_e gg2
  obtain ⟨gg5, gg6⟩ := and_e gg4
  obtain ⟨gg7, gg8⟩ := and_e gg6
  obtain ⟨gg9, gg10⟩ := and_e gg8
  obtain ⟨gg11, gg12⟩ := and_e gg10
  obtain ⟨w0, w1, w2, w3, w4, w5, rfl⟩ : ∃ w0 w1 w2 w3 w4 w5 : Value, args = #[w0, w1, w2, w3, w4, w5] := by
    have hs : args.size = 6 := by simpa [Cond.value, given_1] using gg1
    obtain ⟨L⟩ := args
    match L, hs with
    | [w0, w1, w2, w3, w4, w5], _ => exact ⟨w0, w1, w2, w3, w4, w5, rfl⟩
  have hw := fun d (hd : d ∈ tables_1) => atoms_spec (ws := Jvm.Cond.code x code maxLocals ret :: tables_1) hat d (List.mem_cons_of_mem _ hd)
  have hfit : Fit s := fun {y c} hc i hi => by
    obtain ⟨ha, rfl⟩ := Array.getElem?_eq_some_iff.mp hc
    have q := List.all_eq_true.mp ((Array.all_eq_true_iff_forall_mem.mp hF) _ (Array.getElem_mem ha)) i (List.mem_range.mpr hi)
    simpa [Array.getElem?_eq_getElem hi] using q
  obtain ⟨i0, ei0⟩ := is_v gg3
  obtain rfl : w0 = (.int i0) := Option.some.inj ei0
  obtain ⟨i1, ei1⟩ := is_v gg5
  obtain rfl : w1 = (.int i1) := Option.some.inj ei1
  obtain ⟨i2, ei2⟩ := is_v gg7
  obtain rfl : w2 = (.int i2) := Option.some.inj ei2
  obtain ⟨i3, ei3⟩ := is_v gg9
  obtain rfl : w3 = (.int i3) := Option.some.inj ei3
  obtain ⟨i4, ei4⟩ := is_v gg11
  obtain rfl : w4 = (.int i4) := Option.some.inj ei4
  obtain ⟨i5, ei5⟩ := is_v gg12
  obtain rfl : w5 = (.int i5) := Option.some.inj ei5
  obtain ⟨ns1, ns2⟩ := and_e hn
  obtain ⟨st_NONE, ev_st_NONE⟩ := exa_v ns1
  have S_st_NONE : Sta s s.heap "com/example/lapidary/lapidary/rules/gem/Haul" "NONE" "Lcom/example/lapidary/lapidary/rules/gem/Haul;" (.ref st_NONE) := Sta.start ev_st_NONE (Or.inr ⟨(tw_2 hw), (tw_44 hw)⟩)
  have E_st_NONE : Exa s s.heap st_NONE "com/example/lapidary/lapidary/rules/gem/Haul" := Exa.start ev_st_NONE ns1
  have F_points_st_NONE : Fld s s.heap st_NONE cN_1 "points" "I" (.int (0 : Int32)) := Fld.start ((fld_at ev_st_NONE).symm.trans (eqInt_v ns2))
  obtain ⟨n, o, h1, h2, h3, _, L, rfl, ⟨rfl, N⟩, hq⟩ := rm0 l s _ hw tables_1 i0 i1 i2 i3 i4 i5 st_NONE s.heap s.heap.size (Nat.le_refl _) S_st_NONE E_st_NONE F_points_st_NONE p e ha hc hk s m _ below hf ((Spec.applies_iff_loose hf).mp happ).1 ⟨rfl, State.Warmed39.refl s, rfl⟩ trivial
  refine ⟨n, _, h1, h2, h3, hpost _ _ _ _ _ _ ⟨Cond.after_iff.mpr rfl, Cond.after_iff.mpr (eq_i res_at (Term.int_eval (1)) rfl), trivial⟩ ⟨hq.1, hq.2.1, (hq.2.2.sift fun y hy => Or.inr (N y hy)).mono (by decide) (by decide)⟩⟩
theorem main_1_1 : Claimed_1_1 := comes_1 fun _ _ _ _ _ _ h hF => ⟨h.1, hF⟩
theorem main_1_2 : Claimed_1_2 := comes_1 fun _ _ _ _ _ _ h hF => ⟨h.2.1, hF⟩
end Jvm.Pilot.@@N@@
namespace Jvm.Pilot.@@N@@
open Jvm Jvm.ClassFile Sem Op Lib Jvm.Free Jvm.Stand Jvm.Pilot.@@N@@.Jvm.D
/-! MADE BY PROGRAM (witnessworld.py) out of the Statement's table words and the real class files: 11 classes; the members and pool entries that the words name. The judged class is class 1, her method 1. -/
namespace start1
open Jvm.ClassFile
def u (s : String) : CpInfo := .utf8 (stringToUtf16 s)
/-- a pool by its gaps: so many unusable entries, then the entry; so many at the end -/
def gap : Nat → List CpInfo → List CpInfo
  | 0, r => r
  | n + 1, r => .unusable :: gap n r
def poolList (es : List (Nat × CpInfo)) (last : Nat) : List CpInfo := es.foldr (fun e r => gap e.1 (e.2 :: r)) (gap last [])
def pool (es : List (Nat × CpInfo)) (last : Nat) : Array CpInfo := ⟨poolList es last⟩
def fileOf (pool : Array CpInfo) (this : Nat) (attrs : Array Attribute := #[]) (ms : Array MethodInfo := #[]) (fl : Nat := 33) (sup : Nat := 0) (ifs : Array Nat := #[]) (fds : Array FieldInfo := #[]) : ClassFile where
  minorVersion := 0
  majorVersion := 65
  constantPool := pool
  accessFlags := fl
  thisClass := this
  superClass := sup
  interfaces := ifs
  fields := fds
  methods := ms
  attributes := attrs
def plain (name : String) (sup : Option ClassId) : Class where
  name := name
  kind := .ordinary
  loader := none
  accessFlags := 33
  super := sup
  interfaces := #[]
  cf := none
  fields := #[]
  methods := #[]
  instanceTypes := #[]
  staticTypes := #[]
  resolved := #[]
  callSites := []
  init := .initialized
  statics := none
  mirror := none

def pool0 : Array CpInfo := pool [(5, u "<init>"), (0, u "()V"), (1, .class_ 10), (1, u "java/lang/Object")] 113

def k0c0 : Code := { maxStack := 0, maxLocals := 1, code := object_method_1_code, exceptionTable := #[], attributes := #[] }
def k0m0 : Method := { name := "<init>", desc := "()V", sig := { parameters := [], returnType := none }, accessFlags := 1, code := some k0c0 }
/-- java/lang/Object -/
def k0 : Class := { plain "java/lang/Object" none with
  accessFlags := 33
  interfaces := #[]
  cf := some (fileOf pool0 8 #[] #[{ accessFlags := 1, nameIndex := 5, descriptorIndex := 6, attributes := #[] }] 33 0 #[] #[])
  fields := #[]
  methods := #[k0m0]
  instanceTypes := #[]
  staticTypes := #[]
  resolved := Array.replicate 124 none
  statics := none }

def pool1 : Array CpInfo := pool [(2, .class_ 4), (1, u "java/lang/Object"), (0, u "<init>"), (0, u "()V"), (0, .class_ 8), (0, u "com/example/lapidary/lapidary/rules/gem/Haul"), (0, .methodref 7 10), (0, .nameAndType 5 11), (0, u "(III)V"), (0, .class_ 13), (0, u "com/example/lapidary/lapidary/rules/gem/FinalScore"), (0, .methodref 12 15), (0, .nameAndType 5 16), (0, u "(Lcom/example/lapidary/lapidary/rules/gem/Haul;II)V"), (0, .methodref 12 18), (0, .nameAndType 19 20), (0, u "total"), (0, u "()I"), (0, .fieldref 7 22), (0, .nameAndType 23 24), (0, u "NONE"), (0, u "Lcom/example/lapidary/lapidary/rules/gem/Haul;"), (0, .class_ 26), (0, u "com/example/lapidary/lapidary/rules/gem/FinalScoreTotalPinLaw"), (2, u "law"), (0, u "(IIIIII)Z")] 3

def k1m0 : Method := { name := "<init>", desc := "()V", sig := { parameters := [], returnType := none }, accessFlags := 1, code := none }
def k1c1 : Code := { maxStack := 6, maxLocals := 16, code := code, exceptionTable := #[], attributes := #[] }
def k1m1 : Method := { name := "law", desc := "(IIIIII)Z", sig := { parameters := [.int, .int, .int, .int, .int, .int], returnType := some .boolean }, accessFlags := 9, code := some k1c1 }
/-- com/example/lapidary/lapidary/rules/gem/FinalScoreTotalPinLaw -/
def k1 : Class := { plain "com/example/lapidary/lapidary/rules/gem/FinalScoreTotalPinLaw" (some 0) with
  accessFlags := 49
  interfaces := #[]
  cf := some (fileOf pool1 25 #[] #[{ accessFlags := 1, nameIndex := 5, descriptorIndex := 6, attributes := #[] }, { accessFlags := 9, nameIndex := 29, descriptorIndex := 30, attributes := #[] }] 49 2 #[] #[])
  fields := #[]
  methods := #[k1m0, k1m1]
  instanceTypes := #[]
  staticTypes := #[]
  resolved := Array.replicate 34 none
  statics := none }

def pool2 : Array CpInfo := pool [(1, .methodref 2 3), (0, .class_ 4), (0, .nameAndType 5 6), (0, u "java/lang/Object"), (0, u "<init>"), (0, u "()V"), (0, .class_ 8), (0, u "java/lang/Record")] 13

def k2c0 : Code := { maxStack := 1, maxLocals := 1, code := jdk_30_method_1_code, exceptionTable := #[], attributes := #[] }
def k2m0 : Method := { name := "<init>", desc := "()V", sig := { parameters := [], returnType := none }, accessFlags := 4, code := some k2c0 }
/-- java/lang/Record -/
def k2 : Class := { plain "java/lang/Record" (some 0) with
  accessFlags := 1057
  interfaces := #[]
  cf := some (fileOf pool2 7 #[] #[{ accessFlags := 4, nameIndex := 5, descriptorIndex := 6, attributes := #[] }] 1057 2 #[] #[])
  fields := #[]
  methods := #[k2m0]
  instanceTypes := #[]
  staticTypes := #[]
  resolved := Array.replicate 22 none
  statics := none }

def pool3 : Array CpInfo := pool [(1, .methodref 2 3), (0, .class_ 4), (0, .nameAndType 5 6), (0, u "java/lang/Record"), (0, u "<init>"), (0, u "()V"), (0, .fieldref 8 9), (0, .class_ 10), (0, .nameAndType 11 12), (0, u "com/example/lapidary/lapidary/rules/gem/Haul"), (0, u "gems"), (0, u "I"), (0, .fieldref 8 14), (0, .nameAndType 15 12), (0, u "points"), (0, .fieldref 8 17), (0, .nameAndType 18 12), (0, u "longest"), (11, u "POINTS"), (0, u "[I"), (8, u "(III)V"), (17, u "NONE"), (0, u "Lcom/example/lapidary/lapidary/rules/gem/Haul;"), (0, u "MAX_EXTRACTION"), (10, u "()I")] 34

def k3c0 : Code := { maxStack := 2, maxLocals := 4, code := prog_20_method_1_code, exceptionTable := #[], attributes := #[] }
def k3m0 : Method := { name := "<init>", desc := "(III)V", sig := { parameters := [.int, .int, .int], returnType := none }, accessFlags := 1, code := some k3c0 }
def k3c1 : Code := { maxStack := 1, maxLocals := 1, code := prog_20_method_8_code, exceptionTable := #[], attributes := #[] }
def k3m1 : Method := { name := "points", desc := "()I", sig := { parameters := [], returnType := some .int }, accessFlags := 1, code := some k3c1 }
/-- com/example/lapidary/lapidary/rules/gem/Haul -/
def k3 : Class := { plain "com/example/lapidary/lapidary/rules/gem/Haul" (some 2) with
  accessFlags := 49
  interfaces := #[]
  cf := some (fileOf pool3 8 #[] #[{ accessFlags := 1, nameIndex := 5, descriptorIndex := 40, attributes := #[] }, { accessFlags := 1, nameIndex := 15, descriptorIndex := 71, attributes := #[] }] 49 2 #[] #[{ accessFlags := 18, nameIndex := 11, descriptorIndex := 12, attributes := #[] }, { accessFlags := 18, nameIndex := 15, descriptorIndex := 12, attributes := #[] }, { accessFlags := 18, nameIndex := 18, descriptorIndex := 12, attributes := #[] }, { accessFlags := 25, nameIndex := 60, descriptorIndex := 12, attributes := #[] }, { accessFlags := 25, nameIndex := 58, descriptorIndex := 59, attributes := #[] }, { accessFlags := 26, nameIndex := 30, descriptorIndex := 31, attributes := #[] }])
  fields := #[{ name := "gems", type := .int, accessFlags := 18, slot := 0, constantValue := 0 }, { name := "points", type := .int, accessFlags := 18, slot := 1, constantValue := 0 }, { name := "longest", type := .int, accessFlags := 18, slot := 2, constantValue := 0 }, { name := "MAX_EXTRACTION", type := .int, accessFlags := 25, slot := 0, constantValue := 0 }, { name := "NONE", type := (.object "com/example/lapidary/lapidary/rules/gem/Haul"), accessFlags := 25, slot := 1, constantValue := 0 }, { name := "POINTS", type := (.array .int), accessFlags := 26, slot := 2, constantValue := 0 }]
  methods := #[k3m0, k3m1]
  instanceTypes := #[.int, .int, .int]
  staticTypes := #[.int, (.object "com/example/lapidary/lapidary/rules/gem/Haul"), (.array .int)]
  resolved := Array.replicate 106 none
  statics := some 0 }

def pool4 : Array CpInfo := pool [(1, .methodref 2 3), (0, .class_ 4), (0, .nameAndType 5 6), (0, u "java/lang/Record"), (0, u "<init>"), (0, u "()V"), (0, .fieldref 8 9), (0, .class_ 10), (0, .nameAndType 11 12), (0, u "com/example/lapidary/lapidary/rules/gem/FinalScore"), (0, u "haul"), (0, u "Lcom/example/lapidary/lapidary/rules/gem/Haul;"), (0, .fieldref 8 14), (0, .nameAndType 15 16), (0, u "mostGems"), (0, u "I"), (0, .fieldref 8 18), (0, .nameAndType 19 16), (0, u "longestChain"), (0, .methodref 21 22), (0, .class_ 23), (0, .nameAndType 24 25), (0, u "com/example/lapidary/lapidary/rules/gem/Haul"), (0, u "points"), (0, u "()I"), (50, u "MOST_GEMS_AWARDS"), (0, u "[I"), (5, u "(Lcom/example/lapidary/lapidary/rules/gem/Haul;II)V"), (10, u "total"), (30, u "LONGEST_CHAIN_AWARD")] 60

def k4c0 : Code := { maxStack := 2, maxLocals := 4, code := prog_14_method_1_code, exceptionTable := #[], attributes := #[] }
def k4m0 : Method := { name := "<init>", desc := "(Lcom/example/lapidary/lapidary/rules/gem/Haul;II)V", sig := { parameters := [(.object "com/example/lapidary/lapidary/rules/gem/Haul"), .int, .int], returnType := none }, accessFlags := 1, code := some k4c0 }
def k4c1 : Code := { maxStack := 2, maxLocals := 1, code := prog_14_method_2_code, exceptionTable := #[], attributes := #[] }
def k4m1 : Method := { name := "total", desc := "()I", sig := { parameters := [], returnType := some .int }, accessFlags := 1, code := some k4c1 }
/-- com/example/lapidary/lapidary/rules/gem/FinalScore -/
def k4 : Class := { plain "com/example/lapidary/lapidary/rules/gem/FinalScore" (some 2) with
  accessFlags := 49
  interfaces := #[]
  cf := some (fileOf pool4 8 #[] #[{ accessFlags := 1, nameIndex := 5, descriptorIndex := 83, attributes := #[] }, { accessFlags := 1, nameIndex := 94, descriptorIndex := 25, attributes := #[] }] 49 2 #[] #[{ accessFlags := 18, nameIndex := 11, descriptorIndex := 12, attributes := #[] }, { accessFlags := 18, nameIndex := 15, descriptorIndex := 16, attributes := #[] }, { accessFlags := 18, nameIndex := 19, descriptorIndex := 16, attributes := #[] }, { accessFlags := 26, nameIndex := 76, descriptorIndex := 77, attributes := #[] }, { accessFlags := 26, nameIndex := 125, descriptorIndex := 16, attributes := #[] }])
  fields := #[{ name := "haul", type := (.object "com/example/lapidary/lapidary/rules/gem/Haul"), accessFlags := 18, slot := 0, constantValue := 0 }, { name := "mostGems", type := .int, accessFlags := 18, slot := 1, constantValue := 0 }, { name := "longestChain", type := .int, accessFlags := 18, slot := 2, constantValue := 0 }, { name := "MOST_GEMS_AWARDS", type := (.array .int), accessFlags := 26, slot := 0, constantValue := 0 }, { name := "LONGEST_CHAIN_AWARD", type := .int, accessFlags := 26, slot := 1, constantValue := 0 }]
  methods := #[k4m0, k4m1]
  instanceTypes := #[(.object "com/example/lapidary/lapidary/rules/gem/Haul"), .int, .int]
  staticTypes := #[(.array .int), .int]
  resolved := Array.replicate 186 none
  statics := none }

def pool5 : Array CpInfo := pool [(1, u "java/lang/Cloneable"), (0, .class_ 1), (0, u "java/lang/Object"), (0, .class_ 3)] 3

/-- java/lang/Cloneable -/
def k5 : Class := { plain "java/lang/Cloneable" (some 0) with
  accessFlags := 1537
  interfaces := #[]
  cf := some (fileOf pool5 2 #[] #[] 1537 4 #[] #[])
  fields := #[]
  methods := #[]
  instanceTypes := #[]
  staticTypes := #[]
  resolved := Array.replicate 8 none
  statics := none }

def pool6 : Array CpInfo := pool [(1, u "java/io/Serializable"), (0, .class_ 1), (0, u "java/lang/Object"), (0, .class_ 3)] 3

/-- java/io/Serializable -/
def k6 : Class := { plain "java/io/Serializable" (some 0) with
  accessFlags := 1537
  interfaces := #[]
  cf := some (fileOf pool6 2 #[] #[] 1537 4 #[] #[])
  fields := #[]
  methods := #[]
  instanceTypes := #[]
  staticTypes := #[]
  resolved := Array.replicate 8 none
  statics := none }

/-- the primitive byte -/
def k7 : Class := { plain "byte" none with kind := .primitive 'B', accessFlags := 0x411 }
/-- [B -/
def k8 : Class := { plain "[B" (some 0) with kind := .array 7 .byte, interfaces := #[5, 6], accessFlags := 1041 }

/-- the primitive int -/
def k9 : Class := { plain "int" none with kind := .primitive 'I', accessFlags := 0x411 }
/-- [I -/
def k10 : Class := { plain "[I" (some 0) with kind := .array 9 .int, interfaces := #[5, 6], accessFlags := 1041 }

def heap : Heap := #[{ cls := 3, slots := #[.int 0, .ref 1, .null], vm := .statics 3 },
  { cls := 3, slots := #[.int 0, .int 0, .int 0], vm := .none }]
def classes : Array Class := #[k0, k1, k2, k3, k4, k5, k6, k7, k8, k9, k10]
def interned : List (Array UInt16 × Addr) := []
def slotsUsed : Nat := 6
def theMethod : MethodId := ⟨1, 1⟩
def args0 : Array Value := #[.int 5, .int 7, .int 0, .int 1, .int 2, .int 3]
def aboutOver (below : List Frame) : State where
  vm := { classes := classes, interned := interned.toArray }
  heap := heap
  slotsUsed := slotsUsed
  threads := #[{ frames := .invoking theMethod args0 :: below }]
def below0 : List Frame := [.native { method := ⟨0, 0⟩, args := #[] }]
def about1 : State := aboutOver below0
def p0 : Program := .bare "" "" ""
def e0 : Env := launch0.env 0 0 0
theorem w_frames : about1.frames = Frame.invoking theMethod args0 :: below0 := rfl
set_option maxRecDepth 65536 in
theorem w_args : argsFit about1.vm theMethod args0 = true := by decide +kernel
set_option maxRecDepth 65536 in
theorem w_heap : heapFits about1 = true := by decide +kernel
set_option maxRecDepth 65536 in
theorem w_runnable : about1.curStatus? = some .runnable := by decide +kernel
set_option maxRecDepth 65536 in
theorem w_alone : about1.alone = true := by decide +kernel
set_option maxRecDepth 65536 in
theorem w_named : about1.methodNamed? x = some theMethod := by decide +kernel
set_option maxRecDepth 65536 in
theorem w_hears : about1.hears theMethod below0 = true := by decide +kernel
set_option maxRecDepth 65536 in
theorem w_ripe : about1.ripe theMethod args0 below0 = true := by decide +kernel
theorem w_running : about1.status = .running := rfl
set_option maxRecDepth 65536 in
theorem w_room : about1.hasRoom e0.platform room_1 = true :=
  launch0.hasRoom_least _ room_1 (by decide +kernel) (by decide +kernel) (by decide +kernel) (by decide +kernel) (by decide +kernel) (by decide +kernel)
theorem allAtoms_all (ts : List Jvm.Cond) (a : Array Jvm.Value) (st : Jvm.State) : (allAtoms ts).before a st = ts.all (fun c => c.before a st) := by
  induction ts with
  | nil => rfl
  | cons c t ih =>
    show (Jvm.Cond.and c (allAtoms t)).before a st = _
    rw [Jvm.Cond.before_and, ih, List.all_cons]
def words1 : List Jvm.Cond := Jvm.Cond.code x code maxLocals ret :: tables_1
/-- a 'code' word, met by the world's own term for the bytes: nothing is compared byte by byte -/
theorem code_word {y : MethodName} {bytes : ByteArray} {mx : Nat} {rt : Option FieldType} {a : Array Value} {s : State} {m : MethodId} {meth : Method} {c : Code} (h1 : s.methodNamed? y = some m) (h2 : s.vm.method? m = some meth) (h3 : meth.code = some c) (h4 : c.code = bytes)
    (h5 : (c.maxLocals == mx && c.exceptionTable.isEmpty && decide (c.maxStack ≤ mostOperands) && decide (meth.sig.returnType = rt) && !meth.locks && decide (parseMethodDescriptor y.desc = some meth.sig)) = true) : (Jvm.Cond.code y bytes mx rt).before a s = true := by
  simp only [Bool.and_eq_true, beq_iff_eq, Bool.not_eq_true', decide_eq_true_eq] at h5
  obtain ⟨⟨⟨⟨⟨g1, g2⟩, g3⟩, g4⟩, g5⟩, g6⟩ := h5
  simp [Cond.before, Cond.holds, Cond.value, h1, h2, h3, h4, g1, g2, g3, g4, g5, g6]
def isCode : Jvm.Cond → Bool
  | .code _ _ _ _ => true
  | _ => false
theorem all_split {L : List Jvm.Cond} {P : Jvm.Cond → Bool} (h1 : L.all (fun c => isCode c || P c) = true) (h2 : ∀ c ∈ L.filter isCode, P c = true) : L.all P = true := by
  refine List.all_eq_true.mpr fun c hc => ?_
  have h := List.all_eq_true.mp h1 c hc
  rcases Bool.eq_false_or_eq_true (isCode c) with hi | hi
  · exact h2 c (List.mem_filter.mpr ⟨hc, hi⟩)
  · simpa [hi] using h
set_option maxRecDepth 65536 in
theorem w_c0 : (Jvm.Cond.code x code maxLocals ret).before args0 about1 = true := code_word (m := ⟨1, 1⟩) (meth := k1m1) (c := k1c1) (by decide +kernel) rfl rfl rfl (by decide +kernel)
set_option maxRecDepth 65536 in
theorem w_c1 : (Jvm.Cond.code ({ cls := "com/example/lapidary/lapidary/rules/gem/Haul", name := "<init>", desc := "(III)V" } : Jvm.MethodName) prog_20_method_1_code (4 : Nat) (Option.none : Option Jvm.ClassFile.FieldType)).before args0 about1 = true := code_word (m := ⟨3, 0⟩) (meth := k3m0) (c := k3c0) (by decide +kernel) rfl rfl rfl (by decide +kernel)
set_option maxRecDepth 65536 in
theorem w_c2 : (Jvm.Cond.code ({ cls := "java/lang/Record", name := "<init>", desc := "()V" } : Jvm.MethodName) jdk_30_method_1_code (1 : Nat) (Option.none : Option Jvm.ClassFile.FieldType)).before args0 about1 = true := code_word (m := ⟨2, 0⟩) (meth := k2m0) (c := k2c0) (by decide +kernel) rfl rfl rfl (by decide +kernel)
set_option maxRecDepth 65536 in
theorem w_c3 : (Jvm.Cond.code ({ cls := "java/lang/Object", name := "<init>", desc := "()V" } : Jvm.MethodName) object_method_1_code (1 : Nat) (Option.none : Option Jvm.ClassFile.FieldType)).before args0 about1 = true := code_word (m := ⟨0, 0⟩) (meth := k0m0) (c := k0c0) (by decide +kernel) rfl rfl rfl (by decide +kernel)
set_option maxRecDepth 65536 in
theorem w_c4 : (Jvm.Cond.code ({ cls := "com/example/lapidary/lapidary/rules/gem/FinalScore", name := "<init>", desc := "(Lcom/example/lapidary/lapidary/rules/gem/Haul;II)V" } : Jvm.MethodName) prog_14_method_1_code (4 : Nat) (Option.none : Option Jvm.ClassFile.FieldType)).before args0 about1 = true := code_word (m := ⟨4, 0⟩) (meth := k4m0) (c := k4c0) (by decide +kernel) rfl rfl rfl (by decide +kernel)
set_option maxRecDepth 65536 in
theorem w_c5 : (Jvm.Cond.code ({ cls := "com/example/lapidary/lapidary/rules/gem/FinalScore", name := "total", desc := "()I" } : Jvm.MethodName) prog_14_method_2_code (1 : Nat) (Option.some Jvm.ClassFile.FieldType.int)).before args0 about1 = true := code_word (m := ⟨4, 1⟩) (meth := k4m1) (c := k4c1) (by decide +kernel) rfl rfl rfl (by decide +kernel)
set_option maxRecDepth 65536 in
theorem w_c6 : (Jvm.Cond.code ({ cls := "com/example/lapidary/lapidary/rules/gem/Haul", name := "points", desc := "()I" } : Jvm.MethodName) prog_20_method_8_code (1 : Nat) (Option.some Jvm.ClassFile.FieldType.int)).before args0 about1 = true := code_word (m := ⟨3, 1⟩) (meth := k3m1) (c := k3c1) (by decide +kernel) rfl rfl rfl (by decide +kernel)
def codes1 : List Jvm.Cond := [Jvm.Cond.code x code maxLocals ret, Jvm.Cond.code ({ cls := "com/example/lapidary/lapidary/rules/gem/Haul", name := "<init>", desc := "(III)V" } : Jvm.MethodName) prog_20_method_1_code (4 : Nat) (Option.none : Option Jvm.ClassFile.FieldType), Jvm.Cond.code ({ cls := "java/lang/Record", name := "<init>", desc := "()V" } : Jvm.MethodName) jdk_30_method_1_code (1 : Nat) (Option.none : Option Jvm.ClassFile.FieldType), Jvm.Cond.code ({ cls := "java/lang/Object", name := "<init>", desc := "()V" } : Jvm.MethodName) object_method_1_code (1 : Nat) (Option.none : Option Jvm.ClassFile.FieldType), Jvm.Cond.code ({ cls := "com/example/lapidary/lapidary/rules/gem/FinalScore", name := "<init>", desc := "(Lcom/example/lapidary/lapidary/rules/gem/Haul;II)V" } : Jvm.MethodName) prog_14_method_1_code (4 : Nat) (Option.none : Option Jvm.ClassFile.FieldType), Jvm.Cond.code ({ cls := "com/example/lapidary/lapidary/rules/gem/FinalScore", name := "total", desc := "()I" } : Jvm.MethodName) prog_14_method_2_code (1 : Nat) (Option.some Jvm.ClassFile.FieldType.int), Jvm.Cond.code ({ cls := "com/example/lapidary/lapidary/rules/gem/Haul", name := "points", desc := "()I" } : Jvm.MethodName) prog_20_method_8_code (1 : Nat) (Option.some Jvm.ClassFile.FieldType.int)]
set_option maxRecDepth 65536 in
theorem codes_eq : words1.filter isCode = codes1 := rfl
theorem w_codes : ∀ c ∈ words1.filter isCode, c.before args0 about1 = true := by
  rw [codes_eq]
  intro c hc
  simp only [codes1, List.mem_cons, List.not_mem_nil, or_false] at hc
  rcases hc with rfl | rfl | rfl | rfl | rfl | rfl | rfl
  · exact w_c0
  · exact w_c1
  · exact w_c2
  · exact w_c3
  · exact w_c4
  · exact w_c5
  · exact w_c6
set_option maxRecDepth 65536 in
theorem w_t1 : (words1.take 24).all (fun c => isCode c || c.before args0 about1) = true := by decide +kernel
set_option maxRecDepth 65536 in
theorem w_t2 : (words1.drop 24).all (fun c => isCode c || c.before args0 about1) = true := by decide +kernel
theorem w_tables : (allAtoms (Jvm.Cond.code x code maxLocals ret :: tables_1)).before args0 about1 = true := by
  rw [allAtoms_all]
  show words1.all (fun c => c.before args0 about1) = true
  refine all_split ?_ w_codes
  rw [← List.take_append_drop 24 words1, List.all_append, w_t1, w_t2]
  rfl
set_option maxRecDepth 65536 in
theorem w_case : (Jvm.Cond.and given_1 narrow_1).before args0 about1 = true := by decide +kernel
theorem w_applies : (headSpec (Jvm.Cond.code x code maxLocals ret :: tables_1) room_1).applies x e0.platform about1 = true :=
  (Spec.applies_iff w_frames).mpr ⟨w_running, w_runnable, w_alone, w_named, w_hears, w_ripe, w_room, w_tables⟩
theorem atStart : AtStart classFile x code maxLocals ret World_1 tables_1 room_1 Calls_1 rest_1 Pre_1 launch0 p0 e0 about1 theMethod args0 below0 :=
  ⟨lists_1, trivial, launch0.admits_env _ _ _, launch0.least_env, fairChoices_fair.cas, fairChoices_fair.clock, w_frames, w_args, w_heap, w_applies, trivial, trivial, w_case⟩
end start1
theorem witness_1 : WitnessClaimed_1 := ⟨start1.p0, start1.e0, start1.about1, start1.theMethod, start1.args0, start1.below0, start1.atStart⟩
end Jvm.Pilot.@@N@@
