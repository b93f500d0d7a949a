import JvmDerived
import JvmDerived.Pilot.@@N@@Statement
import JvmDerived.Pilot.@@N@@Code
set_option linter.unusedVariables false
set_option linter.unusedSimpArgs false
namespace Jvm.Own
open Sem ClassFile Op Lib Jvm.Stand Jvm.Free Jvm.LawKit Jvm.RoadKit
/-- from here the run goes on to a return that the contract allows -/
def Wk (p : Program) (e : Env) (below : List Frame) (F : Outcome → State → Prop) (T : State) (g : JFrame) : Prop :=
  ∃ s₂ o, Steps p.tables e below (T.setTop g) s₂ ∧ s₂.status = .running ∧ Ended s₂ below o ∧ F o s₂
abbrev FN (s : State) (Q : Option Value → Heap → List Loc → Prop) (kc ks : Nat) : Outcome → State → Prop := fun o s₂ => ∃ v L, o = .returned v ∧ Q v s₂.heap L ∧ FrameEnd s o s₂ L kc ks
section Walk
variable {p : Program} {l : Launch} {e : Env} {R : Room} {s : State} {m : MethodId} {args : Array Value} {below : List Frame} {meth : Method} {c : Code} {T : State} {locs : List Loc} {cells slots : Nat} {Q : Option Value → Heap → List Loc → Prop} {Fe : Outcome → State → Prop} {kc ks pc : Nat} {Ls : Array Slot} {S : List Value} {Z : State} {a0 : Array Value} {h : Heap}
theorem Wk.step {T' : State} {g g' : JFrame} (h : Wk p e below Fe T' g') (st : ∀ t, Steps p.tables e below (T'.setTop g') t → Steps p.tables e below (T.setTop g) t) : Wk p e below Fe T g := by
  obtain ⟨s₂, o, h1, h2⟩ := h
  exact ⟨s₂, o, st _ h1, h2⟩
theorem Wk.come {T' : State} {g g' : JFrame} (h : Wk p e below Fe T' g') (st : Steps p.tables e below (T.setTop g) (T'.setTop g')) : Wk p e below Fe T g := h.step fun _ k => st.trans k
theorem w_iload (X : Stand p l e R s m args below meth c T locs cells slots) (hx : p.tables.exec = Jvm.exec) {k : Nat} (v : Int32) (hd : decode c.code pc = .ok (.iload k, 2)) (pc' : Nat) (hp : pc + 2 = pc') (hl : Ls[k]? = some (.val (.int v))) (h : Wk p e below Fe T (mkF m pc' Ls (.int v :: S))) : Wk p e below Fe T (mkF m pc Ls S) := by
  subst hp; exact h.step fun _ k => XS.iload X.here hx rfl hd hl k
theorem w_iloadN (X : Stand p l e R s m args below meth c T locs cells slots) (hx : p.tables.exec = Jvm.exec) {k : Fin 4} (v : Int32) (hd : decode c.code pc = .ok (.iload_n k, 1)) (pc' : Nat) (hp : pc + 1 = pc') (hl : Ls[k.val]? = some (.val (.int v))) (h : Wk p e below Fe T (mkF m pc' Ls (.int v :: S))) : Wk p e below Fe T (mkF m pc Ls S) := by
  subst hp; exact h.step fun _ k => XS.iloadN X.here hx rfl hd hl k
theorem w_istore (X : Stand p l e R s m args below meth c T locs cells slots) (hx : p.tables.exec = Jvm.exec) {k : Nat} {x : Int32} (hd : decode c.code pc = .ok (.istore k, 2)) (pc' : Nat) (hp : pc + 2 = pc') (l' : Array Slot) (hl : storeLocals Ls k (.int x) = some l') (h : Wk p e below Fe T (mkF m pc' l' S)) : Wk p e below Fe T (mkF m pc Ls (.int x :: S)) := by
  subst hp; exact h.step fun _ k => XS.istore X.here hx rfl hd rfl hl k
theorem w_istoreN (X : Stand p l e R s m args below meth c T locs cells slots) (hx : p.tables.exec = Jvm.exec) {k : Fin 4} {x : Int32} (hd : decode c.code pc = .ok (.istore_n k, 1)) (pc' : Nat) (hp : pc + 1 = pc') (l' : Array Slot) (hl : storeLocals Ls k.val (.int x) = some l') (h : Wk p e below Fe T (mkF m pc' l' S)) : Wk p e below Fe T (mkF m pc Ls (.int x :: S)) := by
  subst hp; exact h.step fun _ k => XS.istoreN X.here hx rfl hd rfl hl k
theorem w_iconst (X : Stand p l e R s m args below meth c T locs cells slots) (hx : p.tables.exec = Jvm.exec) {i : Int} (hd : decode c.code pc = .ok (.iconst i, 1)) (pc' : Nat) (hp : pc + 1 = pc') (z : Int32) (hz : Int32.ofInt i = z) (h : Wk p e below Fe T (mkF m pc' Ls (.int z :: S))) : Wk p e below Fe T (mkF m pc Ls S) := by
  subst hp hz; exact h.step fun _ k => XS.iconst X.here hx rfl hd k
theorem w_bipush (X : Stand p l e R s m args below meth c T locs cells slots) (hx : p.tables.exec = Jvm.exec) {i : Int} (hd : decode c.code pc = .ok (.bipush i, 2)) (pc' : Nat) (hp : pc + 2 = pc') (z : Int32) (hz : (Int8.ofInt i).toInt32 = z) (h : Wk p e below Fe T (mkF m pc' Ls (.int z :: S))) : Wk p e below Fe T (mkF m pc Ls S) := by
  subst hp hz; exact h.step fun _ k => XS.bipush X.here hx rfl hd k
theorem w_ldc (X : Stand p l e R s m args below meth c T locs cells slots) (hx : p.tables.exec = Jvm.exec) (hZ : Z.Warmed39 s.vm) {own : String} {index : Nat} {v : Int32} (hown : s.vm.findClass own = some m.cls) (w : (Cond.constant own index v).before a0 Z = true) (hd : decode c.code pc = .ok (.ldc index, 2)) (pc' : Nat) (hp : pc + 2 = pc') (h : Wk p e below Fe T (mkF m pc' Ls (.int v :: S))) : Wk p e below Fe T (mkF m pc Ls S) := by
  subst hp; exact h.step fun _ k => X.ldcInt hx hown (mvT hZ w) (g := mkF m pc Ls S) rfl hd _ k
theorem w_iadd (X : Stand p l e R s m args below meth c T locs cells slots) (hx : p.tables.exec = Jvm.exec) {x y : Int32} (hd : decode c.code pc = .ok (.iadd, 1)) (pc' : Nat) (hp : pc + 1 = pc') {z : Int32} (hz : z = x + y) (h : Wk p e below Fe T (mkF m pc' Ls (.int z :: S))) : Wk p e below Fe T (mkF m pc Ls (.int y :: .int x :: S)) := by
  subst hp hz; exact h.step fun _ k => XS.iadd X.here hx rfl hd rfl k
theorem w_iand (X : Stand p l e R s m args below meth c T locs cells slots) (hx : p.tables.exec = Jvm.exec) {x y : Int32} (hd : decode c.code pc = .ok (.iand, 1)) (pc' : Nat) (hp : pc + 1 = pc') {z : Int32} (hz : z = x &&& y) (h : Wk p e below Fe T (mkF m pc' Ls (.int z :: S))) : Wk p e below Fe T (mkF m pc Ls (.int y :: .int x :: S)) := by
  subst hp hz; exact h.step fun _ k => XS.iand X.here hx rfl hd rfl k
theorem w_irem (X : Stand p l e R s m args below meth c T locs cells slots) (hx : p.tables.exec = Jvm.exec) {x y : Int32} (hd : decode c.code pc = .ok (.irem, 1)) (pc' : Nat) (hp : pc + 1 = pc') (hy : y ≠ 0) {z : Int32} (hz : z = x % y) (h : Wk p e below Fe T (mkF m pc' Ls (.int z :: S))) : Wk p e below Fe T (mkF m pc Ls (.int y :: .int x :: S)) := by
  subst hp hz; exact h.step fun _ k => iremM (g := mkF m pc Ls (.int y :: .int x :: S)) X hx rfl hd rfl hy k
theorem w_i2c (X : Stand p l e R s m args below meth c T locs cells slots) (hx : p.tables.exec = Jvm.exec) {x : Int32} (hd : decode c.code pc = .ok (.i2c, 1)) (pc' : Nat) (hp : pc + 1 = pc') {z : Int32} (hz : z = x.toUInt32.toUInt16.toUInt32.toInt32) (h : Wk p e below Fe T (mkF m pc' Ls (.int z :: S))) : Wk p e below Fe T (mkF m pc Ls (.int x :: S)) := by
  subst hp hz; exact h.step fun _ k => XS.i2c X.here hx rfl hd rfl k
theorem w_goto (X : Stand p l e R s m args below meth c T locs cells slots) (hx : p.tables.exec = Jvm.exec) {o : Int} (hd : decode c.code pc = .ok (.goto o, 3)) (pc' : Nat) (h : Wk p e below Fe T (mkF m pc' Ls S)) (ho : 0 ≤ (pc : Int) + o := by decide) (hp : ((pc : Int) + o).toNat = pc' := by decide) : Wk p e below Fe T (mkF m pc Ls S) := by
  exact h.step fun _ k => XS.goto X.here hx rfl rfl hd ho hp k
theorem holds_eq {x y : Int32} {A B : Int} (ha : x.toInt = A) (hb : y.toInt = B) : ((A = B) → if_icmp.holds .eq x y = true) ∧ ((¬ A = B) → if_icmp.holds .eq x y = false) := by
  subst ha hb
  constructor
  · intro q
    first
    | exact (tlt (x := x) (y := y) (Int32.lt_iff_toInt_lt.mpr (by omega))).1
    | exact (flt (x := x) (y := y) (fun r => by have := Int32.lt_iff_toInt_lt.mp r; omega)).2.1
    | exact (tlt (x := y) (y := x) (Int32.lt_iff_toInt_lt.mpr (by omega))).2.2.1
    | exact (flt (x := y) (y := x) (fun r => by have := Int32.lt_iff_toInt_lt.mp r; omega)).2.2.2
    | exact (teq (x := x) (y := y) (Int32.toInt_inj.mp (by omega))).1
    | exact (feq (x := x) (y := y) (fun r => q (by rw [r]))).2
  · intro q
    first
    | exact (flt (x := x) (y := y) (fun r => by have := Int32.lt_iff_toInt_lt.mp r; omega)).1
    | exact (tlt (x := x) (y := y) (Int32.lt_iff_toInt_lt.mpr (by omega))).2.1
    | exact (flt (x := y) (y := x) (fun r => by have := Int32.lt_iff_toInt_lt.mp r; omega)).2.2.1
    | exact (tlt (x := y) (y := x) (Int32.lt_iff_toInt_lt.mpr (by omega))).2.2.2
    | exact (feq (x := x) (y := y) (fun r => q (by rw [r]))).1
    | exact (teq (x := x) (y := y) (Int32.toInt_inj.mp (by omega))).2
theorem w_icmp_eq (X : Stand p l e R s m args below meth c T locs cells slots) (hx : p.tables.exec = Jvm.exec) {x y : Int32} {o : Int} (A B : Int) (ha : x.toInt = A) (hb : y.toInt = B) (hd : decode c.code pc = .ok (.if_icmp .eq o, 3)) (pt pn : Nat) (h1 : A = B → Wk p e below Fe T (mkF m pt Ls S)) (h2 : ¬ A = B → Wk p e below Fe T (mkF m pn Ls S)) (ho : 0 ≤ (pc : Int) + o := by decide) (hp : ((pc : Int) + o).toNat = pt := by decide) (hn : pc + 3 = pn := by rfl) : Wk p e below Fe T (mkF m pc Ls (.int y :: .int x :: S)) := by
  subst hn
  by_cases q : A = B
  · exact (h1 q).step fun _ k => XS.icmpYes X.here hx rfl rfl hd rfl ((holds_eq ha hb).1 q) ho hp k
  · have q' : ¬ A = B := by omega
    exact (h2 q').step fun _ k => XS.icmpNo X.here hx rfl hd rfl ((holds_eq ha hb).2 q') k
theorem w_if_eq (X : Stand p l e R s m args below meth c T locs cells slots) (hx : p.tables.exec = Jvm.exec) {x : Int32} {o : Int} (A : Int) (ha : x.toInt = A) (hd : decode c.code pc = .ok (.ifCond .eq o, 3)) (pt pn : Nat) (h1 : A = 0 → Wk p e below Fe T (mkF m pt Ls S)) (h2 : ¬ A = 0 → Wk p e below Fe T (mkF m pn Ls S)) (ho : 0 ≤ (pc : Int) + o := by decide) (hp : ((pc : Int) + o).toNat = pt := by decide) (hn : pc + 3 = pn := by rfl) : Wk p e below Fe T (mkF m pc Ls (.int x :: S)) := by
  subst hn
  have hb : (0 : Int32).toInt = 0 := rfl
  by_cases q : A = 0
  · exact (h1 q).step fun _ k => XS.ifYes X.here hx rfl rfl hd rfl ((if0 _ _).trans ((holds_eq ha hb).1 q)) ho hp k
  · have q' : ¬ A = 0 := by omega
    exact (h2 q').step fun _ k => XS.ifNo X.here hx rfl hd rfl ((if0 _ _).trans ((holds_eq ha hb).2 q')) k
theorem holds_ne {x y : Int32} {A B : Int} (ha : x.toInt = A) (hb : y.toInt = B) : ((¬ A = B) → if_icmp.holds .ne x y = true) ∧ ((A = B) → if_icmp.holds .ne x y = false) := by
  subst ha hb
  constructor
  · intro q
    first
    | exact (tlt (x := x) (y := y) (Int32.lt_iff_toInt_lt.mpr (by omega))).1
    | exact (flt (x := x) (y := y) (fun r => by have := Int32.lt_iff_toInt_lt.mp r; omega)).2.1
    | exact (tlt (x := y) (y := x) (Int32.lt_iff_toInt_lt.mpr (by omega))).2.2.1
    | exact (flt (x := y) (y := x) (fun r => by have := Int32.lt_iff_toInt_lt.mp r; omega)).2.2.2
    | exact (teq (x := x) (y := y) (Int32.toInt_inj.mp (by omega))).1
    | exact (feq (x := x) (y := y) (fun r => q (by rw [r]))).2
  · intro q
    first
    | exact (flt (x := x) (y := y) (fun r => by have := Int32.lt_iff_toInt_lt.mp r; omega)).1
    | exact (tlt (x := x) (y := y) (Int32.lt_iff_toInt_lt.mpr (by omega))).2.1
    | exact (flt (x := y) (y := x) (fun r => by have := Int32.lt_iff_toInt_lt.mp r; omega)).2.2.1
    | exact (tlt (x := y) (y := x) (Int32.lt_iff_toInt_lt.mpr (by omega))).2.2.2
    | exact (feq (x := x) (y := y) (fun r => q (by rw [r]))).1
    | exact (teq (x := x) (y := y) (Int32.toInt_inj.mp (by omega))).2
theorem w_icmp_ne (X : Stand p l e R s m args below meth c T locs cells slots) (hx : p.tables.exec = Jvm.exec) {x y : Int32} {o : Int} (A B : Int) (ha : x.toInt = A) (hb : y.toInt = B) (hd : decode c.code pc = .ok (.if_icmp .ne o, 3)) (pt pn : Nat) (h1 : ¬ A = B → Wk p e below Fe T (mkF m pt Ls S)) (h2 : A = B → Wk p e below Fe T (mkF m pn Ls S)) (ho : 0 ≤ (pc : Int) + o := by decide) (hp : ((pc : Int) + o).toNat = pt := by decide) (hn : pc + 3 = pn := by rfl) : Wk p e below Fe T (mkF m pc Ls (.int y :: .int x :: S)) := by
  subst hn
  by_cases q : ¬ A = B
  · exact (h1 q).step fun _ k => XS.icmpYes X.here hx rfl rfl hd rfl ((holds_ne ha hb).1 q) ho hp k
  · have q' : A = B := by omega
    exact (h2 q').step fun _ k => XS.icmpNo X.here hx rfl hd rfl ((holds_ne ha hb).2 q') k
theorem w_if_ne (X : Stand p l e R s m args below meth c T locs cells slots) (hx : p.tables.exec = Jvm.exec) {x : Int32} {o : Int} (A : Int) (ha : x.toInt = A) (hd : decode c.code pc = .ok (.ifCond .ne o, 3)) (pt pn : Nat) (h1 : ¬ A = 0 → Wk p e below Fe T (mkF m pt Ls S)) (h2 : A = 0 → Wk p e below Fe T (mkF m pn Ls S)) (ho : 0 ≤ (pc : Int) + o := by decide) (hp : ((pc : Int) + o).toNat = pt := by decide) (hn : pc + 3 = pn := by rfl) : Wk p e below Fe T (mkF m pc Ls (.int x :: S)) := by
  subst hn
  have hb : (0 : Int32).toInt = 0 := rfl
  by_cases q : ¬ A = 0
  · exact (h1 q).step fun _ k => XS.ifYes X.here hx rfl rfl hd rfl ((if0 _ _).trans ((holds_ne ha hb).1 q)) ho hp k
  · have q' : A = 0 := by omega
    exact (h2 q').step fun _ k => XS.ifNo X.here hx rfl hd rfl ((if0 _ _).trans ((holds_ne ha hb).2 q')) k
theorem holds_ge {x y : Int32} {A B : Int} (ha : x.toInt = A) (hb : y.toInt = B) : ((B ≤ A) → if_icmp.holds .ge x y = true) ∧ ((A < B) → if_icmp.holds .ge x y = false) := by
  subst ha hb
  constructor
  · intro q
    first
    | exact (tlt (x := x) (y := y) (Int32.lt_iff_toInt_lt.mpr (by omega))).1
    | exact (flt (x := x) (y := y) (fun r => by have := Int32.lt_iff_toInt_lt.mp r; omega)).2.1
    | exact (tlt (x := y) (y := x) (Int32.lt_iff_toInt_lt.mpr (by omega))).2.2.1
    | exact (flt (x := y) (y := x) (fun r => by have := Int32.lt_iff_toInt_lt.mp r; omega)).2.2.2
    | exact (teq (x := x) (y := y) (Int32.toInt_inj.mp (by omega))).1
    | exact (feq (x := x) (y := y) (fun r => q (by rw [r]))).2
  · intro q
    first
    | exact (flt (x := x) (y := y) (fun r => by have := Int32.lt_iff_toInt_lt.mp r; omega)).1
    | exact (tlt (x := x) (y := y) (Int32.lt_iff_toInt_lt.mpr (by omega))).2.1
    | exact (flt (x := y) (y := x) (fun r => by have := Int32.lt_iff_toInt_lt.mp r; omega)).2.2.1
    | exact (tlt (x := y) (y := x) (Int32.lt_iff_toInt_lt.mpr (by omega))).2.2.2
    | exact (feq (x := x) (y := y) (fun r => q (by rw [r]))).1
    | exact (teq (x := x) (y := y) (Int32.toInt_inj.mp (by omega))).2
theorem w_icmp_ge (X : Stand p l e R s m args below meth c T locs cells slots) (hx : p.tables.exec = Jvm.exec) {x y : Int32} {o : Int} (A B : Int) (ha : x.toInt = A) (hb : y.toInt = B) (hd : decode c.code pc = .ok (.if_icmp .ge o, 3)) (pt pn : Nat) (h1 : B ≤ A → Wk p e below Fe T (mkF m pt Ls S)) (h2 : A < B → Wk p e below Fe T (mkF m pn Ls S)) (ho : 0 ≤ (pc : Int) + o := by decide) (hp : ((pc : Int) + o).toNat = pt := by decide) (hn : pc + 3 = pn := by rfl) : Wk p e below Fe T (mkF m pc Ls (.int y :: .int x :: S)) := by
  subst hn
  by_cases q : B ≤ A
  · exact (h1 q).step fun _ k => XS.icmpYes X.here hx rfl rfl hd rfl ((holds_ge ha hb).1 q) ho hp k
  · have q' : A < B := by omega
    exact (h2 q').step fun _ k => XS.icmpNo X.here hx rfl hd rfl ((holds_ge ha hb).2 q') k
theorem w_retN (X : Stand p l e R s m args below meth c T locs cells slots) (hx : p.tables.exec = Jvm.exec) (hlocks : meth.locks = false) {t : FieldType} {z : Int32} (hret : meth.sig.returnType = some t) (ht : t = .boolean ∨ t = .byte ∨ t = .char ∨ t = .short) (hd : decode c.code pc = .ok (.ireturn, 1)) (hc : cells ≤ kc) (hs : slots ≤ ks) (hQ : Q (some (.int (nar t z))) T.heap locs) : Wk p e below (FN s Q kc ks) T (mkF m pc Ls (.int z :: S)) := by
  obtain ⟨fs, hr, hrun, hended, hW, hsame⟩ := X.leave (v := some (.int (nar t z))) (fun h => by rw [hret] at h; cases h) hlocks
  exact ⟨_, _, retN X hx hret ht hd hr, hrun, hended, _, _, rfl, hQ, ⟨_, rfl⟩, hW, hsame.mono hc hs⟩
theorem w_callS (X : Stand p l e R s m args below meth c T locs cells slots) (hx : p.tables.exec = Jvm.exec) (hZ : Z.Warmed39 s.vm) {own : String} {index : Nat} {y : MethodName} {bytes : ByteArray} {maxL : Nat} {ret : Option FieldType} {rm : Room} {as' : Array Value} {Qc : Option Value → Heap → List Loc → Prop} (hown : s.vm.findClass own = some m.cls) (eT : T.heap = h)
    (hM : MetFree l y (head1 [Cond.code y bytes maxL ret] rm) (fun a U => a = as' ∧ Z.Warmed39 U.vm ∧ U.heap = h) (fun _ _ _ _ _ => True) (fun _ U o U' => ∃ v L, o = .returned v ∧ Qc v U'.heap L ∧ FrameEnd U o U' L rm.cells rm.slots))
    (w1 : (Cond.methodLink own index y).before a0 Z = true) (w2 : (Cond.static y).before a0 Z = true) (w3 : (Cond.initialized y.cls).before a0 Z = true) (w4 : (Cond.code y bytes maxL ret).before a0 Z = true) (hy : y.cls ≠ "java/lang/invoke/MethodHandle" ∧ y.cls ≠ "java/lang/invoke/VarHandle")
    (hsize : Ls.size = c.maxLocals) (argsL rest : List Value) (hlen : ∀ sig, parseMethodDescriptor y.desc = some sig → argsL.length = sig.parameters.length) (hst : S = argsL.reverse ++ rest) (has : argsL.toArray = as')
    (hf : rm.frames + 1 ≤ R.frames) (W : Nat) (hW : (rest.map fun v => v.category).sum = W) (hl : W + (maxL + 11) + rm.locals ≤ R.locals) (hc : cells + rm.cells ≤ R.cells) (hs : slots + rm.slots ≤ R.slots) (hd : decode c.code pc = .ok (.invokestatic index, 3)) (pc' : Nat) (hp : pc + 3 = pc')
    (k : ∀ (v : Option Value) (T' : State) (L : List Loc), Stand p l e R s m args below meth c T' (locs ++ L) (cells + rm.cells) (slots + rm.slots) → Qc v T'.heap L → Wk p e below Fe T' (mkF m pc' Ls (v.toList ++ rest))) : Wk p e below Fe T (mkF m pc Ls S) := by
  subst hp hst has hW
  obtain ⟨v, _, ⟨T', L', k', n'⟩, -, X', ⟨Lc, q1, q2, q3, q4⟩, st⟩ := Jvm.LawKit.callS X hx hown (mvT hZ w1) (mvT hZ w2) (mvT hZ w3) (mvT hZ w4) hy (backOf hM hZ w4 w3 hf hl) (g := mkF m pc Ls (argsL.reverse ++ rest)) rfl hsize hlen rfl (by show 2 * 0 + _ ≤ _; rw [Nat.mul_zero, Nat.zero_add]; exact Nat.le_refl _) hd (fun _ _ => ⟨rfl, eT, hc, hs⟩)
  dsimp only [Pt.U, Pt.locs, Pt.cells, Pt.slots] at X' q2 q3 q4 st q1
  subst q2 q3 q4
  exact (k v T' Lc X' q1).step st
abbrev CT (l : Launch) (y : MethodName) (bytes : ByteArray) (maxL : Nat) (ret : Option FieldType) (ws : List Cond) (rm : Room) (as' : Array Value) (Z : State) (h0 : Heap) (Q : Option Value → Heap → List Loc → Prop) : Prop :=
  MetFree l y (head1 (Cond.code y bytes maxL ret :: ws) rm) (fun a U => a = as' ∧ Z.Warmed39 U.vm ∧ U.heap = h0) (fun _ _ _ _ _ => True) (fun _ U o U' => ∃ v L, o = .returned v ∧ Q v U'.heap L ∧ FrameEnd U o U' L rm.cells rm.slots)
theorem body_of {y : MethodName} {bytes : ByteArray} {maxL : Nat} {ret : Option FieldType} {ws : List Cond} {rm : Room} {as' : Array Value} {h0 : Heap} (hpl : plainFor y = true)
    (k : ∀ (p : Program) (e : Env) (s : State) (m : MethodId) (below : List Frame) (meth : Method) (c : Code) (s₁ : State), p.tables.exec = Jvm.exec → (∀ {pc : Nat} {r : Except DecodeError (Instr × Nat)}, decode bytes pc = r → decode c.code pc = r) → meth.sig.returnType = ret → meth.locks = false → c.maxLocals = maxL → s.vm.findClass y.cls = some m.cls → meth.name = y.name → Stand p l e rm s m as' below meth c s₁ [] 0 0 → s₁.heap = h0 → Z.Warmed39 s.vm → Wk p e below (FN s Q kc ks) s₁ (entryFrame m as' maxL)) :
    MetFree l y (head1 (Cond.code y bytes maxL ret :: ws) rm) (fun a U => a = as' ∧ Z.Warmed39 U.vm ∧ U.heap = h0) (fun _ _ _ _ _ => True) (fun _ U o U' => ∃ v L, o = .returned v ∧ Q v U'.heap L ∧ FrameEnd U o U' L kc ks) := by
  refine MetFree.of_bodySF hpl hisR ?_
  intro p e s m args below meth c s₁ Bd hml0 hP hK
  obtain ⟨rfl, hZ, hh⟩ := hP
  obtain ⟨s₂, o, h1, h2⟩ := k p e s m below meth c s₁ Bd.exec (fun q => hb Bd.bytes q) Bd.returns Bd.notSynchronized hml0 (findClass_of_methodNamed Bd.named) (name_of_methodNamed Bd.named Bd.method).1 (Stand.of_body Bd) (by rw [← hh, Bd.state]; rfl) hZ
  exact ⟨s₂, o, h1, h2⟩
end Walk
/-! plain facts on Int32 and Int64, in Ints -/
theorem addX {x y : Int32} {A B : Int} (ha : x.toInt = A) (hb : y.toInt = B) (h1 : -2147483648 ≤ A + B) (h2 : A + B < 2147483648) : (x + y).toInt = A + B := by
  have := c_iadd x y; have := rng32 (x + y); omega
theorem maskX {x m : Int32} {A : Int} (k : Nat) (ha : x.toInt = A) (hk : k ≤ 31) (hm : m.toBitVec.toNat = 2 ^ k - 1) : (x &&& m).toInt = A % (2 ^ k : Nat) := by subst ha; exact c_mask x m k hk hm
theorem iremX {x y : Int32} {A d : Int} (ha : x.toInt = A) (hy : y.toInt = d) (h0 : 0 ≤ A) : (x % y).toInt = A % d := by subst ha; exact (c_irem x y d hy).1 h0
theorem i2cE {x : Int32} {A : Int} (ha : x.toInt = A) (h0 : 0 ≤ A) (h1 : A < 65536) : x.toUInt32.toUInt16.toUInt32.toInt32.toInt = A := by
  have := c_i2c x; subst ha; omega
end Jvm.Own
namespace Jvm.Pilot.@@N@@
open Jvm Jvm.ClassFile Sem Op Lib Jvm.Free Jvm.Stand Jvm.LawKit Jvm.RoadKit Bundle Jvm.Own Jvm.Pilot.@@N@@.Jvm.D
abbrev cN_0 : String := "com/example/dryope/dryope/sdcl/SdclKey"
abbrev cN_1 : String := "com/example/dryope/dryope/sdcl/SdclKeyIsPartPinLaw"
theorem tw_0 {Z : State} {a0 : Array Value} (hw : ∀ d ∈ tables_1, d.before a0 Z = true) : (Jvm.Cond.constant "com/example/dryope/dryope/sdcl/SdclKeyIsPartPinLaw" (7 : Nat) (2147483647 : Int32)).before a0 Z = true := hw _ (List.mem_of_getElem? (i := 0) rfl)
theorem tw_1 {Z : State} {a0 : Array Value} (hw : ∀ d ∈ tables_1, d.before a0 Z = true) : (Jvm.Cond.methodLink "com/example/dryope/dryope/sdcl/SdclKeyIsPartPinLaw" (9 : Nat) ({ cls := "com/example/dryope/dryope/sdcl/SdclKey", name := "isPart", desc := "(C)Z" } : Jvm.MethodName)).before a0 Z = true := hw _ (List.mem_of_getElem? (i := 1) rfl)
theorem tw_2 {Z : State} {a0 : Array Value} (hw : ∀ d ∈ tables_1, d.before a0 Z = true) : (Jvm.Cond.static ({ cls := "com/example/dryope/dryope/sdcl/SdclKey", name := "isPart", desc := "(C)Z" } : Jvm.MethodName)).before a0 Z = true := hw _ (List.mem_of_getElem? (i := 2) rfl)
theorem tw_3 {Z : State} {a0 : Array Value} (hw : ∀ d ∈ tables_1, d.before a0 Z = true) : (Jvm.Cond.initialized "com/example/dryope/dryope/sdcl/SdclKey").before a0 Z = true := hw _ (List.mem_of_getElem? (i := 3) rfl)
theorem tw_4 {Z : State} {a0 : Array Value} (hw : ∀ d ∈ tables_1, d.before a0 Z = true) : (Jvm.Cond.code ({ cls := "com/example/dryope/dryope/sdcl/SdclKey", name := "isPart", desc := "(C)Z" } : Jvm.MethodName) prog_13_method_2_code (1 : Nat) (Option.some Jvm.ClassFile.FieldType.boolean)).before a0 Z = true := hw _ (List.mem_of_getElem? (i := 4) rfl)
theorem tw_5 {Z : State} {a0 : Array Value} (hw : ∀ d ∈ tables_1, d.before a0 Z = true) : (Jvm.Cond.methodLink "com/example/dryope/dryope/sdcl/SdclKeyIsPartPinLaw" (15 : Nat) ({ cls := "com/example/dryope/dryope/sdcl/SdclKeyIsPartPinLaw", name := "excluded", desc := "(I)Z" } : Jvm.MethodName)).before a0 Z = true := hw _ (List.mem_of_getElem? (i := 5) rfl)
theorem tw_6 {Z : State} {a0 : Array Value} (hw : ∀ d ∈ tables_1, d.before a0 Z = true) : (Jvm.Cond.static ({ cls := "com/example/dryope/dryope/sdcl/SdclKeyIsPartPinLaw", name := "excluded", desc := "(I)Z" } : Jvm.MethodName)).before a0 Z = true := hw _ (List.mem_of_getElem? (i := 6) rfl)
theorem tw_7 {Z : State} {a0 : Array Value} (hw : ∀ d ∈ tables_1, d.before a0 Z = true) : (Jvm.Cond.initialized "com/example/dryope/dryope/sdcl/SdclKeyIsPartPinLaw").before a0 Z = true := hw _ (List.mem_of_getElem? (i := 7) rfl)
theorem tw_8 {Z : State} {a0 : Array Value} (hw : ∀ d ∈ tables_1, d.before a0 Z = true) : (Jvm.Cond.code ({ cls := "com/example/dryope/dryope/sdcl/SdclKeyIsPartPinLaw", name := "excluded", desc := "(I)Z" } : Jvm.MethodName) method_2_code (1 : Nat) (Option.some Jvm.ClassFile.FieldType.boolean)).before a0 Z = true := hw _ (List.mem_of_getElem? (i := 8) rfl)
theorem tw_9 {Z : State} {a0 : Array Value} (hw : ∀ d ∈ tables_1, d.before a0 Z = true) : (Jvm.Cond.constant "com/example/dryope/dryope/sdcl/SdclKeyIsPartPinLaw" (8 : Nat) (65535 : Int32)).before a0 Z = true := hw _ (List.mem_of_getElem? (i := 9) rfl)
theorem d1_0 : decode prog_13_method_2_code 0 = .ok (.iload_n 0, 1) := by decide +kernel
theorem d1_1 : decode prog_13_method_2_code 1 = .ok (.bipush 32, 2) := by decide +kernel
theorem d1_3 : decode prog_13_method_2_code 3 = .ok (.if_icmp .eq 31, 3) := by decide +kernel
theorem d1_6 : decode prog_13_method_2_code 6 = .ok (.iload_n 0, 1) := by decide +kernel
theorem d1_7 : decode prog_13_method_2_code 7 = .ok (.bipush 9, 2) := by decide +kernel
theorem d1_9 : decode prog_13_method_2_code 9 = .ok (.if_icmp .eq 25, 3) := by decide +kernel
theorem d1_12 : decode prog_13_method_2_code 12 = .ok (.iload_n 0, 1) := by decide +kernel
theorem d1_13 : decode prog_13_method_2_code 13 = .ok (.bipush 10, 2) := by decide +kernel
theorem d1_15 : decode prog_13_method_2_code 15 = .ok (.if_icmp .eq 19, 3) := by decide +kernel
theorem d1_18 : decode prog_13_method_2_code 18 = .ok (.iload_n 0, 1) := by decide +kernel
theorem d1_19 : decode prog_13_method_2_code 19 = .ok (.bipush 13, 2) := by decide +kernel
theorem d1_21 : decode prog_13_method_2_code 21 = .ok (.if_icmp .eq 13, 3) := by decide +kernel
theorem d1_24 : decode prog_13_method_2_code 24 = .ok (.iload_n 0, 1) := by decide +kernel
theorem d1_25 : decode prog_13_method_2_code 25 = .ok (.bipush 58, 2) := by decide +kernel
theorem d1_27 : decode prog_13_method_2_code 27 = .ok (.if_icmp .eq 7, 3) := by decide +kernel
theorem d1_30 : decode prog_13_method_2_code 30 = .ok (.iconst 1, 1) := by decide +kernel
theorem d1_31 : decode prog_13_method_2_code 31 = .ok (.goto 4, 3) := by decide +kernel
theorem d1_34 : decode prog_13_method_2_code 34 = .ok (.iconst 0, 1) := by decide +kernel
theorem d1_35 : decode prog_13_method_2_code 35 = .ok (.ireturn, 1) := by decide +kernel
theorem pn_0 : plainName "com/example/dryope/dryope/sdcl/SdclKey" = true := by first | (simp [plainName, overriddenIn]; done) | decide +kernel
abbrev mN_1 : MethodName := ⟨"com/example/dryope/dryope/sdcl/SdclKey", "isPart", "(C)Z"⟩
theorem d2_0 : decode method_2_code 0 = .ok (.iload_n 0, 1) := by decide +kernel
theorem d2_1 : decode method_2_code 1 = .ok (.bipush 9, 2) := by decide +kernel
theorem d2_3 : decode method_2_code 3 = .ok (.if_icmp .ne 5, 3) := by decide +kernel
theorem d2_6 : decode method_2_code 6 = .ok (.iconst 1, 1) := by decide +kernel
theorem d2_7 : decode method_2_code 7 = .ok (.ireturn, 1) := by decide +kernel
theorem d2_8 : decode method_2_code 8 = .ok (.iload_n 0, 1) := by decide +kernel
theorem d2_9 : decode method_2_code 9 = .ok (.bipush 10, 2) := by decide +kernel
theorem d2_11 : decode method_2_code 11 = .ok (.if_icmp .ne 5, 3) := by decide +kernel
theorem d2_14 : decode method_2_code 14 = .ok (.iconst 1, 1) := by decide +kernel
theorem d2_15 : decode method_2_code 15 = .ok (.ireturn, 1) := by decide +kernel
theorem d2_16 : decode method_2_code 16 = .ok (.iload_n 0, 1) := by decide +kernel
theorem d2_17 : decode method_2_code 17 = .ok (.bipush 13, 2) := by decide +kernel
theorem d2_19 : decode method_2_code 19 = .ok (.if_icmp .ne 5, 3) := by decide +kernel
theorem d2_22 : decode method_2_code 22 = .ok (.iconst 1, 1) := by decide +kernel
theorem d2_23 : decode method_2_code 23 = .ok (.ireturn, 1) := by decide +kernel
theorem d2_24 : decode method_2_code 24 = .ok (.iload_n 0, 1) := by decide +kernel
theorem d2_25 : decode method_2_code 25 = .ok (.bipush 32, 2) := by decide +kernel
theorem d2_27 : decode method_2_code 27 = .ok (.if_icmp .ne 5, 3) := by decide +kernel
theorem d2_30 : decode method_2_code 30 = .ok (.iconst 1, 1) := by decide +kernel
theorem d2_31 : decode method_2_code 31 = .ok (.ireturn, 1) := by decide +kernel
theorem d2_32 : decode method_2_code 32 = .ok (.iload_n 0, 1) := by decide +kernel
theorem d2_33 : decode method_2_code 33 = .ok (.bipush 58, 2) := by decide +kernel
theorem d2_35 : decode method_2_code 35 = .ok (.if_icmp .ne 7, 3) := by decide +kernel
theorem d2_38 : decode method_2_code 38 = .ok (.iconst 1, 1) := by decide +kernel
theorem d2_39 : decode method_2_code 39 = .ok (.goto 4, 3) := by decide +kernel
theorem d2_42 : decode method_2_code 42 = .ok (.iconst 0, 1) := by decide +kernel
theorem d2_43 : decode method_2_code 43 = .ok (.ireturn, 1) := by decide +kernel
theorem pn_1 : plainName "com/example/dryope/dryope/sdcl/SdclKeyIsPartPinLaw" = true := by first | (simp [plainName, overriddenIn]; done) | decide +kernel
abbrev mN_2 : MethodName := ⟨"com/example/dryope/dryope/sdcl/SdclKeyIsPartPinLaw", "excluded", "(I)Z"⟩
theorem pd_0 : parseMethodDescriptor "(C)Z" = some ⟨[.char], some .boolean⟩ := by decide +kernel
theorem pd_1 : parseMethodDescriptor "(I)Z" = some ⟨[.int], some .boolean⟩ := by decide +kernel
theorem ef_1 (m : MethodId) (x0 : Int32) : entryFrame m #[(.int x0)] 1 = mkF m 0 #[.val (.int x0)] [] := by first | (simp [entryFrame, mkF, argsToLocals, Value.category]; done) | rfl
def Q1 (Z : State) (code : Int32) (h0 : Heap) (n0 : Nat) (v : Option Value) (h : Heap) (L : List Loc) : Prop := ∃ z : Int32, v = some (.int z) ∧ ((z.toInt = 1 ∧ (¬ (code.toInt = 9 ∨ code.toInt = 10 ∨ code.toInt = 13 ∨ code.toInt = 32 ∨ code.toInt = 58))) ∨ (z.toInt = 0 ∧ ¬ (¬ (code.toInt = 9 ∨ code.toInt = 10 ∨ code.toInt = 13 ∨ code.toInt = 32 ∨ code.toInt = 58)))) ∧ Fr n0 L ∧ h = h0
set_option maxRecDepth 65536 in
set_option maxHeartbeats 40000000 in
theorem rm1 (l : Launch) (Z : State) (a0 : Array Value) (hw : ∀ d ∈ tables_1, d.before a0 Z = true) (ws : List Jvm.Cond) (code : Int32) (h0 : Heap) (n0 : Nat) (Z0 : n0 ≤ h0.size) :
    CT l mN_1 prog_13_method_2_code 1 (some .boolean) ws ({ frames := 0, cells := 0, slots := 0, locals := 0 } : Room) #[(.int code)] Z h0 (Q1 Z code h0 n0) := by
  refine body_of (plainFor_of_name pn_0) ?_
  intro p e s m below meth c s₁ hx dB hret hlk hml hown0 hnm X0 e0 hZ
  have hown : s.vm.findClass cN_0 = some m.cls := hown0
  have N0 := Fr.nil n0
  rw [ef_1]
  show Wk p e below (FN s (Q1 Z code h0 n0) 0 0) s₁ (mkF m 0 #[.val (.int code)] [])
  have r_code := rng32 code
  refine w_iloadN X0 hx code (dB d1_0) 1 rfl rfl ?_
  refine w_bipush X0 hx (dB d1_1) 3 rfl (32 : Int32) (by decide) ?_
  refine w_icmp_eq X0 hx code.toInt 32 rfl (by decide) (dB d1_3) 34 6 (fun c1 => ?_) (fun c1 => ?_)
  ·refine w_iconst X0 hx (dB d1_34) 35 rfl (0 : Int32) (by decide) ?_
   refine w_retN X0 hx hlk (t := .boolean) hret (by simp) (dB d1_35) (by decide) (by decide) ?_
   rw [e0]
   exact ⟨(0 : Int32), rfl, by have hz : (0 : Int32).toInt = 0 := (by decide); omega, N0, rfl⟩
  ·refine w_iloadN X0 hx code (dB d1_6) 7 rfl rfl ?_
   refine w_bipush X0 hx (dB d1_7) 9 rfl (9 : Int32) (by decide) ?_
   refine w_icmp_eq X0 hx code.toInt 9 rfl (by decide) (dB d1_9) 34 12 (fun c2 => ?_) (fun c2 => ?_)
   ·refine w_iconst X0 hx (dB d1_34) 35 rfl (0 : Int32) (by decide) ?_
    refine w_retN X0 hx hlk (t := .boolean) hret (by simp) (dB d1_35) (by decide) (by decide) ?_
    rw [e0]
    exact ⟨(0 : Int32), rfl, by have hz : (0 : Int32).toInt = 0 := (by decide); omega, N0, rfl⟩
   ·refine w_iloadN X0 hx code (dB d1_12) 13 rfl rfl ?_
    refine w_bipush X0 hx (dB d1_13) 15 rfl (10 : Int32) (by decide) ?_
    refine w_icmp_eq X0 hx code.toInt 10 rfl (by decide) (dB d1_15) 34 18 (fun c3 => ?_) (fun c3 => ?_)
    ·refine w_iconst X0 hx (dB d1_34) 35 rfl (0 : Int32) (by decide) ?_
     refine w_retN X0 hx hlk (t := .boolean) hret (by simp) (dB d1_35) (by decide) (by decide) ?_
     rw [e0]
     exact ⟨(0 : Int32), rfl, by have hz : (0 : Int32).toInt = 0 := (by decide); omega, N0, rfl⟩
    ·refine w_iloadN X0 hx code (dB d1_18) 19 rfl rfl ?_
     refine w_bipush X0 hx (dB d1_19) 21 rfl (13 : Int32) (by decide) ?_
     refine w_icmp_eq X0 hx code.toInt 13 rfl (by decide) (dB d1_21) 34 24 (fun c4 => ?_) (fun c4 => ?_)
     ·refine w_iconst X0 hx (dB d1_34) 35 rfl (0 : Int32) (by decide) ?_
      refine w_retN X0 hx hlk (t := .boolean) hret (by simp) (dB d1_35) (by decide) (by decide) ?_
      rw [e0]
      exact ⟨(0 : Int32), rfl, by have hz : (0 : Int32).toInt = 0 := (by decide); omega, N0, rfl⟩
     ·refine w_iloadN X0 hx code (dB d1_24) 25 rfl rfl ?_
      refine w_bipush X0 hx (dB d1_25) 27 rfl (58 : Int32) (by decide) ?_
      refine w_icmp_eq X0 hx code.toInt 58 rfl (by decide) (dB d1_27) 34 30 (fun c5 => ?_) (fun c5 => ?_)
      ·refine w_iconst X0 hx (dB d1_34) 35 rfl (0 : Int32) (by decide) ?_
       refine w_retN X0 hx hlk (t := .boolean) hret (by simp) (dB d1_35) (by decide) (by decide) ?_
       rw [e0]
       exact ⟨(0 : Int32), rfl, by have hz : (0 : Int32).toInt = 0 := (by decide); omega, N0, rfl⟩
      ·refine w_iconst X0 hx (dB d1_30) 31 rfl (1 : Int32) (by decide) ?_
       refine w_goto X0 hx (dB d1_31) 35 ?_
       refine w_retN X0 hx hlk (t := .boolean) hret (by simp) (dB d1_35) (by decide) (by decide) ?_
       rw [e0]
       exact ⟨(1 : Int32), rfl, by have hz : (1 : Int32).toInt = 1 := (by decide); omega, N0, rfl⟩
theorem ef_2 (m : MethodId) (x0 : Int32) : entryFrame m #[(.int x0)] 1 = mkF m 0 #[.val (.int x0)] [] := by first | (simp [entryFrame, mkF, argsToLocals, Value.category]; done) | rfl
def Q2 (Z : State) (code : Int32) (h0 : Heap) (n0 : Nat) (v : Option Value) (h : Heap) (L : List Loc) : Prop := ∃ z : Int32, v = some (.int z) ∧ ((z.toInt = 1 ∧ (code.toInt = 9 ∨ code.toInt = 10 ∨ code.toInt = 13 ∨ code.toInt = 32 ∨ code.toInt = 58)) ∨ (z.toInt = 0 ∧ ¬ (code.toInt = 9 ∨ code.toInt = 10 ∨ code.toInt = 13 ∨ code.toInt = 32 ∨ code.toInt = 58))) ∧ Fr n0 L ∧ h = h0
set_option maxRecDepth 65536 in
set_option maxHeartbeats 40000000 in
theorem rm2 (l : Launch) (Z : State) (a0 : Array Value) (hw : ∀ d ∈ tables_1, d.before a0 Z = true) (ws : List Jvm.Cond) (code : Int32) (h0 : Heap) (n0 : Nat) (Z0 : n0 ≤ h0.size) :
    CT l mN_2 method_2_code 1 (some .boolean) ws ({ frames := 0, cells := 0, slots := 0, locals := 0 } : Room) #[(.int code)] Z h0 (Q2 Z code h0 n0) := by
  refine body_of (plainFor_of_name pn_1) ?_
  intro p e s m below meth c s₁ hx dB hret hlk hml hown0 hnm X0 e0 hZ
  have hown : s.vm.findClass cN_1 = some m.cls := hown0
  have N0 := Fr.nil n0
  rw [ef_2]
  show Wk p e below (FN s (Q2 Z code h0 n0) 0 0) s₁ (mkF m 0 #[.val (.int code)] [])
  have r_code := rng32 code
  refine w_iloadN X0 hx code (dB d2_0) 1 rfl rfl ?_
  refine w_bipush X0 hx (dB d2_1) 3 rfl (9 : Int32) (by decide) ?_
  refine w_icmp_ne X0 hx code.toInt 9 rfl (by decide) (dB d2_3) 8 6 (fun c6 => ?_) (fun c6 => ?_)
  ·refine w_iloadN X0 hx code (dB d2_8) 9 rfl rfl ?_
   refine w_bipush X0 hx (dB d2_9) 11 rfl (10 : Int32) (by decide) ?_
   refine w_icmp_ne X0 hx code.toInt 10 rfl (by decide) (dB d2_11) 16 14 (fun c7 => ?_) (fun c7 => ?_)
   ·refine w_iloadN X0 hx code (dB d2_16) 17 rfl rfl ?_
    refine w_bipush X0 hx (dB d2_17) 19 rfl (13 : Int32) (by decide) ?_
    refine w_icmp_ne X0 hx code.toInt 13 rfl (by decide) (dB d2_19) 24 22 (fun c8 => ?_) (fun c8 => ?_)
    ·refine w_iloadN X0 hx code (dB d2_24) 25 rfl rfl ?_
     refine w_bipush X0 hx (dB d2_25) 27 rfl (32 : Int32) (by decide) ?_
     refine w_icmp_ne X0 hx code.toInt 32 rfl (by decide) (dB d2_27) 32 30 (fun c9 => ?_) (fun c9 => ?_)
     ·refine w_iloadN X0 hx code (dB d2_32) 33 rfl rfl ?_
      refine w_bipush X0 hx (dB d2_33) 35 rfl (58 : Int32) (by decide) ?_
      refine w_icmp_ne X0 hx code.toInt 58 rfl (by decide) (dB d2_35) 42 38 (fun c10 => ?_) (fun c10 => ?_)
      ·refine w_iconst X0 hx (dB d2_42) 43 rfl (0 : Int32) (by decide) ?_
       refine w_retN X0 hx hlk (t := .boolean) hret (by simp) (dB d2_43) (by decide) (by decide) ?_
       rw [e0]
       exact ⟨(0 : Int32), rfl, by have hz : (0 : Int32).toInt = 0 := (by decide); omega, N0, rfl⟩
      ·refine w_iconst X0 hx (dB d2_38) 39 rfl (1 : Int32) (by decide) ?_
       refine w_goto X0 hx (dB d2_39) 43 ?_
       refine w_retN X0 hx hlk (t := .boolean) hret (by simp) (dB d2_43) (by decide) (by decide) ?_
       rw [e0]
       exact ⟨(1 : Int32), rfl, by have hz : (1 : Int32).toInt = 1 := (by decide); omega, N0, rfl⟩
     ·refine w_iconst X0 hx (dB d2_30) 31 rfl (1 : Int32) (by decide) ?_
      refine w_retN X0 hx hlk (t := .boolean) hret (by simp) (dB d2_31) (by decide) (by decide) ?_
      rw [e0]
      exact ⟨(1 : Int32), rfl, by have hz : (1 : Int32).toInt = 1 := (by decide); omega, N0, rfl⟩
    ·refine w_iconst X0 hx (dB d2_22) 23 rfl (1 : Int32) (by decide) ?_
     refine w_retN X0 hx hlk (t := .boolean) hret (by simp) (dB d2_23) (by decide) (by decide) ?_
     rw [e0]
     exact ⟨(1 : Int32), rfl, by have hz : (1 : Int32).toInt = 1 := (by decide); omega, N0, rfl⟩
   ·refine w_iconst X0 hx (dB d2_14) 15 rfl (1 : Int32) (by decide) ?_
    refine w_retN X0 hx hlk (t := .boolean) hret (by simp) (dB d2_15) (by decide) (by decide) ?_
    rw [e0]
    exact ⟨(1 : Int32), rfl, by have hz : (1 : Int32).toInt = 1 := (by decide); omega, N0, rfl⟩
  ·refine w_iconst X0 hx (dB d2_6) 7 rfl (1 : Int32) (by decide) ?_
   refine w_retN X0 hx hlk (t := .boolean) hret (by simp) (dB d2_7) (by decide) (by decide) ?_
   rw [e0]
   exact ⟨(1 : Int32), rfl, by have hz : (1 : Int32).toInt = 1 := (by decide); omega, N0, rfl⟩
theorem ef_0 (m : MethodId) (x0 : Int32) (x1 : Int32) : entryFrame m #[(.int x0), (.int x1)] maxLocals = mkF m 0 #[.val (.int x0), .val (.int x1), .unset, .unset, .unset, .unset] [] := by first | (simp [entryFrame, mkF, argsToLocals, Value.category, maxLocals]; done) | rfl
def Q0 (Z : State) (sel : Int32) (xx : Int32) (h0 : Heap) (n0 : Nat) (v : Option Value) (h : Heap) (L : List Loc) : Prop := v = some (.int 1) ∧ Fr n0 L
set_option maxRecDepth 65536 in
set_option maxHeartbeats 40000000 in
theorem rm0 (l : Launch) (Z : State) (a0 : Array Value) (hw : ∀ d ∈ tables_1, d.before a0 Z = true) (ws : List Jvm.Cond) (sel : Int32) (xx : Int32) (h0 : Heap) (n0 : Nat) (Z0 : n0 ≤ h0.size) :
    MetFree l x (head1 (Jvm.Cond.code x code maxLocals ret :: ws) room_1) (fun as_ U => as_ = #[(.int sel), (.int xx)] ∧ Z.Warmed39 U.vm ∧ U.heap = h0) (fun _ _ _ _ _ => True) (fun _ U o U' => ∃ v L, o = .returned v ∧ Q0 Z sel xx h0 n0 v U'.heap L ∧ FrameEnd U o U' L 0 0) := by
  refine body_of (plainFor_of_name pn_1) ?_
  intro p e s m below meth c s₁ hx dB hret hlk hml hown0 hnm X0 e0 hZ
  have hown : s.vm.findClass cN_1 = some m.cls := hown0
  have N0 := Fr.nil n0
  rw [ef_0]
  show Wk p e below (FN s (Q0 Z sel xx h0 n0) 0 0) s₁ (mkF m 0 #[.val (.int sel), .val (.int xx), .unset, .unset, .unset, .unset] [])
  have r_sel := rng32 sel
  have r_xx := rng32 xx
  refine w_iloadN X0 hx sel (dB at_0) 1 rfl rfl ?_
  refine w_ldc X0 hx hZ hown (tw_0 hw) (dB at_1) 3 rfl ?_
  obtain ⟨v11, e11⟩ : ∃ z : Int32, z = sel &&& (2147483647 : Int32) := ⟨_, rfl⟩
  have n11 : v11.toInt = sel.toInt % 2147483648 := by rw [e11]; exact maskX 31 rfl (by decide) (by decide)
  refine w_iand X0 hx (dB at_3) 4 rfl e11 ?_
  refine w_bipush X0 hx (dB at_4) 6 rfl (8 : Int32) (by decide) ?_
  obtain ⟨v12, e12⟩ : ∃ z : Int32, z = v11 % (8 : Int32) := ⟨_, rfl⟩
  have n12 : v12.toInt = v11.toInt % 8 := by rw [e12]; exact iremX rfl (by decide) (by omega)
  refine w_irem X0 hx (dB at_6) 7 rfl (by decide) e12 ?_
  refine w_istoreN X0 hx (dB at_7) 8 rfl #[.val (.int sel), .val (.int xx), .val (.int v12), .unset, .unset, .unset] rfl ?_
  have J13 : ∀ (j13_0 : Int32), (0 ≤ j13_0.toInt ∧ j13_0.toInt ≤ 65535 ∧ (v12.toInt < 5 → (j13_0.toInt = 9 ∨ j13_0.toInt = 10 ∨ j13_0.toInt = 13 ∨ j13_0.toInt = 32 ∨ j13_0.toInt = 58))) → Wk p e below (FN s (Q0 Z sel xx h0 n0) 0 0) s₁ (mkF m 84 #[.val (.int sel), .val (.int xx), .val (.int v12), .val (.int j13_0), .unset, .unset] []) := by
   intro j13_0 f13
   refine w_iloadN X0 hx j13_0 (dB at_84) 85 rfl rfl ?_
   refine w_callS X0 hx hZ hown e0 (rm1 l Z a0 hw [] j13_0 h0 n0 Z0 ) (tw_1 hw) (tw_2 hw) (tw_3 hw) (tw_4 hw) (by decide) (by rw [hml]; rfl) [(.int j13_0)] [] (lenOf pd_0 rfl) rfl rfl (by decide) 0 rfl (by decide) (by decide) (by decide) (dB at_85) 88 rfl (fun r14 T14 L14 X14 q14 => ?_)
   obtain ⟨z14, rfl, f14, Nq14, eq14⟩ := q14
   have N14 := Fr.app N0 Nq14
   dsimp only [Option.toList_some, Option.toList_none, List.cons_append, List.nil_append]
   refine w_istore X14 hx (dB at_88) 90 rfl #[.val (.int sel), .val (.int xx), .val (.int v12), .val (.int j13_0), .val (.int z14), .unset] rfl ?_
   refine w_iloadN X14 hx j13_0 (dB at_90) 91 rfl rfl ?_
   refine w_callS X14 hx hZ hown eq14 (rm2 l Z a0 hw [] j13_0 h0 n0 Z0 ) (tw_5 hw) (tw_6 hw) (tw_7 hw) (tw_8 hw) (by decide) (by rw [hml]; rfl) [(.int j13_0)] [] (lenOf pd_1 rfl) rfl rfl (by decide) 0 rfl (by decide) (by decide) (by decide) (dB at_91) 94 rfl (fun r15 T15 L15 X15 q15 => ?_)
   obtain ⟨z15, rfl, f15, Nq15, eq15⟩ := q15
   have N15 := Fr.app N14 Nq15
   dsimp only [Option.toList_some, Option.toList_none, List.cons_append, List.nil_append]
   refine w_if_ne X15 hx z15.toInt rfl (dB at_94) 101 97 (fun c16 => ?_) (fun c16 => ?_)
   ·refine w_iconst X15 hx (dB at_101) 102 rfl (0 : Int32) (by decide) ?_
    refine w_istore X15 hx (dB at_102) 104 rfl #[.val (.int sel), .val (.int xx), .val (.int v12), .val (.int j13_0), .val (.int z14), .val (.int (0 : Int32))] rfl ?_
    refine w_iloadN X15 hx v12 (dB at_104) 105 rfl rfl ?_
    refine w_iconst X15 hx (dB at_105) 106 rfl (5 : Int32) (by decide) ?_
    refine w_icmp_ge X15 hx v12.toInt 5 rfl (by decide) (dB at_106) 116 109 (fun c17 => ?_) (fun c17 => ?_)
    ·refine w_iload X15 hx z14 (dB at_116) 118 rfl rfl ?_
     refine w_iload X15 hx (0 : Int32) (dB at_118) 120 rfl rfl ?_
     refine w_icmp_ne X15 hx z14.toInt 0 rfl (by decide) (dB at_120) 127 123 (fun c18 => ?_) (fun c18 => ?_)
     ·refine w_iconst X15 hx (dB at_127) 128 rfl (0 : Int32) (by decide) ?_
      refine w_retN X15 hx hlk (t := .boolean) hret (by simp) (dB at_128) (by decide) (by decide) ?_
      rw [eq15]
      exfalso; omega
     ·refine w_iconst X15 hx (dB at_123) 124 rfl (1 : Int32) (by decide) ?_
      refine w_goto X15 hx (dB at_124) 128 ?_
      refine w_retN X15 hx hlk (t := .boolean) hret (by simp) (dB at_128) (by decide) (by decide) ?_
      rw [eq15]
      exact ⟨rfl, N15⟩
    ·refine w_iload X15 hx z14 (dB at_109) 111 rfl rfl ?_
     refine w_if_eq X15 hx z14.toInt rfl (dB at_111) 116 114 (fun c19 => ?_) (fun c19 => ?_)
     ·refine w_iload X15 hx z14 (dB at_116) 118 rfl rfl ?_
      refine w_iload X15 hx (0 : Int32) (dB at_118) 120 rfl rfl ?_
      refine w_icmp_ne X15 hx z14.toInt 0 rfl (by decide) (dB at_120) 127 123 (fun c20 => ?_) (fun c20 => ?_)
      ·exfalso; omega
      ·refine w_iconst X15 hx (dB at_123) 124 rfl (1 : Int32) (by decide) ?_
       refine w_goto X15 hx (dB at_124) 128 ?_
       refine w_retN X15 hx hlk (t := .boolean) hret (by simp) (dB at_128) (by decide) (by decide) ?_
       rw [eq15]
       exact ⟨rfl, N15⟩
     ·refine w_iconst X15 hx (dB at_114) 115 rfl (0 : Int32) (by decide) ?_
      refine w_retN X15 hx hlk (t := .boolean) hret (by simp) (dB at_115) (by decide) (by decide) ?_
      rw [eq15]
      exfalso; omega
   ·refine w_iconst X15 hx (dB at_97) 98 rfl (1 : Int32) (by decide) ?_
    refine w_goto X15 hx (dB at_98) 102 ?_
    refine w_istore X15 hx (dB at_102) 104 rfl #[.val (.int sel), .val (.int xx), .val (.int v12), .val (.int j13_0), .val (.int z14), .val (.int (1 : Int32))] rfl ?_
    refine w_iloadN X15 hx v12 (dB at_104) 105 rfl rfl ?_
    refine w_iconst X15 hx (dB at_105) 106 rfl (5 : Int32) (by decide) ?_
    refine w_icmp_ge X15 hx v12.toInt 5 rfl (by decide) (dB at_106) 116 109 (fun c21 => ?_) (fun c21 => ?_)
    ·refine w_iload X15 hx z14 (dB at_116) 118 rfl rfl ?_
     refine w_iload X15 hx (1 : Int32) (dB at_118) 120 rfl rfl ?_
     refine w_icmp_ne X15 hx z14.toInt 1 rfl (by decide) (dB at_120) 127 123 (fun c22 => ?_) (fun c22 => ?_)
     ·refine w_iconst X15 hx (dB at_127) 128 rfl (0 : Int32) (by decide) ?_
      refine w_retN X15 hx hlk (t := .boolean) hret (by simp) (dB at_128) (by decide) (by decide) ?_
      rw [eq15]
      exfalso; omega
     ·refine w_iconst X15 hx (dB at_123) 124 rfl (1 : Int32) (by decide) ?_
      refine w_goto X15 hx (dB at_124) 128 ?_
      refine w_retN X15 hx hlk (t := .boolean) hret (by simp) (dB at_128) (by decide) (by decide) ?_
      rw [eq15]
      exact ⟨rfl, N15⟩
    ·refine w_iload X15 hx z14 (dB at_109) 111 rfl rfl ?_
     refine w_if_eq X15 hx z14.toInt rfl (dB at_111) 116 114 (fun c23 => ?_) (fun c23 => ?_)
     ·refine w_iload X15 hx z14 (dB at_116) 118 rfl rfl ?_
      refine w_iload X15 hx (1 : Int32) (dB at_118) 120 rfl rfl ?_
      refine w_icmp_ne X15 hx z14.toInt 1 rfl (by decide) (dB at_120) 127 123 (fun c24 => ?_) (fun c24 => ?_)
      ·refine w_iconst X15 hx (dB at_127) 128 rfl (0 : Int32) (by decide) ?_
       refine w_retN X15 hx hlk (t := .boolean) hret (by simp) (dB at_128) (by decide) (by decide) ?_
       rw [eq15]
       exfalso; omega
      ·exfalso; omega
     ·refine w_iconst X15 hx (dB at_114) 115 rfl (0 : Int32) (by decide) ?_
      refine w_retN X15 hx hlk (t := .boolean) hret (by simp) (dB at_115) (by decide) (by decide) ?_
      rw [eq15]
      exfalso; omega
  refine w_iloadN X0 hx v12 (dB at_8) 9 rfl rfl ?_
  refine w_if_ne X0 hx v12.toInt rfl (dB at_9) 18 12 (fun c25 => ?_) (fun c25 => ?_)
  ·refine w_iloadN X0 hx v12 (dB at_18) 19 rfl rfl ?_
   refine w_iconst X0 hx (dB at_19) 20 rfl (1 : Int32) (by decide) ?_
   refine w_icmp_ne X0 hx v12.toInt 1 rfl (by decide) (dB at_20) 29 23 (fun c26 => ?_) (fun c26 => ?_)
   ·refine w_iloadN X0 hx v12 (dB at_29) 30 rfl rfl ?_
    refine w_iconst X0 hx (dB at_30) 31 rfl (2 : Int32) (by decide) ?_
    refine w_icmp_ne X0 hx v12.toInt 2 rfl (by decide) (dB at_31) 40 34 (fun c27 => ?_) (fun c27 => ?_)
    ·refine w_iloadN X0 hx v12 (dB at_40) 41 rfl rfl ?_
     refine w_iconst X0 hx (dB at_41) 42 rfl (3 : Int32) (by decide) ?_
     refine w_icmp_ne X0 hx v12.toInt 3 rfl (by decide) (dB at_42) 51 45 (fun c28 => ?_) (fun c28 => ?_)
     ·refine w_iloadN X0 hx v12 (dB at_51) 52 rfl rfl ?_
      refine w_iconst X0 hx (dB at_52) 53 rfl (4 : Int32) (by decide) ?_
      refine w_icmp_ne X0 hx v12.toInt 4 rfl (by decide) (dB at_53) 62 56 (fun c29 => ?_) (fun c29 => ?_)
      ·refine w_iloadN X0 hx v12 (dB at_62) 63 rfl rfl ?_
       refine w_iconst X0 hx (dB at_63) 64 rfl (5 : Int32) (by decide) ?_
       refine w_icmp_ne X0 hx v12.toInt 5 rfl (by decide) (dB at_64) 78 67 (fun c30 => ?_) (fun c30 => ?_)
       ·refine w_iloadN X0 hx xx (dB at_78) 79 rfl rfl ?_
        refine w_ldc X0 hx hZ hown (tw_9 hw) (dB at_79) 81 rfl ?_
        obtain ⟨v31, e31⟩ : ∃ z : Int32, z = xx &&& (65535 : Int32) := ⟨_, rfl⟩
        have n31 : v31.toInt = xx.toInt % 65536 := by rw [e31]; exact maskX 16 rfl (by decide) (by decide)
        refine w_iand X0 hx (dB at_81) 82 rfl e31 ?_
        obtain ⟨v32, e32⟩ : ∃ z : Int32, z = v31.toUInt32.toUInt16.toUInt32.toInt32 := ⟨_, rfl⟩
        have n32 : v32.toInt = v31.toInt := by rw [e32]; exact i2cE rfl (by omega) (by omega)
        refine w_i2c X0 hx (dB at_82) 83 rfl e32 ?_
        refine w_istoreN X0 hx (dB at_83) 84 rfl #[.val (.int sel), .val (.int xx), .val (.int v12), .val (.int v32), .unset, .unset] rfl ?_
        exact J13 v32 (by omega)
       ·refine w_iloadN X0 hx xx (dB at_67) 68 rfl rfl ?_
        refine w_bipush X0 hx (dB at_68) 70 rfl (127 : Int32) (by decide) ?_
        obtain ⟨v33, e33⟩ : ∃ z : Int32, z = xx &&& (127 : Int32) := ⟨_, rfl⟩
        have n33 : v33.toInt = xx.toInt % 128 := by rw [e33]; exact maskX 7 rfl (by decide) (by decide)
        refine w_iand X0 hx (dB at_70) 71 rfl e33 ?_
        refine w_iconst X0 hx (dB at_71) 72 rfl (0 : Int32) (by decide) ?_
        obtain ⟨v34, e34⟩ : ∃ z : Int32, z = v33 + (0 : Int32) := ⟨_, rfl⟩
        have n34 : v34.toInt = v33.toInt + 0 := by rw [e34]; exact addX rfl (by decide) (by omega) (by omega)
        refine w_iadd X0 hx (dB at_72) 73 rfl e34 ?_
        obtain ⟨v35, e35⟩ : ∃ z : Int32, z = v34.toUInt32.toUInt16.toUInt32.toInt32 := ⟨_, rfl⟩
        have n35 : v35.toInt = v34.toInt := by rw [e35]; exact i2cE rfl (by omega) (by omega)
        refine w_i2c X0 hx (dB at_73) 74 rfl e35 ?_
        refine w_istoreN X0 hx (dB at_74) 75 rfl #[.val (.int sel), .val (.int xx), .val (.int v12), .val (.int v35), .unset, .unset] rfl ?_
        refine w_goto X0 hx (dB at_75) 84 ?_
        exact J13 v35 (by omega)
      ·refine w_bipush X0 hx (dB at_56) 58 rfl (58 : Int32) (by decide) ?_
       refine w_istoreN X0 hx (dB at_58) 59 rfl #[.val (.int sel), .val (.int xx), .val (.int v12), .val (.int (58 : Int32)), .unset, .unset] rfl ?_
       refine w_goto X0 hx (dB at_59) 84 ?_
       exact J13 (58 : Int32) (by have hz1 : (58 : Int32).toInt = 58 := (by decide); omega)
     ·refine w_bipush X0 hx (dB at_45) 47 rfl (13 : Int32) (by decide) ?_
      refine w_istoreN X0 hx (dB at_47) 48 rfl #[.val (.int sel), .val (.int xx), .val (.int v12), .val (.int (13 : Int32)), .unset, .unset] rfl ?_
      refine w_goto X0 hx (dB at_48) 84 ?_
      exact J13 (13 : Int32) (by have hz1 : (13 : Int32).toInt = 13 := (by decide); omega)
    ·refine w_bipush X0 hx (dB at_34) 36 rfl (10 : Int32) (by decide) ?_
     refine w_istoreN X0 hx (dB at_36) 37 rfl #[.val (.int sel), .val (.int xx), .val (.int v12), .val (.int (10 : Int32)), .unset, .unset] rfl ?_
     refine w_goto X0 hx (dB at_37) 84 ?_
     exact J13 (10 : Int32) (by have hz1 : (10 : Int32).toInt = 10 := (by decide); omega)
   ·refine w_bipush X0 hx (dB at_23) 25 rfl (9 : Int32) (by decide) ?_
    refine w_istoreN X0 hx (dB at_25) 26 rfl #[.val (.int sel), .val (.int xx), .val (.int v12), .val (.int (9 : Int32)), .unset, .unset] rfl ?_
    refine w_goto X0 hx (dB at_26) 84 ?_
    exact J13 (9 : Int32) (by have hz1 : (9 : Int32).toInt = 9 := (by decide); omega)
  ·refine w_bipush X0 hx (dB at_12) 14 rfl (32 : Int32) (by decide) ?_
   refine w_istoreN X0 hx (dB at_14) 15 rfl #[.val (.int sel), .val (.int xx), .val (.int v12), .val (.int (32 : Int32)), .unset, .unset] rfl ?_
   refine w_goto X0 hx (dB at_15) 84 ?_
   exact J13 (32 : Int32) (by have hz1 : (32 : Int32).toInt = 32 := (by decide); omega)
set_option maxRecDepth 65536 in
set_option maxHeartbeats 40000000 in
theorem comes_1 {Post : Tables → Env → Array Value → State → Outcome → State → Prop} (hpost : ∀ tb e args s v u, (limb_1_1.after args s (.returned v) u = true ∧ limb_1_2.after args s (.returned v) u = true ∧ True) → FrameEnd s (.returned v) u (Jvm.fieldLocs frame_1_writes args s ++ Jvm.arrayLocs frame_1_arrays args s ++ Jvm.staticLocs frame_1_statics s) 0 0 → Post tb e args s (.returned v) u) :
    ArmFor flags0 classFile x code maxLocals ret World_1 tables_1 room_1 Calls_1 rest_1 Pre_1 Post := by
  intro l hfl _ _ p e ha hc hk s m args below hf hA hF happ hP
  obtain ⟨hcalls, hrest, hpre⟩ := hP
  obtain ⟨-, -, -, hnamed, -, -, -, hat⟩ := (Spec.applies_iff hf).mp happ
  obtain ⟨hg, hn⟩ := and_e (Cond.before_iff.mp (show (Jvm.Cond.and given_1 narrow_1).before args s = true from hpre))
  obtain ⟨gg1, gg2⟩ := and_e hg
  obtain ⟨gg3, gg4⟩ := and_e gg2
  obtain ⟨w0, w1, rfl⟩ : ∃ w0 w1 : Value, args = #[w0, w1] := by
    have hs : args.size = 2 := by simpa [Cond.value, given_1] using gg1
    obtain ⟨L⟩ := args
    match L, hs with
    | [w0, w1], _ => exact ⟨w0, w1, rfl⟩
  have hw := fun d (hd : d ∈ tables_1) => atoms_spec (ws := Jvm.Cond.code x code maxLocals ret :: tables_1) hat d (List.mem_cons_of_mem _ hd)
  have hfit : Fit s := fun {y c} hc i hi => by
    obtain ⟨ha, rfl⟩ := Array.getElem?_eq_some_iff.mp hc
    have q := List.all_eq_true.mp ((Array.all_eq_true_iff_forall_mem.mp hF) _ (Array.getElem_mem ha)) i (List.mem_range.mpr hi)
    simpa [Array.getElem?_eq_getElem hi] using q
  obtain ⟨i0, ei0⟩ := is_v gg3
  obtain rfl : w0 = (.int i0) := Option.some.inj ei0
  obtain ⟨i1, ei1⟩ := is_v gg4
  obtain rfl : w1 = (.int i1) := Option.some.inj ei1
  obtain ⟨n, o, h1, h2, h3, _, L, rfl, ⟨rfl, N⟩, hq⟩ := rm0 l s _ hw tables_1 i0 i1 s.heap s.heap.size (Nat.le_refl _) p e ha hc hk s m _ below hf ((Spec.applies_iff_loose hf).mp happ).1 ⟨rfl, State.Warmed39.refl s, rfl⟩ trivial
  refine ⟨n, _, h1, h2, h3, hpost _ _ _ _ _ _ ⟨Cond.after_iff.mpr rfl, Cond.after_iff.mpr (eq_i res_at (Term.int_eval (1)) rfl), trivial⟩ ⟨hq.1, hq.2.1, (hq.2.2.sift fun y hy => Or.inr (N y hy)).mono (by decide) (by decide)⟩⟩
theorem main_1_1 : Claimed_1_1 := comes_1 fun _ _ _ _ _ _ h hF => ⟨h.1, hF⟩
theorem main_1_2 : Claimed_1_2 := comes_1 fun _ _ _ _ _ _ h hF => ⟨h.2.1, hF⟩
end Jvm.Pilot.@@N@@
namespace Jvm.Pilot.@@N@@
open Jvm Jvm.ClassFile Sem Op Lib Jvm.Free Jvm.Stand Jvm.Pilot.@@N@@.Jvm.D
/-! MADE BY PROGRAM (witnessworld.py) out of the Statement's table words and the real class files: 9 classes; the members and pool entries that the words name. The judged class is class 1, her method 2. -/
namespace start1
open Jvm.ClassFile
def u (s : String) : CpInfo := .utf8 (stringToUtf16 s)
/-- a pool by its gaps: so many unusable entries, then the entry; so many at the end -/
def gap : Nat → List CpInfo → List CpInfo
  | 0, r => r
  | n + 1, r => .unusable :: gap n r
def poolList (es : List (Nat × CpInfo)) (last : Nat) : List CpInfo := es.foldr (fun e r => gap e.1 (e.2 :: r)) (gap last [])
def pool (es : List (Nat × CpInfo)) (last : Nat) : Array CpInfo := ⟨poolList es last⟩
def fileOf (pool : Array CpInfo) (this : Nat) (attrs : Array Attribute := #[]) (ms : Array MethodInfo := #[]) (fl : Nat := 33) (sup : Nat := 0) (ifs : Array Nat := #[]) (fds : Array FieldInfo := #[]) : ClassFile where
  minorVersion := 0
  majorVersion := 65
  constantPool := pool
  accessFlags := fl
  thisClass := this
  superClass := sup
  interfaces := ifs
  fields := fds
  methods := ms
  attributes := attrs
def plain (name : String) (sup : Option ClassId) : Class where
  name := name
  kind := .ordinary
  loader := none
  accessFlags := 33
  super := sup
  interfaces := #[]
  cf := none
  fields := #[]
  methods := #[]
  instanceTypes := #[]
  staticTypes := #[]
  resolved := #[]
  callSites := []
  init := .initialized
  statics := none
  mirror := none

def pool0 : Array CpInfo := pool [(5, u "<init>"), (0, u "()V"), (1, .class_ 10), (1, u "java/lang/Object")] 113

def k0m0 : Method := { name := "<init>", desc := "()V", sig := { parameters := [], returnType := none }, accessFlags := 1, code := none }
/-- java/lang/Object -/
def k0 : Class := { plain "java/lang/Object" none with
  accessFlags := 33
  interfaces := #[]
  cf := some (fileOf pool0 8 #[] #[{ accessFlags := 1, nameIndex := 5, descriptorIndex := 6, attributes := #[] }] 33 0 #[] #[])
  fields := #[]
  methods := #[k0m0]
  instanceTypes := #[]
  staticTypes := #[]
  resolved := Array.replicate 124 none
  statics := none }

def pool1 : Array CpInfo := pool [(2, .class_ 4), (1, u "java/lang/Object"), (0, u "<init>"), (0, u "()V"), (0, .integer 2147483647), (0, .integer 65535), (0, .methodref 10 11), (0, .class_ 12), (0, .nameAndType 13 14), (0, u "com/example/dryope/dryope/sdcl/SdclKey"), (0, u "isPart"), (0, u "(C)Z"), (0, .methodref 16 17), (0, .class_ 18), (0, .nameAndType 19 20), (0, u "com/example/dryope/dryope/sdcl/SdclKeyIsPartPinLaw"), (0, u "excluded"), (0, u "(I)Z"), (3, u "law"), (0, u "(II)Z")] 2

def k1m0 : Method := { name := "<init>", desc := "()V", sig := { parameters := [], returnType := none }, accessFlags := 2, code := none }
def k1c1 : Code := { maxStack := 2, maxLocals := 1, code := method_2_code, exceptionTable := #[], attributes := #[] }
def k1m1 : Method := { name := "excluded", desc := "(I)Z", sig := { parameters := [.int], returnType := some .boolean }, accessFlags := 10, code := some k1c1 }
def k1c2 : Code := { maxStack := 2, maxLocals := 6, code := code, exceptionTable := #[], attributes := #[] }
def k1m2 : Method := { name := "law", desc := "(II)Z", sig := { parameters := [.int, .int], returnType := some .boolean }, accessFlags := 9, code := some k1c2 }
/-- com/example/dryope/dryope/sdcl/SdclKeyIsPartPinLaw -/
def k1 : Class := { plain "com/example/dryope/dryope/sdcl/SdclKeyIsPartPinLaw" (some 0) with
  accessFlags := 49
  interfaces := #[]
  cf := some (fileOf pool1 16 #[] #[{ accessFlags := 2, nameIndex := 5, descriptorIndex := 6, attributes := #[] }, { accessFlags := 10, nameIndex := 19, descriptorIndex := 20, attributes := #[] }, { accessFlags := 9, nameIndex := 24, descriptorIndex := 25, attributes := #[] }] 49 2 #[] #[])
  fields := #[]
  methods := #[k1m0, k1m1, k1m2]
  instanceTypes := #[]
  staticTypes := #[]
  resolved := Array.replicate 28 none
  statics := none }

def pool2 : Array CpInfo := pool [(2, .class_ 4), (1, u "java/lang/Object"), (0, u "<init>"), (0, u "()V"), (17, .class_ 26), (1, u "com/example/dryope/dryope/sdcl/SdclKey"), (0, u "isPart"), (0, u "(C)Z")] 52

def k2m0 : Method := { name := "<init>", desc := "()V", sig := { parameters := [], returnType := none }, accessFlags := 2, code := none }
def k2c1 : Code := { maxStack := 2, maxLocals := 1, code := prog_13_method_2_code, exceptionTable := #[], attributes := #[] }
def k2m1 : Method := { name := "isPart", desc := "(C)Z", sig := { parameters := [.char], returnType := some .boolean }, accessFlags := 8, code := some k2c1 }
/-- com/example/dryope/dryope/sdcl/SdclKey -/
def k2 : Class := { plain "com/example/dryope/dryope/sdcl/SdclKey" (some 0) with
  accessFlags := 48
  interfaces := #[]
  cf := some (fileOf pool2 24 #[] #[{ accessFlags := 2, nameIndex := 5, descriptorIndex := 6, attributes := #[] }, { accessFlags := 8, nameIndex := 27, descriptorIndex := 28, attributes := #[] }] 48 2 #[] #[])
  fields := #[]
  methods := #[k2m0, k2m1]
  instanceTypes := #[]
  staticTypes := #[]
  resolved := Array.replicate 81 none
  statics := none }

def pool3 : Array CpInfo := pool [(1, u "java/lang/Cloneable"), (0, .class_ 1), (0, u "java/lang/Object"), (0, .class_ 3)] 3

/-- java/lang/Cloneable -/
def k3 : Class := { plain "java/lang/Cloneable" (some 0) with
  accessFlags := 1537
  interfaces := #[]
  cf := some (fileOf pool3 2 #[] #[] 1537 4 #[] #[])
  fields := #[]
  methods := #[]
  instanceTypes := #[]
  staticTypes := #[]
  resolved := Array.replicate 8 none
  statics := none }

def pool4 : Array CpInfo := pool [(1, u "java/io/Serializable"), (0, .class_ 1), (0, u "java/lang/Object"), (0, .class_ 3)] 3

/-- java/io/Serializable -/
def k4 : Class := { plain "java/io/Serializable" (some 0) with
  accessFlags := 1537
  interfaces := #[]
  cf := some (fileOf pool4 2 #[] #[] 1537 4 #[] #[])
  fields := #[]
  methods := #[]
  instanceTypes := #[]
  staticTypes := #[]
  resolved := Array.replicate 8 none
  statics := none }

/-- the primitive byte -/
def k5 : Class := { plain "byte" none with kind := .primitive 'B', accessFlags := 0x411 }
/-- [B -/
def k6 : Class := { plain "[B" (some 0) with kind := .array 5 .byte, interfaces := #[3, 4], accessFlags := 1041 }

/-- the primitive int -/
def k7 : Class := { plain "int" none with kind := .primitive 'I', accessFlags := 0x411 }
/-- [I -/
def k8 : Class := { plain "[I" (some 0) with kind := .array 7 .int, interfaces := #[3, 4], accessFlags := 1041 }

def heap : Heap := #[]
def classes : Array Class := #[k0, k1, k2, k3, k4, k5, k6, k7, k8]
def interned : List (Array UInt16 × Addr) := []
def slotsUsed : Nat := 0
def theMethod : MethodId := ⟨1, 2⟩
def args0 : Array Value := #[.int 5, .int 6]
def aboutOver (below : List Frame) : State where
  vm := { classes := classes, interned := interned.toArray }
  heap := heap
  slotsUsed := slotsUsed
  threads := #[{ frames := .invoking theMethod args0 :: below }]
def below0 : List Frame := [.native { method := ⟨0, 0⟩, args := #[] }]
def about1 : State := aboutOver below0
def p0 : Program := .bare "" "" ""
def e0 : Env := launch0.env 0 0 0
theorem w_frames : about1.frames = Frame.invoking theMethod args0 :: below0 := rfl
set_option maxRecDepth 65536 in
theorem w_args : argsFit about1.vm theMethod args0 = true := by decide +kernel
set_option maxRecDepth 65536 in
theorem w_heap : heapFits about1 = true := by decide +kernel
set_option maxRecDepth 65536 in
theorem w_runnable : about1.curStatus? = some .runnable := by decide +kernel
set_option maxRecDepth 65536 in
theorem w_alone : about1.alone = true := by decide +kernel
set_option maxRecDepth 65536 in
theorem w_named : about1.methodNamed? x = some theMethod := by decide +kernel
set_option maxRecDepth 65536 in
theorem w_hears : about1.hears theMethod below0 = true := by decide +kernel
set_option maxRecDepth 65536 in
theorem w_ripe : about1.ripe theMethod args0 below0 = true := by decide +kernel
theorem w_running : about1.status = .running := rfl
set_option maxRecDepth 65536 in
theorem w_room : about1.hasRoom e0.platform room_1 = true :=
  launch0.hasRoom_least _ room_1 (by decide +kernel) (by decide +kernel) (by decide +kernel) (by decide +kernel) (by decide +kernel) (by decide +kernel)
theorem allAtoms_all (ts : List Jvm.Cond) (a : Array Jvm.Value) (st : Jvm.State) : (allAtoms ts).before a st = ts.all (fun c => c.before a st) := by
  induction ts with
  | nil => rfl
  | cons c t ih =>
    show (Jvm.Cond.and c (allAtoms t)).before a st = _
    rw [Jvm.Cond.before_and, ih, List.all_cons]
def words1 : List Jvm.Cond := Jvm.Cond.code x code maxLocals ret :: tables_1
/-- a 'code' word, met by the world's own term for the bytes: nothing is compared byte by byte -/
theorem code_word {y : MethodName} {bytes : ByteArray} {mx : Nat} {rt : Option FieldType} {a : Array Value} {s : State} {m : MethodId} {meth : Method} {c : Code} (h1 : s.methodNamed? y = some m) (h2 : s.vm.method? m = some meth) (h3 : meth.code = some c) (h4 : c.code = bytes)
    (h5 : (c.maxLocals == mx && c.exceptionTable.isEmpty && decide (c.maxStack ≤ mostOperands) && decide (meth.sig.returnType = rt) && !meth.locks && decide (parseMethodDescriptor y.desc = some meth.sig)) = true) : (Jvm.Cond.code y bytes mx rt).before a s = true := by
  simp only [Bool.and_eq_true, beq_iff_eq, Bool.not_eq_true', decide_eq_true_eq] at h5
  obtain ⟨⟨⟨⟨⟨g1, g2⟩, g3⟩, g4⟩, g5⟩, g6⟩ := h5
  simp [Cond.before, Cond.holds, Cond.value, h1, h2, h3, h4, g1, g2, g3, g4, g5, g6]
def isCode : Jvm.Cond → Bool
  | .code _ _ _ _ => true
  | _ => false
theorem all_split {L : List Jvm.Cond} {P : Jvm.Cond → Bool} (h1 : L.all (fun c => isCode c || P c) = true) (h2 : ∀ c ∈ L.filter isCode, P c = true) : L.all P = true := by
  refine List.all_eq_true.mpr fun c hc => ?_
  have h := List.all_eq_true.mp h1 c hc
  rcases Bool.eq_false_or_eq_true (isCode c) with hi | hi
  · exact h2 c (List.mem_filter.mpr ⟨hc, hi⟩)
  · simpa [hi] using h
set_option maxRecDepth 65536 in
theorem w_c0 : (Jvm.Cond.code x code maxLocals ret).before args0 about1 = true := code_word (m := ⟨1, 2⟩) (meth := k1m2) (c := k1c2) (by decide +kernel) rfl rfl rfl (by decide +kernel)
set_option maxRecDepth 65536 in
theorem w_c1 : (Jvm.Cond.code ({ cls := "com/example/dryope/dryope/sdcl/SdclKey", name := "isPart", desc := "(C)Z" } : Jvm.MethodName) prog_13_method_2_code (1 : Nat) (Option.some Jvm.ClassFile.FieldType.boolean)).before args0 about1 = true := code_word (m := ⟨2, 1⟩) (meth := k2m1) (c := k2c1) (by decide +kernel) rfl rfl rfl (by decide +kernel)
set_option maxRecDepth 65536 in
theorem w_c2 : (Jvm.Cond.code ({ cls := "com/example/dryope/dryope/sdcl/SdclKeyIsPartPinLaw", name := "excluded", desc := "(I)Z" } : Jvm.MethodName) method_2_code (1 : Nat) (Option.some Jvm.ClassFile.FieldType.boolean)).before args0 about1 = true := code_word (m := ⟨1, 1⟩) (meth := k1m1) (c := k1c1) (by decide +kernel) rfl rfl rfl (by decide +kernel)
def codes1 : List Jvm.Cond := [Jvm.Cond.code x code maxLocals ret, Jvm.Cond.code ({ cls := "com/example/dryope/dryope/sdcl/SdclKey", name := "isPart", desc := "(C)Z" } : Jvm.MethodName) prog_13_method_2_code (1 : Nat) (Option.some Jvm.ClassFile.FieldType.boolean), Jvm.Cond.code ({ cls := "com/example/dryope/dryope/sdcl/SdclKeyIsPartPinLaw", name := "excluded", desc := "(I)Z" } : Jvm.MethodName) method_2_code (1 : Nat) (Option.some Jvm.ClassFile.FieldType.boolean)]
set_option maxRecDepth 65536 in
theorem codes_eq : words1.filter isCode = codes1 := rfl
theorem w_codes : ∀ c ∈ words1.filter isCode, c.before args0 about1 = true := by
  rw [codes_eq]
  intro c hc
  simp only [codes1, List.mem_cons, List.not_mem_nil, or_false] at hc
  rcases hc with rfl | rfl | rfl
  · exact w_c0
  · exact w_c1
  · exact w_c2
set_option maxRecDepth 65536 in
theorem w_t1 : words1.all (fun c => isCode c || c.before args0 about1) = true := by decide +kernel
theorem w_tables : (allAtoms (Jvm.Cond.code x code maxLocals ret :: tables_1)).before args0 about1 = true := by
  rw [allAtoms_all]
  show words1.all (fun c => c.before args0 about1) = true
  refine all_split ?_ w_codes
  rw [w_t1]
set_option maxRecDepth 65536 in
theorem w_case : (Jvm.Cond.and given_1 narrow_1).before args0 about1 = true := by decide +kernel
theorem w_applies : (headSpec (Jvm.Cond.code x code maxLocals ret :: tables_1) room_1).applies x e0.platform about1 = true :=
  (Spec.applies_iff w_frames).mpr ⟨w_running, w_runnable, w_alone, w_named, w_hears, w_ripe, w_room, w_tables⟩
theorem atStart : AtStart classFile x code maxLocals ret World_1 tables_1 room_1 Calls_1 rest_1 Pre_1 launch0 p0 e0 about1 theMethod args0 below0 :=
  ⟨lists_1, trivial, launch0.admits_env _ _ _, launch0.least_env, fairChoices_fair.cas, fairChoices_fair.clock, w_frames, w_args, w_heap, w_applies, trivial, trivial, w_case⟩
end start1
theorem witness_1 : WitnessClaimed_1 := ⟨start1.p0, start1.e0, start1.about1, start1.theMethod, start1.args0, start1.below0, start1.atStart⟩
end Jvm.Pilot.@@N@@
