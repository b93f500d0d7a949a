import JvmDerived
import JvmDerived.Pilot.@@N@@Statement
import JvmDerived.Pilot.@@N@@Code
set_option linter.unusedVariables false
set_option linter.unusedSimpArgs false
namespace Jvm.Own
open Sem ClassFile Op Lib Jvm.Stand Jvm.Free Jvm.LawKit Jvm.RoadKit
/-- from here the run goes on to a return that the contract allows -/
def Wk (p : Program) (e : Env) (below : List Frame) (F : Outcome → State → Prop) (T : State) (g : JFrame) : Prop :=
  ∃ s₂ o, Steps p.tables e below (T.setTop g) s₂ ∧ s₂.status = .running ∧ Ended s₂ below o ∧ F o s₂
abbrev FN (s : State) (Q : Option Value → Heap → List Loc → Prop) (kc ks : Nat) : Outcome → State → Prop := fun o s₂ => ∃ v L, o = .returned v ∧ Q v s₂.heap L ∧ FrameEnd s o s₂ L kc ks
section Walk
variable {p : Program} {l : Launch} {e : Env} {R : Room} {s : State} {m : MethodId} {args : Array Value} {below : List Frame} {meth : Method} {c : Code} {T : State} {locs : List Loc} {cells slots : Nat} {Q : Option Value → Heap → List Loc → Prop} {Fe : Outcome → State → Prop} {kc ks pc : Nat} {Ls : Array Slot} {S : List Value} {Z : State} {a0 : Array Value} {h : Heap}
theorem Wk.step {T' : State} {g g' : JFrame} (h : Wk p e below Fe T' g') (st : ∀ t, Steps p.tables e below (T'.setTop g') t → Steps p.tables e below (T.setTop g) t) : Wk p e below Fe T g := by
  obtain ⟨s₂, o, h1, h2⟩ := h
  exact ⟨s₂, o, st _ h1, h2⟩
theorem Wk.come {T' : State} {g g' : JFrame} (h : Wk p e below Fe T' g') (st : Steps p.tables e below (T.setTop g) (T'.setTop g')) : Wk p e below Fe T g := h.step fun _ k => st.trans k
theorem w_iload (X : Stand p l e R s m args below meth c T locs cells slots) (hx : p.tables.exec = Jvm.exec) {k : Nat} (v : Int32) (hd : decode c.code pc = .ok (.iload k, 2)) (pc' : Nat) (hp : pc + 2 = pc') (hl : Ls[k]? = some (.val (.int v))) (h : Wk p e below Fe T (mkF m pc' Ls (.int v :: S))) : Wk p e below Fe T (mkF m pc Ls S) := by
  subst hp; exact h.step fun _ k => XS.iload X.here hx rfl hd hl k
theorem w_iloadN (X : Stand p l e R s m args below meth c T locs cells slots) (hx : p.tables.exec = Jvm.exec) {k : Fin 4} (v : Int32) (hd : decode c.code pc = .ok (.iload_n k, 1)) (pc' : Nat) (hp : pc + 1 = pc') (hl : Ls[k.val]? = some (.val (.int v))) (h : Wk p e below Fe T (mkF m pc' Ls (.int v :: S))) : Wk p e below Fe T (mkF m pc Ls S) := by
  subst hp; exact h.step fun _ k => XS.iloadN X.here hx rfl hd hl k
theorem w_aload (X : Stand p l e R s m args below meth c T locs cells slots) (hx : p.tables.exec = Jvm.exec) {k : Nat} (v : Value) (hd : decode c.code pc = .ok (.aload k, 2)) (pc' : Nat) (hp : pc + 2 = pc') (hl : Ls[k]? = some (.val v)) (hv : v.isRef = true) (h : Wk p e below Fe T (mkF m pc' Ls (v :: S))) : Wk p e below Fe T (mkF m pc Ls S) := by
  subst hp; exact h.step fun _ k => XS.aload X.here hx rfl hd hl hv k
theorem w_aloadN (X : Stand p l e R s m args below meth c T locs cells slots) (hx : p.tables.exec = Jvm.exec) {k : Fin 4} (v : Value) (hd : decode c.code pc = .ok (.aload_n k, 1)) (pc' : Nat) (hp : pc + 1 = pc') (hl : Ls[k.val]? = some (.val v)) (hv : v.isRef = true) (h : Wk p e below Fe T (mkF m pc' Ls (v :: S))) : Wk p e below Fe T (mkF m pc Ls S) := by
  subst hp; exact h.step fun _ k => XS.aloadN X.here hx rfl hd hl hv k
theorem w_istore (X : Stand p l e R s m args below meth c T locs cells slots) (hx : p.tables.exec = Jvm.exec) {k : Nat} {x : Int32} (hd : decode c.code pc = .ok (.istore k, 2)) (pc' : Nat) (hp : pc + 2 = pc') (l' : Array Slot) (hl : storeLocals Ls k (.int x) = some l') (h : Wk p e below Fe T (mkF m pc' l' S)) : Wk p e below Fe T (mkF m pc Ls (.int x :: S)) := by
  subst hp; exact h.step fun _ k => XS.istore X.here hx rfl hd rfl hl k
theorem w_istoreN (X : Stand p l e R s m args below meth c T locs cells slots) (hx : p.tables.exec = Jvm.exec) {k : Fin 4} {x : Int32} (hd : decode c.code pc = .ok (.istore_n k, 1)) (pc' : Nat) (hp : pc + 1 = pc') (l' : Array Slot) (hl : storeLocals Ls k.val (.int x) = some l') (h : Wk p e below Fe T (mkF m pc' l' S)) : Wk p e below Fe T (mkF m pc Ls (.int x :: S)) := by
  subst hp; exact h.step fun _ k => XS.istoreN X.here hx rfl hd rfl hl k
theorem w_astore (X : Stand p l e R s m args below meth c T locs cells slots) (hx : p.tables.exec = Jvm.exec) {k : Nat} {x : Value} (hd : decode c.code pc = .ok (.astore k, 2)) (pc' : Nat) (hp : pc + 2 = pc') (hv : x.isRef = true) (l' : Array Slot) (hl : storeLocals Ls k x = some l') (h : Wk p e below Fe T (mkF m pc' l' S)) : Wk p e below Fe T (mkF m pc Ls (x :: S)) := by
  subst hp; exact h.step fun _ k => XS.astore X.here hx rfl hd rfl hv hl k
theorem w_astoreN (X : Stand p l e R s m args below meth c T locs cells slots) (hx : p.tables.exec = Jvm.exec) {k : Fin 4} {x : Value} (hd : decode c.code pc = .ok (.astore_n k, 1)) (pc' : Nat) (hp : pc + 1 = pc') (hv : x.isRef = true) (l' : Array Slot) (hl : storeLocals Ls k.val x = some l') (h : Wk p e below Fe T (mkF m pc' l' S)) : Wk p e below Fe T (mkF m pc Ls (x :: S)) := by
  subst hp; exact h.step fun _ k => XS.astoreN X.here hx rfl hd rfl hv hl k
theorem w_iconst (X : Stand p l e R s m args below meth c T locs cells slots) (hx : p.tables.exec = Jvm.exec) {i : Int} (hd : decode c.code pc = .ok (.iconst i, 1)) (pc' : Nat) (hp : pc + 1 = pc') (z : Int32) (hz : Int32.ofInt i = z) (h : Wk p e below Fe T (mkF m pc' Ls (.int z :: S))) : Wk p e below Fe T (mkF m pc Ls S) := by
  subst hp hz; exact h.step fun _ k => XS.iconst X.here hx rfl hd k
theorem w_bipush (X : Stand p l e R s m args below meth c T locs cells slots) (hx : p.tables.exec = Jvm.exec) {i : Int} (hd : decode c.code pc = .ok (.bipush i, 2)) (pc' : Nat) (hp : pc + 2 = pc') (z : Int32) (hz : (Int8.ofInt i).toInt32 = z) (h : Wk p e below Fe T (mkF m pc' Ls (.int z :: S))) : Wk p e below Fe T (mkF m pc Ls S) := by
  subst hp hz; exact h.step fun _ k => XS.bipush X.here hx rfl hd k
theorem w_null (X : Stand p l e R s m args below meth c T locs cells slots) (hx : p.tables.exec = Jvm.exec) (hd : decode c.code pc = .ok (.aconst_null, 1)) (pc' : Nat) (hp : pc + 1 = pc') (h : Wk p e below Fe T (mkF m pc' Ls (.null :: S))) : Wk p e below Fe T (mkF m pc Ls S) := by
  subst hp; exact h.step fun _ k => XS.aconstNull X.here hx rfl hd k
theorem w_iand (X : Stand p l e R s m args below meth c T locs cells slots) (hx : p.tables.exec = Jvm.exec) {x y : Int32} (hd : decode c.code pc = .ok (.iand, 1)) (pc' : Nat) (hp : pc + 1 = pc') {z : Int32} (hz : z = x &&& y) (h : Wk p e below Fe T (mkF m pc' Ls (.int z :: S))) : Wk p e below Fe T (mkF m pc Ls (.int y :: .int x :: S)) := by
  subst hp hz; exact h.step fun _ k => XS.iand X.here hx rfl hd rfl k
theorem w_ishr (X : Stand p l e R s m args below meth c T locs cells slots) (hx : p.tables.exec = Jvm.exec) {x y : Int32} (hd : decode c.code pc = .ok (.ishr, 1)) (pc' : Nat) (hp : pc + 1 = pc') {z : Int32} (hz : z = x >>> (y &&& 31)) (h : Wk p e below Fe T (mkF m pc' Ls (.int z :: S))) : Wk p e below Fe T (mkF m pc Ls (.int y :: .int x :: S)) := by
  subst hp hz; exact h.step fun _ k => XS.ishr X.here hx rfl hd rfl k
theorem w_iinc (X : Stand p l e R s m args below meth c T locs cells slots) (hx : p.tables.exec = Jvm.exec) {k : Nat} {cst : Int} {x : Int32} (hd : decode c.code pc = .ok (.iinc k cst, 3)) (pc' : Nat) (hp : pc + 3 = pc') (hl : Ls[k]? = some (.val (.int x))) (z : Int32) (hz : z = x + Int32.ofInt cst) (l' : Array Slot) (hl' : storeLocals Ls k (.int z) = some l') (h : Wk p e below Fe T (mkF m pc' l' S)) : Wk p e below Fe T (mkF m pc Ls S) := by
  subst hp hz; exact h.step fun _ k => XS.iinc X.here hx rfl hd hl hl' k
theorem oD1 {α : Type} {x : α} : (some x).toList = [x] := rfl
theorem oD2 {α : Type} : (none : Option α).toList = [] := rfl
theorem oD3 {α : Type} {x : α} {xs ys : List α} : (x :: xs) ++ ys = x :: (xs ++ ys) := rfl
theorem oD4 {α : Type} {ys : List α} : [] ++ ys = ys := rfl
theorem w_dup (X : Stand p l e R s m args below meth c T locs cells slots) (hx : p.tables.exec = Jvm.exec) {x : Value} (hd : decode c.code pc = .ok (.dup, 1)) (pc' : Nat) (hp : pc + 1 = pc') (hc : x.category = 1) (h : Wk p e below Fe T (mkF m pc' Ls (x :: x :: S))) : Wk p e below Fe T (mkF m pc Ls (x :: S)) := by
  subst hp; exact h.step fun _ k => XS.dup X.here hx rfl hd rfl hc k
theorem w_goto (X : Stand p l e R s m args below meth c T locs cells slots) (hx : p.tables.exec = Jvm.exec) {o : Int} (hd : decode c.code pc = .ok (.goto o, 3)) (pc' : Nat) (h : Wk p e below Fe T (mkF m pc' Ls S)) (ho : 0 ≤ (pc : Int) + o := by decide) (hp : ((pc : Int) + o).toNat = pc' := by decide) : Wk p e below Fe T (mkF m pc Ls S) := by
  exact h.step fun _ k => XS.goto X.here hx rfl rfl hd ho hp k
theorem holds_eq {x y : Int32} {A B : Int} (ha : x.toInt = A) (hb : y.toInt = B) : ((A = B) → if_icmp.holds .eq x y = true) ∧ ((¬ A = B) → if_icmp.holds .eq x y = false) := by
  subst ha hb
  constructor
  · intro q
    first
    | exact (tlt (x := x) (y := y) (Int32.lt_iff_toInt_lt.mpr (by omega))).1
    | exact (flt (x := x) (y := y) (fun r => by have := Int32.lt_iff_toInt_lt.mp r; omega)).2.1
    | exact (tlt (x := y) (y := x) (Int32.lt_iff_toInt_lt.mpr (by omega))).2.2.1
    | exact (flt (x := y) (y := x) (fun r => by have := Int32.lt_iff_toInt_lt.mp r; omega)).2.2.2
    | exact (teq (x := x) (y := y) (Int32.toInt_inj.mp (by omega))).1
    | exact (feq (x := x) (y := y) (fun r => q (by rw [r]))).2
  · intro q
    first
    | exact (flt (x := x) (y := y) (fun r => by have := Int32.lt_iff_toInt_lt.mp r; omega)).1
    | exact (tlt (x := x) (y := y) (Int32.lt_iff_toInt_lt.mpr (by omega))).2.1
    | exact (flt (x := y) (y := x) (fun r => by have := Int32.lt_iff_toInt_lt.mp r; omega)).2.2.1
    | exact (tlt (x := y) (y := x) (Int32.lt_iff_toInt_lt.mpr (by omega))).2.2.2
    | exact (feq (x := x) (y := y) (fun r => q (by rw [r]))).1
    | exact (teq (x := x) (y := y) (Int32.toInt_inj.mp (by omega))).2
theorem w_if_eq (X : Stand p l e R s m args below meth c T locs cells slots) (hx : p.tables.exec = Jvm.exec) {x : Int32} {o : Int} (A : Int) (ha : x.toInt = A) (hd : decode c.code pc = .ok (.ifCond .eq o, 3)) (pt pn : Nat) (h1 : A = 0 → Wk p e below Fe T (mkF m pt Ls S)) (h2 : ¬ A = 0 → Wk p e below Fe T (mkF m pn Ls S)) (ho : 0 ≤ (pc : Int) + o := by decide) (hp : ((pc : Int) + o).toNat = pt := by decide) (hn : pc + 3 = pn := by rfl) : Wk p e below Fe T (mkF m pc Ls (.int x :: S)) := by
  subst hn
  have hb : (0 : Int32).toInt = 0 := rfl
  by_cases q : A = 0
  · exact (h1 q).step fun _ k => XS.ifYes X.here hx rfl rfl hd rfl ((if0 _ _).trans ((holds_eq ha hb).1 q)) ho hp k
  · have q' : ¬ A = 0 := by omega
    exact (h2 q').step fun _ k => XS.ifNo X.here hx rfl hd rfl ((if0 _ _).trans ((holds_eq ha hb).2 q')) k
theorem holds_ne {x y : Int32} {A B : Int} (ha : x.toInt = A) (hb : y.toInt = B) : ((¬ A = B) → if_icmp.holds .ne x y = true) ∧ ((A = B) → if_icmp.holds .ne x y = false) := by
  subst ha hb
  constructor
  · intro q
    first
    | exact (tlt (x := x) (y := y) (Int32.lt_iff_toInt_lt.mpr (by omega))).1
    | exact (flt (x := x) (y := y) (fun r => by have := Int32.lt_iff_toInt_lt.mp r; omega)).2.1
    | exact (tlt (x := y) (y := x) (Int32.lt_iff_toInt_lt.mpr (by omega))).2.2.1
    | exact (flt (x := y) (y := x) (fun r => by have := Int32.lt_iff_toInt_lt.mp r; omega)).2.2.2
    | exact (teq (x := x) (y := y) (Int32.toInt_inj.mp (by omega))).1
    | exact (feq (x := x) (y := y) (fun r => q (by rw [r]))).2
  · intro q
    first
    | exact (flt (x := x) (y := y) (fun r => by have := Int32.lt_iff_toInt_lt.mp r; omega)).1
    | exact (tlt (x := x) (y := y) (Int32.lt_iff_toInt_lt.mpr (by omega))).2.1
    | exact (flt (x := y) (y := x) (fun r => by have := Int32.lt_iff_toInt_lt.mp r; omega)).2.2.1
    | exact (tlt (x := y) (y := x) (Int32.lt_iff_toInt_lt.mpr (by omega))).2.2.2
    | exact (feq (x := x) (y := y) (fun r => q (by rw [r]))).1
    | exact (teq (x := x) (y := y) (Int32.toInt_inj.mp (by omega))).2
theorem w_icmp_ne (X : Stand p l e R s m args below meth c T locs cells slots) (hx : p.tables.exec = Jvm.exec) {x y : Int32} {o : Int} (A B : Int) (ha : x.toInt = A) (hb : y.toInt = B) (hd : decode c.code pc = .ok (.if_icmp .ne o, 3)) (pt pn : Nat) (h1 : ¬ A = B → Wk p e below Fe T (mkF m pt Ls S)) (h2 : A = B → Wk p e below Fe T (mkF m pn Ls S)) (ho : 0 ≤ (pc : Int) + o := by decide) (hp : ((pc : Int) + o).toNat = pt := by decide) (hn : pc + 3 = pn := by rfl) : Wk p e below Fe T (mkF m pc Ls (.int y :: .int x :: S)) := by
  subst hn
  by_cases q : ¬ A = B
  · exact (h1 q).step fun _ k => XS.icmpYes X.here hx rfl rfl hd rfl ((holds_ne ha hb).1 q) ho hp k
  · have q' : A = B := by omega
    exact (h2 q').step fun _ k => XS.icmpNo X.here hx rfl hd rfl ((holds_ne ha hb).2 q') k
theorem holds_ge {x y : Int32} {A B : Int} (ha : x.toInt = A) (hb : y.toInt = B) : ((B ≤ A) → if_icmp.holds .ge x y = true) ∧ ((A < B) → if_icmp.holds .ge x y = false) := by
  subst ha hb
  constructor
  · intro q
    first
    | exact (tlt (x := x) (y := y) (Int32.lt_iff_toInt_lt.mpr (by omega))).1
    | exact (flt (x := x) (y := y) (fun r => by have := Int32.lt_iff_toInt_lt.mp r; omega)).2.1
    | exact (tlt (x := y) (y := x) (Int32.lt_iff_toInt_lt.mpr (by omega))).2.2.1
    | exact (flt (x := y) (y := x) (fun r => by have := Int32.lt_iff_toInt_lt.mp r; omega)).2.2.2
    | exact (teq (x := x) (y := y) (Int32.toInt_inj.mp (by omega))).1
    | exact (feq (x := x) (y := y) (fun r => q (by rw [r]))).2
  · intro q
    first
    | exact (flt (x := x) (y := y) (fun r => by have := Int32.lt_iff_toInt_lt.mp r; omega)).1
    | exact (tlt (x := x) (y := y) (Int32.lt_iff_toInt_lt.mpr (by omega))).2.1
    | exact (flt (x := y) (y := x) (fun r => by have := Int32.lt_iff_toInt_lt.mp r; omega)).2.2.1
    | exact (tlt (x := y) (y := x) (Int32.lt_iff_toInt_lt.mpr (by omega))).2.2.2
    | exact (feq (x := x) (y := y) (fun r => q (by rw [r]))).1
    | exact (teq (x := x) (y := y) (Int32.toInt_inj.mp (by omega))).2
theorem w_icmp_ge (X : Stand p l e R s m args below meth c T locs cells slots) (hx : p.tables.exec = Jvm.exec) {x y : Int32} {o : Int} (A B : Int) (ha : x.toInt = A) (hb : y.toInt = B) (hd : decode c.code pc = .ok (.if_icmp .ge o, 3)) (pt pn : Nat) (h1 : B ≤ A → Wk p e below Fe T (mkF m pt Ls S)) (h2 : A < B → Wk p e below Fe T (mkF m pn Ls S)) (ho : 0 ≤ (pc : Int) + o := by decide) (hp : ((pc : Int) + o).toNat = pt := by decide) (hn : pc + 3 = pn := by rfl) : Wk p e below Fe T (mkF m pc Ls (.int y :: .int x :: S)) := by
  subst hn
  by_cases q : B ≤ A
  · exact (h1 q).step fun _ k => XS.icmpYes X.here hx rfl rfl hd rfl ((holds_ge ha hb).1 q) ho hp k
  · have q' : A < B := by omega
    exact (h2 q').step fun _ k => XS.icmpNo X.here hx rfl hd rfl ((holds_ge ha hb).2 q') k
theorem w_acmp (X : Stand p l e R s m args below meth c T locs cells slots) (hx : p.tables.exec = Jvm.exec) {cd : ACond} {x y : Value} {o : Int} (h1 : x.isRef = true) (h2 : y.isRef = true) (hd : decode c.code pc = .ok (.if_acmp cd o, 3)) (same : Bool) (hq : decide (x = y) = same) (pc' : Nat) (ho : 0 ≤ (pc : Int) + o) (hp : pc' = if acV cd same = true then ((pc : Int) + o).toNat else pc + 3) (h : Wk p e below Fe T (mkF m pc' Ls S)) : Wk p e below Fe T (mkF m pc Ls (y :: x :: S)) :=
  h.step fun _ k => Jvm.RoadKit.acmp (g := mkF m pc Ls (y :: x :: S)) X hx rfl h1 h2 rfl hd rfl hq ho hp k
theorem w_retN (X : Stand p l e R s m args below meth c T locs cells slots) (hx : p.tables.exec = Jvm.exec) (hlocks : meth.locks = false) {t : FieldType} {z : Int32} (hret : meth.sig.returnType = some t) (ht : t = .boolean ∨ t = .byte ∨ t = .char ∨ t = .short) (hd : decode c.code pc = .ok (.ireturn, 1)) (hc : cells ≤ kc) (hs : slots ≤ ks) (hQ : Q (some (.int (nar t z))) T.heap locs) : Wk p e below (FN s Q kc ks) T (mkF m pc Ls (.int z :: S)) := by
  obtain ⟨fs, hr, hrun, hended, hW, hsame⟩ := X.leave (v := some (.int (nar t z))) (fun h => by rw [hret] at h; cases h) hlocks
  exact ⟨_, _, retN X hx hret ht hd hr, hrun, hended, _, _, rfl, hQ, ⟨_, rfl⟩, hW, hsame.mono hc hs⟩
theorem w_virt (X : Stand p l e R s m args below meth c T locs cells slots) (hx : p.tables.exec = Jvm.exec) (hZ : Z.Warmed39 s.vm) {own : String} {index : Nat} {y : MethodName} {bytes : ByteArray} {maxL : Nat} {ret : Option FieldType} {rm : Room} {as' : Array Value} {Qc : Option Value → Heap → List Loc → Prop} {C : String} {y0 : MethodName} (hown : s.vm.findClass own = some m.cls) (eT : T.heap = h)
    (hM : MetFree l y (head1 [Cond.code y bytes maxL ret] rm) (fun a U => a = as' ∧ Z.Warmed39 U.vm ∧ U.heap = h) (fun _ _ _ _ _ => True) (fun _ U o U' => ∃ v L, o = .returned v ∧ Qc v U'.heap L ∧ FrameEnd U o U' L rm.cells rm.slots))
    (w1 : (Cond.methodLink own index y0).before a0 Z = true) (w2 : (Cond.declares y0).before a0 Z = true) (nf : NotFace s y0) (w5 : (Cond.selects C y0 y).before a0 Z = true) (w6 : (Cond.instanceMethod y).before a0 Z = true) (w3 : (Cond.initialized y.cls).before a0 Z = true) (w4 : (Cond.code y bytes maxL ret).before a0 Z = true) (hy : y0.cls ≠ "java/lang/invoke/MethodHandle" ∧ y0.cls ≠ "java/lang/invoke/VarHandle")
    (a : Addr) (E : Exa Z h a C)
    (hsize : Ls.size = c.maxLocals) (argsL rest : List Value) (hlen : ∀ sig, parseMethodDescriptor y0.desc = some sig → argsL.length = sig.parameters.length) (hst : S = argsL.reverse ++ .ref a :: rest) (has : (Value.ref a :: argsL).toArray = as')
    (hf : rm.frames + 1 ≤ R.frames) (W : Nat) (hW : (rest.map fun v => v.category).sum = W) (hl : W + (maxL + 11) + rm.locals ≤ R.locals) (hc : cells + rm.cells ≤ R.cells) (hs : slots + rm.slots ≤ R.slots) (hd : decode c.code pc = .ok (.invokevirtual index, 3)) (pc' : Nat) (hp : pc + 3 = pc')
    (k : ∀ (v : Option Value) (T' : State) (L : List Loc), Stand p l e R s m args below meth c T' (locs ++ L) (cells + rm.cells) (slots + rm.slots) → Qc v T'.heap L → Wk p e below Fe T' (mkF m pc' Ls (v.toList ++ rest))) : Wk p e below Fe T (mkF m pc Ls S) := by
  subst hp hst has hW
  obtain ⟨cq, kq, qa, qb, qc⟩ := isOf hZ eT E
  obtain ⟨v, _, ⟨T', L', k', n'⟩, -, X', ⟨Lc, q1, q2, q3, q4⟩, st⟩ := X.virtualBack hx hown (mvT hZ w1) (mvT hZ w2) nf (mvT hZ w5) (mvT hZ w6) hy (backOf hM hZ w4 w3 hf hl) qa qc (g := mkF m pc Ls (argsL.reverse ++ .ref a :: rest)) rfl hsize (Steps.refl _) hlen rfl (by show 2 * 0 + _ ≤ _; rw [Nat.mul_zero, Nat.zero_add]; exact Nat.le_refl _) hd (fun _ _ => ⟨rfl, eT, hc, hs⟩)
  dsimp only [Pt.U, Pt.locs, Pt.cells, Pt.slots] at X' q2 q3 q4 st q1
  subst q2 q3 q4
  exact (k v T' Lc X' q1).come st
theorem w_getF (X : Stand p l e R s m args below meth c T locs cells slots) (hx : p.tables.exec = Jvm.exec) (hZ : Z.Warmed39 s.vm) {own R0 O n d host : String} {index : Nat} (hown : s.vm.findClass own = some m.cls) (eT : T.heap = h) (w : (Cond.fieldLink own index R0 n d).before a0 Z = true ∨ (Cond.fieldLinkNest own index R0 n d host).before a0 Z = true) (via : Via Z R0 O n d)
    {a : Addr} {v : Value} (F : Fld Z h a O n d v) (hd : decode c.code pc = .ok (.getfield index, 3)) (pc' : Nat) (hp : pc + 3 = pc')
    (k : ∀ T' : State, Stand p l e R s m args below meth c T' locs cells slots → T'.heap = h → Wk p e below Fe T' (mkF m pc' Ls (v :: S))) : Wk p e below Fe T (mkF m pc Ls (.ref a :: S)) := by
  subst hp
  obtain ⟨T', X', e', st⟩ := getF X hx hZ hown w via eT F (g := mkF m pc Ls (.ref a :: S)) rfl rfl hd
  exact (k T' X' e').step st
theorem w_getS (X : Stand p l e R s m args below meth c T locs cells slots) (hx : p.tables.exec = Jvm.exec) (hZ : Z.Warmed39 s.vm) {own R0 O n d host : String} {index : Nat} (hown : s.vm.findClass own = some m.cls) (eT : T.heap = h) (w : (Cond.fieldLink own index R0 n d).before a0 Z = true ∨ (Cond.fieldLinkNest own index R0 n d host).before a0 Z = true) (via : Via Z R0 O n d)
    {v : Value} (F : Sta Z h O n d v) (hd : decode c.code pc = .ok (.getstatic index, 3)) (pc' : Nat) (hp : pc + 3 = pc')
    (k : ∀ T' : State, Stand p l e R s m args below meth c T' locs cells slots → T'.heap = h → Wk p e below Fe T' (mkF m pc' Ls (v :: S))) : Wk p e below Fe T (mkF m pc Ls S) := by
  subst hp
  obtain ⟨T', X', e', st⟩ := getS2 X hx hZ hown w via eT F (g := mkF m pc Ls S) rfl hd
  exact (k T' X' e').step st
theorem w_newP (X : Stand p l e R s m args below meth c T locs cells slots) (hx : p.tables.exec = Jvm.exec) (hZ : Z.Warmed39 s.vm) (eT : T.heap = h) {aty : ArrayType} (w : (Cond.arrayClass (newarray.typeOf aty)).before a0 Z = true) {n : Int32} (hn : ¬ n < 0) (cap : Nat) (hcap : n.toNatClampNeg ≤ cap) (hb : cap * 8 ≤ 536870912) (hc : cells + 1 ≤ R.cells) (hl : slots + cap ≤ R.slots) (hd : decode c.code pc = .ok (.newarray aty, 2)) (pc' : Nat) (hp : pc + 2 = pc')
    (k : ∀ (T' : State) (h' : Heap) (a : Addr) (cA : ClassId), Stand p l e R s m args below meth c T' locs (cells + 1) (slots + cap) → T'.heap = h' → a = h.size → Ext h h' → Arv Z h' a cA (newarray.typeOf aty) n [] (defaultValue (newarray.typeOf aty)) → Wk p e below Fe T' (mkF m pc' Ls (.ref a :: S))) : Wk p e below Fe T (mkF m pc Ls (.int n :: S)) := by
  subst hp
  obtain ⟨T', h', cA, X', e', E', A', st⟩ := newP X hx hZ w eT (g := mkF m pc Ls (.int n :: S)) rfl hd rfl hn hcap hb hc hl
  exact (k T' h' _ cA X' e' rfl E' (Arv.new A' hn)).step st
theorem w_length (X : Stand p l e R s m args below meth c T locs cells slots) (hx : p.tables.exec = Jvm.exec) (hZ : Z.Warmed39 s.vm) (eT : T.heap = h) {a : Addr} {kA : ClassId} {ty : FieldType} {z : Int32} {vs : List Value} {dv : Value} (A : Arv Z h a kA ty z vs dv) (hd : decode c.code pc = .ok (.arraylength, 1)) (pc' : Nat) (hp : pc + 1 = pc')
    (k : Wk p e below Fe T (mkF m pc' Ls (.int z :: S))) : Wk p e below Fe T (mkF m pc Ls (.ref a :: S)) := by
  subst hp
  obtain ⟨cl, Ar, -, Sz, Nz, -, -⟩ := A
  refine k.step fun t q => X.arraylength hx (by rw [eT]; exact Ar.1) (State.isArrayOf_alike hZ.alike Ar.2.1) (g := mkF m pc Ls (.ref a :: S)) rfl rfl hd t ?_
  rw [len_of Sz Nz]; exact q
theorem w_iastore (X : Stand p l e R s m args below meth c T locs cells slots) (hx : p.tables.exec = Jvm.exec) (hZ : Z.Warmed39 s.vm) (eT : T.heap = h) {a : Addr} {kA : ClassId} {z : Int32} {vs : List Value} {dv : Value} (A : Arv Z h a kA .int z vs dv) {j x : Int32} (hj : 0 ≤ j.toInt ∧ j.toInt < z.toInt) (i : Nat) (hi : j.toNatClampNeg = i) (hv : i < vs.length) (hd : decode c.code pc = .ok (.iastore, 1)) (pc' : Nat) (hp : pc + 1 = pc')
    (k : ∀ (T' : State) (h' : Heap), Stand p l e R s m args below meth c T' (locs ++ [⟨a, j.toNatClampNeg⟩]) cells slots → T'.heap = h' → Wr h h' a j.toNatClampNeg (.int x) → Arv Z h' a kA .int z (vs.set i (.int x)) dv → Wk p e below Fe T' (mkF m pc' Ls S)) : Wk p e below Fe T (mkF m pc Ls (.int x :: .int j :: .ref a :: S)) := by
  subst hp
  obtain ⟨cl, Ar, q, Sz, Nz, H, G⟩ := A
  have hin : ¬ (j < 0 ∨ cl.slots.size ≤ j.toNatClampNeg) := inb_of Sz ⟨fun r => by have := Int32.lt_iff_toInt_lt.mp r; have h0 : (0 : Int32).toInt = 0 := rfl; omega, Int32.lt_iff_toInt_lt.mpr hj.2⟩
  obtain ⟨T', h', X', e', W', st⟩ := stI X hx hZ eT Ar hin (g := mkF m pc Ls (.int x :: .int j :: .ref a :: S)) rfl rfl hd
  exact (k T' h' X' e' W' (Arv.set Ar q Sz Nz H G rfl W' i hi hv)).step st
theorem w_iaload (X : Stand p l e R s m args below meth c T locs cells slots) (hx : p.tables.exec = Jvm.exec) (hZ : Z.Warmed39 s.vm) (eT : T.heap = h) {a : Addr} {kA : ClassId} {z : Int32} {vs : List Value} {dv : Value} (A : Arv Z h a kA .int z vs dv) {j : Int32} (hj : 0 ≤ j.toInt ∧ j.toInt < z.toInt) {v : Value} (hv : vs.getD j.toNatClampNeg dv = v) (hd : decode c.code pc = .ok (.iaload, 1)) (pc' : Nat) (hp : pc + 1 = pc')
    (k : Wk p e below Fe T (mkF m pc' Ls (v :: S))) : Wk p e below Fe T (mkF m pc Ls (.int j :: .ref a :: S)) := by
  subst hp
  obtain ⟨cl, Ar, q, Sz, Nz, H, G⟩ := A
  have hin : ¬ (j < 0 ∨ cl.slots.size ≤ j.toNatClampNeg) := inb_of Sz ⟨fun r => by have := Int32.lt_iff_toInt_lt.mp r; have h0 : (0 : Int32).toInt = 0 := rfl; omega, Int32.lt_iff_toInt_lt.mpr hj.2⟩
  exact k.step fun t r => X.iaload hx (by rw [eT]; exact Ar.1) (State.isArrayOf_alike hZ.alike Ar.2.1) Ar.2.2 hin (Has.at H hin hv) (g := mkF m pc Ls (.int j :: .ref a :: S)) rfl rfl hd t r
theorem w_newR (X : Stand p l e R s m args below meth c T locs cells slots) (hx : p.tables.exec = Jvm.exec) (hZ : Z.Warmed39 s.vm) {own C : String} {index : Nat} (hown : s.vm.findClass own = some m.cls) (eT : T.heap = h) (w1 : (Cond.classLink own index C).before a0 Z = true) (w2 : (Cond.arrayOver (.object C)).before a0 Z = true) {n : Int32} (hn : ¬ n < 0) (cap : Nat) (hcap : n.toNatClampNeg ≤ cap) (hb : cap * 8 ≤ 536870912) (hc : cells + 1 ≤ R.cells) (hl : slots + cap ≤ R.slots) (hd : decode c.code pc = .ok (.anewarray index, 3)) (pc' : Nat) (hp : pc + 3 = pc')
    (k : ∀ (T' : State) (h' : Heap) (a : Addr) (cA : ClassId), Stand p l e R s m args below meth c T' locs (cells + 1) (slots + cap) → T'.heap = h' → a = h.size → Ext h h' → Arv Z h' a cA (.object C) n [] .null → Ovr Z cA C → Wk p e below Fe T' (mkF m pc' Ls (.ref a :: S))) : Wk p e below Fe T (mkF m pc Ls (.int n :: S)) := by
  subst hp
  obtain ⟨T', h', cA, X', e', E', A', O', st⟩ := newR X hx hZ hown w1 w2 eT (g := mkF m pc Ls (.int n :: S)) rfl hd rfl hn hcap hb hc hl
  exact (k T' h' _ cA X' e' rfl E' (Arv.new A' hn) O').step st
theorem w_aastore (X : Stand p l e R s m args below meth c T locs cells slots) (hx : p.tables.exec = Jvm.exec) (hZ : Z.Warmed39 s.vm) (eT : T.heap = h) {a : Addr} {kA : ClassId} {C : String} {z : Int32} {vs : List Value} {dv : Value} (A : Arv Z h a kA (.object C) z vs dv) {j : Int32} {v : Value} (hj : 0 ≤ j.toInt ∧ j.toInt < z.toInt) (i : Nat) (hi : j.toNatClampNeg = i) (hv : i < vs.length) (hr : v.isRef = true) (F : v = .null ∨ ∃ y, v = .ref y ∧ Ovr Z kA C ∧ Ins Z h y C true) (hd : decode c.code pc = .ok (.aastore, 1)) (pc' : Nat) (hp : pc + 1 = pc')
    (k : ∀ (T' : State) (h' : Heap), Stand p l e R s m args below meth c T' (locs ++ [⟨a, j.toNatClampNeg⟩]) cells slots → T'.heap = h' → Wr h h' a j.toNatClampNeg v → Arv Z h' a kA (.object C) z (vs.set i v) dv → Wk p e below Fe T' (mkF m pc' Ls S)) : Wk p e below Fe T (mkF m pc Ls (v :: .int j :: .ref a :: S)) := by
  subst hp
  obtain ⟨cl, Ar, q, Sz, Nz, H, G⟩ := A
  have hin : ¬ (j < 0 ∨ cl.slots.size ≤ j.toNatClampNeg) := inb_of Sz ⟨fun r => by have := Int32.lt_iff_toInt_lt.mp r; have h0 : (0 : Int32).toInt = 0 := rfl; omega, Int32.lt_iff_toInt_lt.mpr hj.2⟩
  have Fs : Sto Z h a v := by
    rcases F with rfl | ⟨y, rfl, O, I⟩
    · exact Or.inl rfl
    · exact Sto.ofV Ar q O I
  obtain ⟨T', h', X', e', W', st⟩ := stR X hx hZ eT Ar hin rfl Fs (g := mkF m pc Ls (v :: .int j :: .ref a :: S)) rfl rfl hd
  exact (k T' h' X' e' W' (Arv.set Ar q Sz Nz H G (by rcases F with rfl | ⟨y, rfl, -⟩ <;> rfl) W' i hi hv)).step st
theorem w_aaload (X : Stand p l e R s m args below meth c T locs cells slots) (hx : p.tables.exec = Jvm.exec) (hZ : Z.Warmed39 s.vm) (eT : T.heap = h) {a : Addr} {kA : ClassId} {C : String} {z : Int32} {vs : List Value} {dv : Value} (A : Arv Z h a kA (.object C) z vs dv) {j : Int32} (hj : 0 ≤ j.toInt ∧ j.toInt < z.toInt) {v : Value} (hv : vs.getD j.toNatClampNeg dv = v) (hd : decode c.code pc = .ok (.aaload, 1)) (pc' : Nat) (hp : pc + 1 = pc')
    (k : Wk p e below Fe T (mkF m pc' Ls (v :: S))) : Wk p e below Fe T (mkF m pc Ls (.int j :: .ref a :: S)) := by
  subst hp
  obtain ⟨cl, Ar, q, Sz, Nz, H, G⟩ := A
  have hin : ¬ (j < 0 ∨ cl.slots.size ≤ j.toNatClampNeg) := inb_of Sz ⟨fun r => by have := Int32.lt_iff_toInt_lt.mp r; have h0 : (0 : Int32).toInt = 0 := rfl; omega, Int32.lt_iff_toInt_lt.mpr hj.2⟩
  exact k.step fun t r => X.aaload hx (by rw [eT]; exact Ar.1) (State.isArrayOf_alike hZ.alike Ar.2.1) rfl Ar.2.2 hin (Has.at H hin hv) (g := mkF m pc Ls (.int j :: .ref a :: S)) rfl rfl hd t r
abbrev CT (l : Launch) (y : MethodName) (bytes : ByteArray) (maxL : Nat) (ret : Option FieldType) (ws : List Cond) (rm : Room) (as' : Array Value) (Z : State) (h0 : Heap) (Q : Option Value → Heap → List Loc → Prop) : Prop :=
  MetFree l y (head1 (Cond.code y bytes maxL ret :: ws) rm) (fun a U => a = as' ∧ Z.Warmed39 U.vm ∧ U.heap = h0) (fun _ _ _ _ _ => True) (fun _ U o U' => ∃ v L, o = .returned v ∧ Q v U'.heap L ∧ FrameEnd U o U' L rm.cells rm.slots)
theorem body_of {y : MethodName} {bytes : ByteArray} {maxL : Nat} {ret : Option FieldType} {ws : List Cond} {rm : Room} {as' : Array Value} {h0 : Heap} (hpl : plainFor y = true)
    (k : ∀ (p : Program) (e : Env) (s : State) (m : MethodId) (below : List Frame) (meth : Method) (c : Code) (s₁ : State), p.tables.exec = Jvm.exec → (∀ {pc : Nat} {r : Except DecodeError (Instr × Nat)}, decode bytes pc = r → decode c.code pc = r) → meth.sig.returnType = ret → meth.locks = false → c.maxLocals = maxL → s.vm.findClass y.cls = some m.cls → meth.name = y.name → Stand p l e rm s m as' below meth c s₁ [] 0 0 → s₁.heap = h0 → Z.Warmed39 s.vm → Wk p e below (FN s Q kc ks) s₁ (entryFrame m as' maxL)) :
    MetFree l y (head1 (Cond.code y bytes maxL ret :: ws) rm) (fun a U => a = as' ∧ Z.Warmed39 U.vm ∧ U.heap = h0) (fun _ _ _ _ _ => True) (fun _ U o U' => ∃ v L, o = .returned v ∧ Q v U'.heap L ∧ FrameEnd U o U' L kc ks) := by
  refine MetFree.of_bodySF hpl hisR ?_
  intro p e s m args below meth c s₁ Bd hml0 hP hK
  obtain ⟨rfl, hZ, hh⟩ := hP
  obtain ⟨s₂, o, h1, h2⟩ := k p e s m below meth c s₁ Bd.exec (fun q => hb Bd.bytes q) Bd.returns Bd.notSynchronized hml0 (findClass_of_methodNamed Bd.named) (name_of_methodNamed Bd.named Bd.method).1 (Stand.of_body Bd) (by rw [← hh, Bd.state]; rfl) hZ
  exact ⟨s₂, o, h1, h2⟩
theorem eqInt_v {a : Term} {k : Int32} {first s' : State} {o : Option Outcome} {idx : List Nat} (h : (Cond.eq a (.int k)).value args first o s' idx = some true) : a.eval args first o idx s' = some (.int k) := by
  cases ha : a.eval args first o idx s' with
  | none => simp [Cond.value, ha] at h
  | some x => cases x <;> simp [Cond.value, ha, Term.eval] at h ⊢; exact h
theorem eqRef_v {a b : Term} {y : Addr} {first s' : State} {o : Option Outcome} {idx : List Nat} (h : (Cond.eq a b).value args first o s' idx = some true) (hb : b.eval args first o idx s' = some (.ref y)) : a.eval args first o idx s' = some (.ref y) := by
  cases ha : a.eval args first o idx s' with
  | none => simp [Cond.value, ha] at h
  | some x => cases x <;> simp [Cond.value, ha, hb] at h ⊢; exact h
theorem arr_of {s : State} (hf : Fit s) {t : Term} {oa : Addr} {ty : FieldType} {z : Int32} {vs : List Value} {dv : Value} (eo : t.eval args s none [] s = some (.ref oa)) (hA : (Cond.arrayOf t ty).value args s none s [] = some true) (hL : (Cond.eq (.length t) (.int z)).value args s none s [] = some true) (hz : ¬ z < 0) (hl : z.toNatClampNeg = vs.length) (H : ∀ cl : Cell, s.heap[oa]? = some cl → HasL cl 0 vs) : ∃ k, Arv s s.heap oa k ty z vs dv := by
  obtain ⟨cl, Ar⟩ := Arr.start eo hA
  have h1 := eqInt_v hL
  have h2 : s.arrayAt? oa = some cl := Ar.fin (Vm.Alike.refl _)
  simp only [Term.eval, eo, Option.bind_eq_bind, Option.bind_some, h2] at h1
  split at h1
  · rename_i hlt
    have h3 : cl.slots.size.toInt32 = z := by injection h1 with h1; injection h1
    exact ⟨_, Arv.start hf Ar hlt h3 hz hl (H cl Ar.1)⟩
  · cases h1
theorem elem_of {s : State} {t b : Term} {oa y : Addr} {i : Int32} {cl : Cell} (eo : t.eval args s none [] s = some (.ref oa)) (hE : (Cond.eq (.elem t (.int i)) b).value args s none s [] = some true) (hb : b.eval args s none [] s = some (.ref y)) (hc : s.heap[oa]? = some cl) : cl.slots[i.toNatClampNeg]? = some (.ref y) :=
  (elem_in (eqRef_v hE hb) eo (Term.int_eval i) hc).2
end Walk
/-! plain facts on Int32 and Int64, in Ints -/
theorem eqI {x y : Int32} (h : x.toInt = y.toInt) : x = y := Int32.toInt_inj.mp h
theorem maskX {x m : Int32} {A : Int} (k : Nat) (ha : x.toInt = A) (hk : k ≤ 31) (hm : m.toBitVec.toNat = 2 ^ k - 1) : (x &&& m).toInt = A % (2 ^ k : Nat) := by subst ha; exact c_mask x m k hk hm
end Jvm.Own
namespace Jvm.Pilot.@@N@@
open Jvm Jvm.ClassFile Sem Op Lib Jvm.Free Jvm.Stand Jvm.LawKit Jvm.RoadKit Bundle Jvm.Own Jvm.Pilot.@@N@@.Jvm.D
abbrev cN_0 : String := "com/example/dryope/dryope/cli/Command"
abbrev cN_1 : String := "[Lcom/example/dryope/dryope/cli/Command$Option;"
abbrev cN_2 : String := "com/example/dryope/dryope/cli/Command$Option"
abbrev cN_3 : String := "java/lang/Enum"
abbrev cN_4 : String := "Lcom/example/dryope/dryope/cli/Command;"
abbrev cN_5 : String := "Lcom/example/dryope/dryope/cli/Command$Option;"
abbrev cN_6 : String := "com/example/dryope/dryope/cli/CommandTakesPinLaw"
theorem tw_0 {Z : State} {a0 : Array Value} (hw : ∀ d ∈ tables_1, d.before a0 Z = true) : (Jvm.Cond.classLink "com/example/dryope/dryope/cli/CommandTakesPinLaw" (7 : Nat) "com/example/dryope/dryope/cli/Command").before a0 Z = true := hw _ (List.mem_of_getElem? (i := 0) rfl)
theorem tw_1 {Z : State} {a0 : Array Value} (hw : ∀ d ∈ tables_1, d.before a0 Z = true) : (Jvm.Cond.arrayOver (Jvm.ClassFile.FieldType.object "com/example/dryope/dryope/cli/Command")).before a0 Z = true := hw _ (List.mem_of_getElem? (i := 1) rfl)
theorem tw_2 {Z : State} {a0 : Array Value} (hw : ∀ d ∈ tables_1, d.before a0 Z = true) : (Jvm.Cond.fieldLink "com/example/dryope/dryope/cli/CommandTakesPinLaw" (9 : Nat) "com/example/dryope/dryope/cli/Command" "TO_JSON" "Lcom/example/dryope/dryope/cli/Command;").before a0 Z = true := hw _ (List.mem_of_getElem? (i := 2) rfl)
theorem tw_3 {Z : State} {a0 : Array Value} (hw : ∀ d ∈ tables_1, d.before a0 Z = true) : (Jvm.Cond.initialized "com/example/dryope/dryope/cli/Command").before a0 Z = true := hw _ (List.mem_of_getElem? (i := 3) rfl)
theorem tw_4 {Z : State} {a0 : Array Value} (hw : ∀ d ∈ tables_1, d.before a0 Z = true) : (Jvm.Cond.laysStatic "com/example/dryope/dryope/cli/Command" "TO_JSON" "Lcom/example/dryope/dryope/cli/Command;").before a0 Z = true := hw _ (List.mem_of_getElem? (i := 4) rfl)
theorem tw_6 {Z : State} {a0 : Array Value} (hw : ∀ d ∈ tables_1, d.before a0 Z = true) : (Jvm.Cond.fieldLink "com/example/dryope/dryope/cli/CommandTakesPinLaw" (13 : Nat) "com/example/dryope/dryope/cli/Command" "FROM_JSON" "Lcom/example/dryope/dryope/cli/Command;").before a0 Z = true := hw _ (List.mem_of_getElem? (i := 6) rfl)
theorem tw_7 {Z : State} {a0 : Array Value} (hw : ∀ d ∈ tables_1, d.before a0 Z = true) : (Jvm.Cond.laysStatic "com/example/dryope/dryope/cli/Command" "FROM_JSON" "Lcom/example/dryope/dryope/cli/Command;").before a0 Z = true := hw _ (List.mem_of_getElem? (i := 7) rfl)
theorem tw_8 {Z : State} {a0 : Array Value} (hw : ∀ d ∈ tables_1, d.before a0 Z = true) : (Jvm.Cond.fieldLink "com/example/dryope/dryope/cli/CommandTakesPinLaw" (16 : Nat) "com/example/dryope/dryope/cli/Command" "FMT" "Lcom/example/dryope/dryope/cli/Command;").before a0 Z = true := hw _ (List.mem_of_getElem? (i := 8) rfl)
theorem tw_9 {Z : State} {a0 : Array Value} (hw : ∀ d ∈ tables_1, d.before a0 Z = true) : (Jvm.Cond.laysStatic "com/example/dryope/dryope/cli/Command" "FMT" "Lcom/example/dryope/dryope/cli/Command;").before a0 Z = true := hw _ (List.mem_of_getElem? (i := 9) rfl)
theorem tw_10 {Z : State} {a0 : Array Value} (hw : ∀ d ∈ tables_1, d.before a0 Z = true) : (Jvm.Cond.fieldLink "com/example/dryope/dryope/cli/CommandTakesPinLaw" (19 : Nat) "com/example/dryope/dryope/cli/Command" "CHECK" "Lcom/example/dryope/dryope/cli/Command;").before a0 Z = true := hw _ (List.mem_of_getElem? (i := 10) rfl)
theorem tw_11 {Z : State} {a0 : Array Value} (hw : ∀ d ∈ tables_1, d.before a0 Z = true) : (Jvm.Cond.laysStatic "com/example/dryope/dryope/cli/Command" "CHECK" "Lcom/example/dryope/dryope/cli/Command;").before a0 Z = true := hw _ (List.mem_of_getElem? (i := 11) rfl)
theorem tw_12 {Z : State} {a0 : Array Value} (hw : ∀ d ∈ tables_1, d.before a0 Z = true) : (Jvm.Cond.classLink "com/example/dryope/dryope/cli/CommandTakesPinLaw" (22 : Nat) "com/example/dryope/dryope/cli/Command$Option").before a0 Z = true := hw _ (List.mem_of_getElem? (i := 12) rfl)
theorem tw_13 {Z : State} {a0 : Array Value} (hw : ∀ d ∈ tables_1, d.before a0 Z = true) : (Jvm.Cond.arrayOver (Jvm.ClassFile.FieldType.object "com/example/dryope/dryope/cli/Command$Option")).before a0 Z = true := hw _ (List.mem_of_getElem? (i := 13) rfl)
theorem tw_14 {Z : State} {a0 : Array Value} (hw : ∀ d ∈ tables_1, d.before a0 Z = true) : (Jvm.Cond.fieldLink "com/example/dryope/dryope/cli/CommandTakesPinLaw" (24 : Nat) "com/example/dryope/dryope/cli/Command$Option" "FROM" "Lcom/example/dryope/dryope/cli/Command$Option;").before a0 Z = true := hw _ (List.mem_of_getElem? (i := 14) rfl)
theorem tw_15 {Z : State} {a0 : Array Value} (hw : ∀ d ∈ tables_1, d.before a0 Z = true) : (Jvm.Cond.initialized "com/example/dryope/dryope/cli/Command$Option").before a0 Z = true := hw _ (List.mem_of_getElem? (i := 15) rfl)
theorem tw_16 {Z : State} {a0 : Array Value} (hw : ∀ d ∈ tables_1, d.before a0 Z = true) : (Jvm.Cond.laysStatic "com/example/dryope/dryope/cli/Command$Option" "FROM" "Lcom/example/dryope/dryope/cli/Command$Option;").before a0 Z = true := hw _ (List.mem_of_getElem? (i := 16) rfl)
theorem tw_18 {Z : State} {a0 : Array Value} (hw : ∀ d ∈ tables_1, d.before a0 Z = true) : (Jvm.Cond.fieldLink "com/example/dryope/dryope/cli/CommandTakesPinLaw" (28 : Nat) "com/example/dryope/dryope/cli/Command$Option" "TO" "Lcom/example/dryope/dryope/cli/Command$Option;").before a0 Z = true := hw _ (List.mem_of_getElem? (i := 18) rfl)
theorem tw_19 {Z : State} {a0 : Array Value} (hw : ∀ d ∈ tables_1, d.before a0 Z = true) : (Jvm.Cond.laysStatic "com/example/dryope/dryope/cli/Command$Option" "TO" "Lcom/example/dryope/dryope/cli/Command$Option;").before a0 Z = true := hw _ (List.mem_of_getElem? (i := 19) rfl)
theorem tw_20 {Z : State} {a0 : Array Value} (hw : ∀ d ∈ tables_1, d.before a0 Z = true) : (Jvm.Cond.fieldLink "com/example/dryope/dryope/cli/CommandTakesPinLaw" (31 : Nat) "com/example/dryope/dryope/cli/Command$Option" "ALLOW_ENV" "Lcom/example/dryope/dryope/cli/Command$Option;").before a0 Z = true := hw _ (List.mem_of_getElem? (i := 20) rfl)
theorem tw_21 {Z : State} {a0 : Array Value} (hw : ∀ d ∈ tables_1, d.before a0 Z = true) : (Jvm.Cond.laysStatic "com/example/dryope/dryope/cli/Command$Option" "ALLOW_ENV" "Lcom/example/dryope/dryope/cli/Command$Option;").before a0 Z = true := hw _ (List.mem_of_getElem? (i := 21) rfl)
theorem tw_22 {Z : State} {a0 : Array Value} (hw : ∀ d ∈ tables_1, d.before a0 Z = true) : (Jvm.Cond.fieldLink "com/example/dryope/dryope/cli/CommandTakesPinLaw" (34 : Nat) "com/example/dryope/dryope/cli/Command$Option" "ALLOW_FILES" "Lcom/example/dryope/dryope/cli/Command$Option;").before a0 Z = true := hw _ (List.mem_of_getElem? (i := 22) rfl)
theorem tw_23 {Z : State} {a0 : Array Value} (hw : ∀ d ∈ tables_1, d.before a0 Z = true) : (Jvm.Cond.laysStatic "com/example/dryope/dryope/cli/Command$Option" "ALLOW_FILES" "Lcom/example/dryope/dryope/cli/Command$Option;").before a0 Z = true := hw _ (List.mem_of_getElem? (i := 23) rfl)
theorem tw_24 {Z : State} {a0 : Array Value} (hw : ∀ d ∈ tables_1, d.before a0 Z = true) : (Jvm.Cond.arrayClass Jvm.ClassFile.FieldType.int).before a0 Z = true := hw _ (List.mem_of_getElem? (i := 24) rfl)
theorem tw_25 {Z : State} {a0 : Array Value} (hw : ∀ d ∈ tables_1, d.before a0 Z = true) : (Jvm.Cond.methodLink "com/example/dryope/dryope/cli/CommandTakesPinLaw" (37 : Nat) ({ cls := "com/example/dryope/dryope/cli/Command", name := "takes", desc := "(Lcom/example/dryope/dryope/cli/Command$Option;)Z" } : Jvm.MethodName)).before a0 Z = true := hw _ (List.mem_of_getElem? (i := 25) rfl)
theorem tw_26 {Z : State} {a0 : Array Value} (hw : ∀ d ∈ tables_1, d.before a0 Z = true) : (Jvm.Cond.declares ({ cls := "com/example/dryope/dryope/cli/Command", name := "takes", desc := "(Lcom/example/dryope/dryope/cli/Command$Option;)Z" } : Jvm.MethodName)).before a0 Z = true := hw _ (List.mem_of_getElem? (i := 26) rfl)
theorem tw_27 {Z : State} {a0 : Array Value} (hw : ∀ d ∈ tables_1, d.before a0 Z = true) : (Jvm.Cond.instanceMethod ({ cls := "com/example/dryope/dryope/cli/Command", name := "takes", desc := "(Lcom/example/dryope/dryope/cli/Command$Option;)Z" } : Jvm.MethodName)).before a0 Z = true := hw _ (List.mem_of_getElem? (i := 27) rfl)
theorem tw_28 {Z : State} {a0 : Array Value} (hw : ∀ d ∈ tables_1, d.before a0 Z = true) : (Jvm.Cond.selects "com/example/dryope/dryope/cli/Command" ({ cls := "com/example/dryope/dryope/cli/Command", name := "takes", desc := "(Lcom/example/dryope/dryope/cli/Command$Option;)Z" } : Jvm.MethodName) ({ cls := "com/example/dryope/dryope/cli/Command", name := "takes", desc := "(Lcom/example/dryope/dryope/cli/Command$Option;)Z" } : Jvm.MethodName)).before a0 Z = true := hw _ (List.mem_of_getElem? (i := 28) rfl)
theorem tw_29 {Z : State} {a0 : Array Value} (hw : ∀ d ∈ tables_1, d.before a0 Z = true) : (Jvm.Cond.code ({ cls := "com/example/dryope/dryope/cli/Command", name := "takes", desc := "(Lcom/example/dryope/dryope/cli/Command$Option;)Z" } : Jvm.MethodName) prog_7_method_5_code (6 : Nat) (Option.some Jvm.ClassFile.FieldType.boolean)).before a0 Z = true := hw _ (List.mem_of_getElem? (i := 29) rfl)
theorem tw_30 {Z : State} {a0 : Array Value} (hw : ∀ d ∈ tables_1, d.before a0 Z = true) : (Jvm.Cond.fieldLink "com/example/dryope/dryope/cli/Command" (46 : Nat) "com/example/dryope/dryope/cli/Command" "options" "[Lcom/example/dryope/dryope/cli/Command$Option;").before a0 Z = true := hw _ (List.mem_of_getElem? (i := 30) rfl)
theorem d1_0 : decode prog_7_method_5_code 0 = .ok (.aload_n 0, 1) := by decide +kernel
theorem d1_1 : decode prog_7_method_5_code 1 = .ok (.getfield 46, 3) := by decide +kernel
theorem d1_4 : decode prog_7_method_5_code 4 = .ok (.astore_n 2, 1) := by decide +kernel
theorem d1_5 : decode prog_7_method_5_code 5 = .ok (.aload_n 2, 1) := by decide +kernel
theorem d1_6 : decode prog_7_method_5_code 6 = .ok (.arraylength, 1) := by decide +kernel
theorem d1_7 : decode prog_7_method_5_code 7 = .ok (.istore_n 3, 1) := by decide +kernel
theorem d1_8 : decode prog_7_method_5_code 8 = .ok (.iconst 0, 1) := by decide +kernel
theorem d1_9 : decode prog_7_method_5_code 9 = .ok (.istore 4, 2) := by decide +kernel
theorem d1_11 : decode prog_7_method_5_code 11 = .ok (.iload 4, 2) := by decide +kernel
theorem d1_13 : decode prog_7_method_5_code 13 = .ok (.iload_n 3, 1) := by decide +kernel
theorem d1_14 : decode prog_7_method_5_code 14 = .ok (.if_icmp .ge 23, 3) := by decide +kernel
theorem d1_17 : decode prog_7_method_5_code 17 = .ok (.aload_n 2, 1) := by decide +kernel
theorem d1_18 : decode prog_7_method_5_code 18 = .ok (.iload 4, 2) := by decide +kernel
theorem d1_20 : decode prog_7_method_5_code 20 = .ok (.aaload, 1) := by decide +kernel
theorem d1_21 : decode prog_7_method_5_code 21 = .ok (.astore 5, 2) := by decide +kernel
theorem d1_23 : decode prog_7_method_5_code 23 = .ok (.aload 5, 2) := by decide +kernel
theorem d1_25 : decode prog_7_method_5_code 25 = .ok (.aload_n 1, 1) := by decide +kernel
theorem d1_26 : decode prog_7_method_5_code 26 = .ok (.if_acmp .ne 5, 3) := by decide +kernel
theorem d1_31 : decode prog_7_method_5_code 31 = .ok (.iinc 4 1, 3) := by decide +kernel
theorem d1_34 : decode prog_7_method_5_code 34 = .ok (.goto (-23), 3) := by decide +kernel
theorem d1_37 : decode prog_7_method_5_code 37 = .ok (.iconst 0, 1) := by decide +kernel
theorem d1_38 : decode prog_7_method_5_code 38 = .ok (.ireturn, 1) := by decide +kernel
theorem pn_0 : plainName "com/example/dryope/dryope/cli/Command" = true := by first | (simp [plainName, overriddenIn]; done) | decide +kernel
abbrev mN_1 : MethodName := ⟨"com/example/dryope/dryope/cli/Command", "takes", "(Lcom/example/dryope/dryope/cli/Command$Option;)Z"⟩
theorem d1_29 : decode prog_7_method_5_code 29 = .ok (.iconst 1, 1) := by decide +kernel
theorem d1_30 : decode prog_7_method_5_code 30 = .ok (.ireturn, 1) := by decide +kernel
theorem pd_0 : parseMethodDescriptor "(Lcom/example/dryope/dryope/cli/Command$Option;)Z" = some ⟨[(.object "com/example/dryope/dryope/cli/Command$Option")], some .boolean⟩ := by decide +kernel
theorem pn_1 : plainName "com/example/dryope/dryope/cli/CommandTakesPinLaw" = true := by first | (simp [plainName, overriddenIn]; done) | decide +kernel
theorem ef_1l1n (m : MethodId) (x0 : Addr) : entryFrame m #[(.ref x0), .null] 6 = mkF m 0 #[.val (.ref x0), .val .null, .unset, .unset, .unset, .unset] [] := by first | (simp [entryFrame, mkF, argsToLocals, Value.category]; done) | rfl
def Q1l1n (Z : State) (a : Addr) (oa : Addr) (ko : ClassId) (o0 : Addr) (h0 : Heap) (n0 : Nat) (v : Option Value) (h : Heap) (L : List Loc) : Prop := ∃ z : Int32, v = some (.int z) ∧ (z.toInt = 0) ∧ Fr n0 L ∧ h = h0
set_option maxRecDepth 65536 in
set_option maxHeartbeats 40000000 in
theorem rm1l1n (l : Launch) (Z : State) (a0 : Array Value) (hw : ∀ d ∈ tables_1, d.before a0 Z = true) (ws : List Jvm.Cond) (a : Addr) (oa : Addr) (ko : ClassId) (o0 : Addr) (h0 : Heap) (n0 : Nat) (Z0 : n0 ≤ h0.size) (F_options_a : Fld Z h0 a cN_0 "options" cN_1 (.ref oa)) (V_oa : Arv Z h0 oa ko (.object cN_2) (1 : Int32) [(.ref o0)] .null) :
    CT l mN_1 prog_7_method_5_code 6 (some .boolean) ws ({ frames := 0, cells := 0, slots := 0, locals := 0 } : Room) #[(.ref a), .null] Z h0 (Q1l1n Z a oa ko o0 h0 n0) := by
  refine body_of (plainFor_of_name pn_0) ?_
  intro p e s m below meth c s₁ hx dB hret hlk hml hown0 hnm X0 e0 hZ
  have hown : s.vm.findClass cN_0 = some m.cls := hown0
  have N0 := Fr.nil n0
  rw [ef_1l1n]
  show Wk p e below (FN s (Q1l1n Z a oa ko o0 h0 n0) 0 0) s₁ (mkF m 0 #[.val (.ref a), .val .null, .unset, .unset, .unset, .unset] [])
  refine w_aloadN X0 hx (.ref a) (dB d1_0) 1 rfl rfl rfl ?_
  refine w_getF X0 hx hZ hown e0 (host := "") (Or.inl (tw_30 hw)) Via.refl F_options_a (dB d1_1) 4 rfl (fun T1 X1 e1 => ?_)
  refine w_astoreN X1 hx (dB d1_4) 5 rfl rfl #[.val (.ref a), .val .null, .val (.ref oa), .unset, .unset, .unset] rfl ?_
  refine w_aloadN X1 hx (.ref oa) (dB d1_5) 6 rfl rfl rfl ?_
  refine w_length X1 hx hZ e1 V_oa (dB d1_6) 7 rfl ?_
  refine w_istoreN X1 hx (dB d1_7) 8 rfl #[.val (.ref a), .val .null, .val (.ref oa), .val (.int (1 : Int32)), .unset, .unset] rfl ?_
  refine w_iconst X1 hx (dB d1_8) 9 rfl (0 : Int32) (by decide) ?_
  refine w_istore X1 hx (dB d1_9) 11 rfl #[.val (.ref a), .val .null, .val (.ref oa), .val (.int (1 : Int32)), .val (.int (0 : Int32)), .unset] rfl ?_
  refine w_iload X1 hx (0 : Int32) (dB d1_11) 13 rfl rfl ?_
  refine w_iloadN X1 hx (1 : Int32) (dB d1_13) 14 rfl rfl ?_
  refine w_icmp_ge X1 hx 0 1 (by decide) (by decide) (dB d1_14) 37 17 (fun c2 => ?_) (fun c2 => ?_)
  ·exfalso; omega
  ·refine w_aloadN X1 hx (.ref oa) (dB d1_17) 18 rfl rfl rfl ?_
   refine w_iload X1 hx (0 : Int32) (dB d1_18) 20 rfl rfl ?_
   refine w_aaload X1 hx hZ e1 V_oa ⟨by decide, by decide⟩ (j := (0 : Int32)) (v := (.ref o0)) rfl (dB d1_20) 21 rfl ?_
   refine w_astore X1 hx (dB d1_21) 23 rfl rfl #[.val (.ref a), .val .null, .val (.ref oa), .val (.int (1 : Int32)), .val (.int (0 : Int32)), .val (.ref o0)] rfl ?_
   refine w_aload X1 hx (.ref o0) (dB d1_23) 25 rfl rfl rfl ?_
   refine w_aloadN X1 hx .null (dB d1_25) 26 rfl rfl rfl ?_
   refine w_acmp X1 hx rfl rfl (dB d1_26) false (decide_eq_false nofun) 31 (by decide) (by decide) ?_
   refine w_iinc X1 hx (dB d1_31) 34 rfl rfl (1 : Int32) (by rw [(show (1 : Int32) = (0 : Int32) + (1 : Int32) from by decide)]; rfl) #[.val (.ref a), .val .null, .val (.ref oa), .val (.int (1 : Int32)), .val (.int (1 : Int32)), .val (.ref o0)] rfl ?_
   refine w_goto X1 hx (dB d1_34) 11 ?_
   refine w_iload X1 hx (1 : Int32) (dB d1_11) 13 rfl rfl ?_
   refine w_iloadN X1 hx (1 : Int32) (dB d1_13) 14 rfl rfl ?_
   refine w_icmp_ge X1 hx 1 1 (by decide) (by decide) (dB d1_14) 37 17 (fun c3 => ?_) (fun c3 => ?_)
   ·refine w_iconst X1 hx (dB d1_37) 38 rfl (0 : Int32) (by decide) ?_
    refine w_retN X1 hx hlk (t := .boolean) hret (by simp) (dB d1_38) (by decide) (by decide) ?_
    rw [e1]
    exact ⟨(0 : Int32), rfl, by have hz : (0 : Int32).toInt = 0 := (by decide); omega, N0, rfl⟩
   ·exfalso; omega
theorem ef_1l1x (m : MethodId) (x0 : Addr) (x1 : Addr) : entryFrame m #[(.ref x0), (.ref x1)] 6 = mkF m 0 #[.val (.ref x0), .val (.ref x1), .unset, .unset, .unset, .unset] [] := by first | (simp [entryFrame, mkF, argsToLocals, Value.category]; done) | rfl
def Q1l1x (Z : State) (a : Addr) (op : Addr) (oa : Addr) (ko : ClassId) (o0 : Addr) (h0 : Heap) (n0 : Nat) (v : Option Value) (h : Heap) (L : List Loc) : Prop := ∃ z : Int32, v = some (.int z) ∧ (z.toInt = 0) ∧ Fr n0 L ∧ h = h0
set_option maxRecDepth 65536 in
set_option maxHeartbeats 40000000 in
theorem rm1l1x (l : Launch) (Z : State) (a0 : Array Value) (hw : ∀ d ∈ tables_1, d.before a0 Z = true) (ws : List Jvm.Cond) (a : Addr) (op : Addr) (oa : Addr) (ko : ClassId) (o0 : Addr) (h0 : Heap) (n0 : Nat) (Z0 : n0 ≤ h0.size) (F_options_a : Fld Z h0 a cN_0 "options" cN_1 (.ref oa)) (V_oa : Arv Z h0 oa ko (.object cN_2) (1 : Int32) [(.ref o0)] .null) (ne0 : o0 ≠ op) :
    CT l mN_1 prog_7_method_5_code 6 (some .boolean) ws ({ frames := 0, cells := 0, slots := 0, locals := 0 } : Room) #[(.ref a), (.ref op)] Z h0 (Q1l1x Z a op oa ko o0 h0 n0) := by
  refine body_of (plainFor_of_name pn_0) ?_
  intro p e s m below meth c s₁ hx dB hret hlk hml hown0 hnm X0 e0 hZ
  have hown : s.vm.findClass cN_0 = some m.cls := hown0
  have N0 := Fr.nil n0
  rw [ef_1l1x]
  show Wk p e below (FN s (Q1l1x Z a op oa ko o0 h0 n0) 0 0) s₁ (mkF m 0 #[.val (.ref a), .val (.ref op), .unset, .unset, .unset, .unset] [])
  refine w_aloadN X0 hx (.ref a) (dB d1_0) 1 rfl rfl rfl ?_
  refine w_getF X0 hx hZ hown e0 (host := "") (Or.inl (tw_30 hw)) Via.refl F_options_a (dB d1_1) 4 rfl (fun T4 X4 e4 => ?_)
  refine w_astoreN X4 hx (dB d1_4) 5 rfl rfl #[.val (.ref a), .val (.ref op), .val (.ref oa), .unset, .unset, .unset] rfl ?_
  refine w_aloadN X4 hx (.ref oa) (dB d1_5) 6 rfl rfl rfl ?_
  refine w_length X4 hx hZ e4 V_oa (dB d1_6) 7 rfl ?_
  refine w_istoreN X4 hx (dB d1_7) 8 rfl #[.val (.ref a), .val (.ref op), .val (.ref oa), .val (.int (1 : Int32)), .unset, .unset] rfl ?_
  refine w_iconst X4 hx (dB d1_8) 9 rfl (0 : Int32) (by decide) ?_
  refine w_istore X4 hx (dB d1_9) 11 rfl #[.val (.ref a), .val (.ref op), .val (.ref oa), .val (.int (1 : Int32)), .val (.int (0 : Int32)), .unset] rfl ?_
  refine w_iload X4 hx (0 : Int32) (dB d1_11) 13 rfl rfl ?_
  refine w_iloadN X4 hx (1 : Int32) (dB d1_13) 14 rfl rfl ?_
  refine w_icmp_ge X4 hx 0 1 (by decide) (by decide) (dB d1_14) 37 17 (fun c5 => ?_) (fun c5 => ?_)
  ·exfalso; omega
  ·refine w_aloadN X4 hx (.ref oa) (dB d1_17) 18 rfl rfl rfl ?_
   refine w_iload X4 hx (0 : Int32) (dB d1_18) 20 rfl rfl ?_
   refine w_aaload X4 hx hZ e4 V_oa ⟨by decide, by decide⟩ (j := (0 : Int32)) (v := (.ref o0)) rfl (dB d1_20) 21 rfl ?_
   refine w_astore X4 hx (dB d1_21) 23 rfl rfl #[.val (.ref a), .val (.ref op), .val (.ref oa), .val (.int (1 : Int32)), .val (.int (0 : Int32)), .val (.ref o0)] rfl ?_
   refine w_aload X4 hx (.ref o0) (dB d1_23) 25 rfl rfl rfl ?_
   refine w_aloadN X4 hx (.ref op) (dB d1_25) 26 rfl rfl rfl ?_
   refine w_acmp X4 hx rfl rfl (dB d1_26) false (decide_eq_false fun q => ne0 (Value.ref.inj q)) 31 (by decide) (by decide) ?_
   refine w_iinc X4 hx (dB d1_31) 34 rfl rfl (1 : Int32) (by rw [(show (1 : Int32) = (0 : Int32) + (1 : Int32) from by decide)]; rfl) #[.val (.ref a), .val (.ref op), .val (.ref oa), .val (.int (1 : Int32)), .val (.int (1 : Int32)), .val (.ref o0)] rfl ?_
   refine w_goto X4 hx (dB d1_34) 11 ?_
   refine w_iload X4 hx (1 : Int32) (dB d1_11) 13 rfl rfl ?_
   refine w_iloadN X4 hx (1 : Int32) (dB d1_13) 14 rfl rfl ?_
   refine w_icmp_ge X4 hx 1 1 (by decide) (by decide) (dB d1_14) 37 17 (fun c6 => ?_) (fun c6 => ?_)
   ·refine w_iconst X4 hx (dB d1_37) 38 rfl (0 : Int32) (by decide) ?_
    refine w_retN X4 hx hlk (t := .boolean) hret (by simp) (dB d1_38) (by decide) (by decide) ?_
    rw [e4]
    exact ⟨(0 : Int32), rfl, by have hz : (0 : Int32).toInt = 0 := (by decide); omega, N0, rfl⟩
   ·exfalso; omega
theorem ef_1l1j0 (m : MethodId) (x0 : Addr) (x1 : Addr) : entryFrame m #[(.ref x0), (.ref x1)] 6 = mkF m 0 #[.val (.ref x0), .val (.ref x1), .unset, .unset, .unset, .unset] [] := by first | (simp [entryFrame, mkF, argsToLocals, Value.category]; done) | rfl
def Q1l1j0 (Z : State) (a : Addr) (o0 : Addr) (oa : Addr) (ko : ClassId) (h0 : Heap) (n0 : Nat) (v : Option Value) (h : Heap) (L : List Loc) : Prop := ∃ z : Int32, v = some (.int z) ∧ (z.toInt = 1) ∧ Fr n0 L ∧ h = h0
set_option maxRecDepth 65536 in
set_option maxHeartbeats 40000000 in
theorem rm1l1j0 (l : Launch) (Z : State) (a0 : Array Value) (hw : ∀ d ∈ tables_1, d.before a0 Z = true) (ws : List Jvm.Cond) (a : Addr) (o0 : Addr) (oa : Addr) (ko : ClassId) (h0 : Heap) (n0 : Nat) (Z0 : n0 ≤ h0.size) (F_options_a : Fld Z h0 a cN_0 "options" cN_1 (.ref oa)) (V_oa : Arv Z h0 oa ko (.object cN_2) (1 : Int32) [(.ref o0)] .null) :
    CT l mN_1 prog_7_method_5_code 6 (some .boolean) ws ({ frames := 0, cells := 0, slots := 0, locals := 0 } : Room) #[(.ref a), (.ref o0)] Z h0 (Q1l1j0 Z a o0 oa ko h0 n0) := by
  refine body_of (plainFor_of_name pn_0) ?_
  intro p e s m below meth c s₁ hx dB hret hlk hml hown0 hnm X0 e0 hZ
  have hown : s.vm.findClass cN_0 = some m.cls := hown0
  have N0 := Fr.nil n0
  rw [ef_1l1j0]
  show Wk p e below (FN s (Q1l1j0 Z a o0 oa ko h0 n0) 0 0) s₁ (mkF m 0 #[.val (.ref a), .val (.ref o0), .unset, .unset, .unset, .unset] [])
  refine w_aloadN X0 hx (.ref a) (dB d1_0) 1 rfl rfl rfl ?_
  refine w_getF X0 hx hZ hown e0 (host := "") (Or.inl (tw_30 hw)) Via.refl F_options_a (dB d1_1) 4 rfl (fun T7 X7 e7 => ?_)
  refine w_astoreN X7 hx (dB d1_4) 5 rfl rfl #[.val (.ref a), .val (.ref o0), .val (.ref oa), .unset, .unset, .unset] rfl ?_
  refine w_aloadN X7 hx (.ref oa) (dB d1_5) 6 rfl rfl rfl ?_
  refine w_length X7 hx hZ e7 V_oa (dB d1_6) 7 rfl ?_
  refine w_istoreN X7 hx (dB d1_7) 8 rfl #[.val (.ref a), .val (.ref o0), .val (.ref oa), .val (.int (1 : Int32)), .unset, .unset] rfl ?_
  refine w_iconst X7 hx (dB d1_8) 9 rfl (0 : Int32) (by decide) ?_
  refine w_istore X7 hx (dB d1_9) 11 rfl #[.val (.ref a), .val (.ref o0), .val (.ref oa), .val (.int (1 : Int32)), .val (.int (0 : Int32)), .unset] rfl ?_
  refine w_iload X7 hx (0 : Int32) (dB d1_11) 13 rfl rfl ?_
  refine w_iloadN X7 hx (1 : Int32) (dB d1_13) 14 rfl rfl ?_
  refine w_icmp_ge X7 hx 0 1 (by decide) (by decide) (dB d1_14) 37 17 (fun c8 => ?_) (fun c8 => ?_)
  ·exfalso; omega
  ·refine w_aloadN X7 hx (.ref oa) (dB d1_17) 18 rfl rfl rfl ?_
   refine w_iload X7 hx (0 : Int32) (dB d1_18) 20 rfl rfl ?_
   refine w_aaload X7 hx hZ e7 V_oa ⟨by decide, by decide⟩ (j := (0 : Int32)) (v := (.ref o0)) rfl (dB d1_20) 21 rfl ?_
   refine w_astore X7 hx (dB d1_21) 23 rfl rfl #[.val (.ref a), .val (.ref o0), .val (.ref oa), .val (.int (1 : Int32)), .val (.int (0 : Int32)), .val (.ref o0)] rfl ?_
   refine w_aload X7 hx (.ref o0) (dB d1_23) 25 rfl rfl rfl ?_
   refine w_aloadN X7 hx (.ref o0) (dB d1_25) 26 rfl rfl rfl ?_
   refine w_acmp X7 hx rfl rfl (dB d1_26) true (decide_eq_true rfl) 29 (by decide) (by decide) ?_
   refine w_iconst X7 hx (dB d1_29) 30 rfl (1 : Int32) (by decide) ?_
   refine w_retN X7 hx hlk (t := .boolean) hret (by simp) (dB d1_30) (by decide) (by decide) ?_
   rw [e7]
   exact ⟨(1 : Int32), rfl, by have hz : (1 : Int32).toInt = 1 := (by decide); omega, N0, rfl⟩
theorem ef_1l3n (m : MethodId) (x0 : Addr) : entryFrame m #[(.ref x0), .null] 6 = mkF m 0 #[.val (.ref x0), .val .null, .unset, .unset, .unset, .unset] [] := by first | (simp [entryFrame, mkF, argsToLocals, Value.category]; done) | rfl
def Q1l3n (Z : State) (a : Addr) (oa : Addr) (ko : ClassId) (o0 : Addr) (o1 : Addr) (o2 : Addr) (h0 : Heap) (n0 : Nat) (v : Option Value) (h : Heap) (L : List Loc) : Prop := ∃ z : Int32, v = some (.int z) ∧ (z.toInt = 0) ∧ Fr n0 L ∧ h = h0
set_option maxRecDepth 65536 in
set_option maxHeartbeats 40000000 in
theorem rm1l3n (l : Launch) (Z : State) (a0 : Array Value) (hw : ∀ d ∈ tables_1, d.before a0 Z = true) (ws : List Jvm.Cond) (a : Addr) (oa : Addr) (ko : ClassId) (o0 : Addr) (o1 : Addr) (o2 : Addr) (h0 : Heap) (n0 : Nat) (Z0 : n0 ≤ h0.size) (F_options_a : Fld Z h0 a cN_0 "options" cN_1 (.ref oa)) (V_oa : Arv Z h0 oa ko (.object cN_2) (3 : Int32) [(.ref o0), (.ref o1), (.ref o2)] .null) :
    CT l mN_1 prog_7_method_5_code 6 (some .boolean) ws ({ frames := 0, cells := 0, slots := 0, locals := 0 } : Room) #[(.ref a), .null] Z h0 (Q1l3n Z a oa ko o0 o1 o2 h0 n0) := by
  refine body_of (plainFor_of_name pn_0) ?_
  intro p e s m below meth c s₁ hx dB hret hlk hml hown0 hnm X0 e0 hZ
  have hown : s.vm.findClass cN_0 = some m.cls := hown0
  have N0 := Fr.nil n0
  rw [ef_1l3n]
  show Wk p e below (FN s (Q1l3n Z a oa ko o0 o1 o2 h0 n0) 0 0) s₁ (mkF m 0 #[.val (.ref a), .val .null, .unset, .unset, .unset, .unset] [])
  refine w_aloadN X0 hx (.ref a) (dB d1_0) 1 rfl rfl rfl ?_
  refine w_getF X0 hx hZ hown e0 (host := "") (Or.inl (tw_30 hw)) Via.refl F_options_a (dB d1_1) 4 rfl (fun T9 X9 e9 => ?_)
  refine w_astoreN X9 hx (dB d1_4) 5 rfl rfl #[.val (.ref a), .val .null, .val (.ref oa), .unset, .unset, .unset] rfl ?_
  refine w_aloadN X9 hx (.ref oa) (dB d1_5) 6 rfl rfl rfl ?_
  refine w_length X9 hx hZ e9 V_oa (dB d1_6) 7 rfl ?_
  refine w_istoreN X9 hx (dB d1_7) 8 rfl #[.val (.ref a), .val .null, .val (.ref oa), .val (.int (3 : Int32)), .unset, .unset] rfl ?_
  refine w_iconst X9 hx (dB d1_8) 9 rfl (0 : Int32) (by decide) ?_
  refine w_istore X9 hx (dB d1_9) 11 rfl #[.val (.ref a), .val .null, .val (.ref oa), .val (.int (3 : Int32)), .val (.int (0 : Int32)), .unset] rfl ?_
  refine w_iload X9 hx (0 : Int32) (dB d1_11) 13 rfl rfl ?_
  refine w_iloadN X9 hx (3 : Int32) (dB d1_13) 14 rfl rfl ?_
  refine w_icmp_ge X9 hx 0 3 (by decide) (by decide) (dB d1_14) 37 17 (fun c10 => ?_) (fun c10 => ?_)
  ·exfalso; omega
  ·refine w_aloadN X9 hx (.ref oa) (dB d1_17) 18 rfl rfl rfl ?_
   refine w_iload X9 hx (0 : Int32) (dB d1_18) 20 rfl rfl ?_
   refine w_aaload X9 hx hZ e9 V_oa ⟨by decide, by decide⟩ (j := (0 : Int32)) (v := (.ref o0)) rfl (dB d1_20) 21 rfl ?_
   refine w_astore X9 hx (dB d1_21) 23 rfl rfl #[.val (.ref a), .val .null, .val (.ref oa), .val (.int (3 : Int32)), .val (.int (0 : Int32)), .val (.ref o0)] rfl ?_
   refine w_aload X9 hx (.ref o0) (dB d1_23) 25 rfl rfl rfl ?_
   refine w_aloadN X9 hx .null (dB d1_25) 26 rfl rfl rfl ?_
   refine w_acmp X9 hx rfl rfl (dB d1_26) false (decide_eq_false nofun) 31 (by decide) (by decide) ?_
   refine w_iinc X9 hx (dB d1_31) 34 rfl rfl (1 : Int32) (by rw [(show (1 : Int32) = (0 : Int32) + (1 : Int32) from by decide)]; rfl) #[.val (.ref a), .val .null, .val (.ref oa), .val (.int (3 : Int32)), .val (.int (1 : Int32)), .val (.ref o0)] rfl ?_
   refine w_goto X9 hx (dB d1_34) 11 ?_
   refine w_iload X9 hx (1 : Int32) (dB d1_11) 13 rfl rfl ?_
   refine w_iloadN X9 hx (3 : Int32) (dB d1_13) 14 rfl rfl ?_
   refine w_icmp_ge X9 hx 1 3 (by decide) (by decide) (dB d1_14) 37 17 (fun c11 => ?_) (fun c11 => ?_)
   ·exfalso; omega
   ·refine w_aloadN X9 hx (.ref oa) (dB d1_17) 18 rfl rfl rfl ?_
    refine w_iload X9 hx (1 : Int32) (dB d1_18) 20 rfl rfl ?_
    refine w_aaload X9 hx hZ e9 V_oa ⟨by decide, by decide⟩ (j := (1 : Int32)) (v := (.ref o1)) rfl (dB d1_20) 21 rfl ?_
    refine w_astore X9 hx (dB d1_21) 23 rfl rfl #[.val (.ref a), .val .null, .val (.ref oa), .val (.int (3 : Int32)), .val (.int (1 : Int32)), .val (.ref o1)] rfl ?_
    refine w_aload X9 hx (.ref o1) (dB d1_23) 25 rfl rfl rfl ?_
    refine w_aloadN X9 hx .null (dB d1_25) 26 rfl rfl rfl ?_
    refine w_acmp X9 hx rfl rfl (dB d1_26) false (decide_eq_false nofun) 31 (by decide) (by decide) ?_
    refine w_iinc X9 hx (dB d1_31) 34 rfl rfl (2 : Int32) (by rw [(show (2 : Int32) = (1 : Int32) + (1 : Int32) from by decide)]; rfl) #[.val (.ref a), .val .null, .val (.ref oa), .val (.int (3 : Int32)), .val (.int (2 : Int32)), .val (.ref o1)] rfl ?_
    refine w_goto X9 hx (dB d1_34) 11 ?_
    refine w_iload X9 hx (2 : Int32) (dB d1_11) 13 rfl rfl ?_
    refine w_iloadN X9 hx (3 : Int32) (dB d1_13) 14 rfl rfl ?_
    refine w_icmp_ge X9 hx 2 3 (by decide) (by decide) (dB d1_14) 37 17 (fun c12 => ?_) (fun c12 => ?_)
    ·exfalso; omega
    ·refine w_aloadN X9 hx (.ref oa) (dB d1_17) 18 rfl rfl rfl ?_
     refine w_iload X9 hx (2 : Int32) (dB d1_18) 20 rfl rfl ?_
     refine w_aaload X9 hx hZ e9 V_oa ⟨by decide, by decide⟩ (j := (2 : Int32)) (v := (.ref o2)) rfl (dB d1_20) 21 rfl ?_
     refine w_astore X9 hx (dB d1_21) 23 rfl rfl #[.val (.ref a), .val .null, .val (.ref oa), .val (.int (3 : Int32)), .val (.int (2 : Int32)), .val (.ref o2)] rfl ?_
     refine w_aload X9 hx (.ref o2) (dB d1_23) 25 rfl rfl rfl ?_
     refine w_aloadN X9 hx .null (dB d1_25) 26 rfl rfl rfl ?_
     refine w_acmp X9 hx rfl rfl (dB d1_26) false (decide_eq_false nofun) 31 (by decide) (by decide) ?_
     refine w_iinc X9 hx (dB d1_31) 34 rfl rfl (3 : Int32) (by rw [(show (3 : Int32) = (2 : Int32) + (1 : Int32) from by decide)]; rfl) #[.val (.ref a), .val .null, .val (.ref oa), .val (.int (3 : Int32)), .val (.int (3 : Int32)), .val (.ref o2)] rfl ?_
     refine w_goto X9 hx (dB d1_34) 11 ?_
     refine w_iload X9 hx (3 : Int32) (dB d1_11) 13 rfl rfl ?_
     refine w_iloadN X9 hx (3 : Int32) (dB d1_13) 14 rfl rfl ?_
     refine w_icmp_ge X9 hx 3 3 (by decide) (by decide) (dB d1_14) 37 17 (fun c13 => ?_) (fun c13 => ?_)
     ·refine w_iconst X9 hx (dB d1_37) 38 rfl (0 : Int32) (by decide) ?_
      refine w_retN X9 hx hlk (t := .boolean) hret (by simp) (dB d1_38) (by decide) (by decide) ?_
      rw [e9]
      exact ⟨(0 : Int32), rfl, by have hz : (0 : Int32).toInt = 0 := (by decide); omega, N0, rfl⟩
     ·exfalso; omega
theorem ef_1l3x (m : MethodId) (x0 : Addr) (x1 : Addr) : entryFrame m #[(.ref x0), (.ref x1)] 6 = mkF m 0 #[.val (.ref x0), .val (.ref x1), .unset, .unset, .unset, .unset] [] := by first | (simp [entryFrame, mkF, argsToLocals, Value.category]; done) | rfl
def Q1l3x (Z : State) (a : Addr) (op : Addr) (oa : Addr) (ko : ClassId) (o0 : Addr) (o1 : Addr) (o2 : Addr) (h0 : Heap) (n0 : Nat) (v : Option Value) (h : Heap) (L : List Loc) : Prop := ∃ z : Int32, v = some (.int z) ∧ (z.toInt = 0) ∧ Fr n0 L ∧ h = h0
set_option maxRecDepth 65536 in
set_option maxHeartbeats 40000000 in
theorem rm1l3x (l : Launch) (Z : State) (a0 : Array Value) (hw : ∀ d ∈ tables_1, d.before a0 Z = true) (ws : List Jvm.Cond) (a : Addr) (op : Addr) (oa : Addr) (ko : ClassId) (o0 : Addr) (o1 : Addr) (o2 : Addr) (h0 : Heap) (n0 : Nat) (Z0 : n0 ≤ h0.size) (F_options_a : Fld Z h0 a cN_0 "options" cN_1 (.ref oa)) (V_oa : Arv Z h0 oa ko (.object cN_2) (3 : Int32) [(.ref o0), (.ref o1), (.ref o2)] .null) (ne0 : o0 ≠ op) (ne1 : o1 ≠ op) (ne2 : o2 ≠ op) :
    CT l mN_1 prog_7_method_5_code 6 (some .boolean) ws ({ frames := 0, cells := 0, slots := 0, locals := 0 } : Room) #[(.ref a), (.ref op)] Z h0 (Q1l3x Z a op oa ko o0 o1 o2 h0 n0) := by
  refine body_of (plainFor_of_name pn_0) ?_
  intro p e s m below meth c s₁ hx dB hret hlk hml hown0 hnm X0 e0 hZ
  have hown : s.vm.findClass cN_0 = some m.cls := hown0
  have N0 := Fr.nil n0
  rw [ef_1l3x]
  show Wk p e below (FN s (Q1l3x Z a op oa ko o0 o1 o2 h0 n0) 0 0) s₁ (mkF m 0 #[.val (.ref a), .val (.ref op), .unset, .unset, .unset, .unset] [])
  refine w_aloadN X0 hx (.ref a) (dB d1_0) 1 rfl rfl rfl ?_
  refine w_getF X0 hx hZ hown e0 (host := "") (Or.inl (tw_30 hw)) Via.refl F_options_a (dB d1_1) 4 rfl (fun T14 X14 e14 => ?_)
  refine w_astoreN X14 hx (dB d1_4) 5 rfl rfl #[.val (.ref a), .val (.ref op), .val (.ref oa), .unset, .unset, .unset] rfl ?_
  refine w_aloadN X14 hx (.ref oa) (dB d1_5) 6 rfl rfl rfl ?_
  refine w_length X14 hx hZ e14 V_oa (dB d1_6) 7 rfl ?_
  refine w_istoreN X14 hx (dB d1_7) 8 rfl #[.val (.ref a), .val (.ref op), .val (.ref oa), .val (.int (3 : Int32)), .unset, .unset] rfl ?_
  refine w_iconst X14 hx (dB d1_8) 9 rfl (0 : Int32) (by decide) ?_
  refine w_istore X14 hx (dB d1_9) 11 rfl #[.val (.ref a), .val (.ref op), .val (.ref oa), .val (.int (3 : Int32)), .val (.int (0 : Int32)), .unset] rfl ?_
  refine w_iload X14 hx (0 : Int32) (dB d1_11) 13 rfl rfl ?_
  refine w_iloadN X14 hx (3 : Int32) (dB d1_13) 14 rfl rfl ?_
  refine w_icmp_ge X14 hx 0 3 (by decide) (by decide) (dB d1_14) 37 17 (fun c15 => ?_) (fun c15 => ?_)
  ·exfalso; omega
  ·refine w_aloadN X14 hx (.ref oa) (dB d1_17) 18 rfl rfl rfl ?_
   refine w_iload X14 hx (0 : Int32) (dB d1_18) 20 rfl rfl ?_
   refine w_aaload X14 hx hZ e14 V_oa ⟨by decide, by decide⟩ (j := (0 : Int32)) (v := (.ref o0)) rfl (dB d1_20) 21 rfl ?_
   refine w_astore X14 hx (dB d1_21) 23 rfl rfl #[.val (.ref a), .val (.ref op), .val (.ref oa), .val (.int (3 : Int32)), .val (.int (0 : Int32)), .val (.ref o0)] rfl ?_
   refine w_aload X14 hx (.ref o0) (dB d1_23) 25 rfl rfl rfl ?_
   refine w_aloadN X14 hx (.ref op) (dB d1_25) 26 rfl rfl rfl ?_
   refine w_acmp X14 hx rfl rfl (dB d1_26) false (decide_eq_false fun q => ne0 (Value.ref.inj q)) 31 (by decide) (by decide) ?_
   refine w_iinc X14 hx (dB d1_31) 34 rfl rfl (1 : Int32) (by rw [(show (1 : Int32) = (0 : Int32) + (1 : Int32) from by decide)]; rfl) #[.val (.ref a), .val (.ref op), .val (.ref oa), .val (.int (3 : Int32)), .val (.int (1 : Int32)), .val (.ref o0)] rfl ?_
   refine w_goto X14 hx (dB d1_34) 11 ?_
   refine w_iload X14 hx (1 : Int32) (dB d1_11) 13 rfl rfl ?_
   refine w_iloadN X14 hx (3 : Int32) (dB d1_13) 14 rfl rfl ?_
   refine w_icmp_ge X14 hx 1 3 (by decide) (by decide) (dB d1_14) 37 17 (fun c16 => ?_) (fun c16 => ?_)
   ·exfalso; omega
   ·refine w_aloadN X14 hx (.ref oa) (dB d1_17) 18 rfl rfl rfl ?_
    refine w_iload X14 hx (1 : Int32) (dB d1_18) 20 rfl rfl ?_
    refine w_aaload X14 hx hZ e14 V_oa ⟨by decide, by decide⟩ (j := (1 : Int32)) (v := (.ref o1)) rfl (dB d1_20) 21 rfl ?_
    refine w_astore X14 hx (dB d1_21) 23 rfl rfl #[.val (.ref a), .val (.ref op), .val (.ref oa), .val (.int (3 : Int32)), .val (.int (1 : Int32)), .val (.ref o1)] rfl ?_
    refine w_aload X14 hx (.ref o1) (dB d1_23) 25 rfl rfl rfl ?_
    refine w_aloadN X14 hx (.ref op) (dB d1_25) 26 rfl rfl rfl ?_
    refine w_acmp X14 hx rfl rfl (dB d1_26) false (decide_eq_false fun q => ne1 (Value.ref.inj q)) 31 (by decide) (by decide) ?_
    refine w_iinc X14 hx (dB d1_31) 34 rfl rfl (2 : Int32) (by rw [(show (2 : Int32) = (1 : Int32) + (1 : Int32) from by decide)]; rfl) #[.val (.ref a), .val (.ref op), .val (.ref oa), .val (.int (3 : Int32)), .val (.int (2 : Int32)), .val (.ref o1)] rfl ?_
    refine w_goto X14 hx (dB d1_34) 11 ?_
    refine w_iload X14 hx (2 : Int32) (dB d1_11) 13 rfl rfl ?_
    refine w_iloadN X14 hx (3 : Int32) (dB d1_13) 14 rfl rfl ?_
    refine w_icmp_ge X14 hx 2 3 (by decide) (by decide) (dB d1_14) 37 17 (fun c17 => ?_) (fun c17 => ?_)
    ·exfalso; omega
    ·refine w_aloadN X14 hx (.ref oa) (dB d1_17) 18 rfl rfl rfl ?_
     refine w_iload X14 hx (2 : Int32) (dB d1_18) 20 rfl rfl ?_
     refine w_aaload X14 hx hZ e14 V_oa ⟨by decide, by decide⟩ (j := (2 : Int32)) (v := (.ref o2)) rfl (dB d1_20) 21 rfl ?_
     refine w_astore X14 hx (dB d1_21) 23 rfl rfl #[.val (.ref a), .val (.ref op), .val (.ref oa), .val (.int (3 : Int32)), .val (.int (2 : Int32)), .val (.ref o2)] rfl ?_
     refine w_aload X14 hx (.ref o2) (dB d1_23) 25 rfl rfl rfl ?_
     refine w_aloadN X14 hx (.ref op) (dB d1_25) 26 rfl rfl rfl ?_
     refine w_acmp X14 hx rfl rfl (dB d1_26) false (decide_eq_false fun q => ne2 (Value.ref.inj q)) 31 (by decide) (by decide) ?_
     refine w_iinc X14 hx (dB d1_31) 34 rfl rfl (3 : Int32) (by rw [(show (3 : Int32) = (2 : Int32) + (1 : Int32) from by decide)]; rfl) #[.val (.ref a), .val (.ref op), .val (.ref oa), .val (.int (3 : Int32)), .val (.int (3 : Int32)), .val (.ref o2)] rfl ?_
     refine w_goto X14 hx (dB d1_34) 11 ?_
     refine w_iload X14 hx (3 : Int32) (dB d1_11) 13 rfl rfl ?_
     refine w_iloadN X14 hx (3 : Int32) (dB d1_13) 14 rfl rfl ?_
     refine w_icmp_ge X14 hx 3 3 (by decide) (by decide) (dB d1_14) 37 17 (fun c18 => ?_) (fun c18 => ?_)
     ·refine w_iconst X14 hx (dB d1_37) 38 rfl (0 : Int32) (by decide) ?_
      refine w_retN X14 hx hlk (t := .boolean) hret (by simp) (dB d1_38) (by decide) (by decide) ?_
      rw [e14]
      exact ⟨(0 : Int32), rfl, by have hz : (0 : Int32).toInt = 0 := (by decide); omega, N0, rfl⟩
     ·exfalso; omega
theorem ef_1l3j0 (m : MethodId) (x0 : Addr) (x1 : Addr) : entryFrame m #[(.ref x0), (.ref x1)] 6 = mkF m 0 #[.val (.ref x0), .val (.ref x1), .unset, .unset, .unset, .unset] [] := by first | (simp [entryFrame, mkF, argsToLocals, Value.category]; done) | rfl
def Q1l3j0 (Z : State) (a : Addr) (o0 : Addr) (oa : Addr) (ko : ClassId) (o1 : Addr) (o2 : Addr) (h0 : Heap) (n0 : Nat) (v : Option Value) (h : Heap) (L : List Loc) : Prop := ∃ z : Int32, v = some (.int z) ∧ (z.toInt = 1) ∧ Fr n0 L ∧ h = h0
set_option maxRecDepth 65536 in
set_option maxHeartbeats 40000000 in
theorem rm1l3j0 (l : Launch) (Z : State) (a0 : Array Value) (hw : ∀ d ∈ tables_1, d.before a0 Z = true) (ws : List Jvm.Cond) (a : Addr) (o0 : Addr) (oa : Addr) (ko : ClassId) (o1 : Addr) (o2 : Addr) (h0 : Heap) (n0 : Nat) (Z0 : n0 ≤ h0.size) (F_options_a : Fld Z h0 a cN_0 "options" cN_1 (.ref oa)) (V_oa : Arv Z h0 oa ko (.object cN_2) (3 : Int32) [(.ref o0), (.ref o1), (.ref o2)] .null) :
    CT l mN_1 prog_7_method_5_code 6 (some .boolean) ws ({ frames := 0, cells := 0, slots := 0, locals := 0 } : Room) #[(.ref a), (.ref o0)] Z h0 (Q1l3j0 Z a o0 oa ko o1 o2 h0 n0) := by
  refine body_of (plainFor_of_name pn_0) ?_
  intro p e s m below meth c s₁ hx dB hret hlk hml hown0 hnm X0 e0 hZ
  have hown : s.vm.findClass cN_0 = some m.cls := hown0
  have N0 := Fr.nil n0
  rw [ef_1l3j0]
  show Wk p e below (FN s (Q1l3j0 Z a o0 oa ko o1 o2 h0 n0) 0 0) s₁ (mkF m 0 #[.val (.ref a), .val (.ref o0), .unset, .unset, .unset, .unset] [])
  refine w_aloadN X0 hx (.ref a) (dB d1_0) 1 rfl rfl rfl ?_
  refine w_getF X0 hx hZ hown e0 (host := "") (Or.inl (tw_30 hw)) Via.refl F_options_a (dB d1_1) 4 rfl (fun T19 X19 e19 => ?_)
  refine w_astoreN X19 hx (dB d1_4) 5 rfl rfl #[.val (.ref a), .val (.ref o0), .val (.ref oa), .unset, .unset, .unset] rfl ?_
  refine w_aloadN X19 hx (.ref oa) (dB d1_5) 6 rfl rfl rfl ?_
  refine w_length X19 hx hZ e19 V_oa (dB d1_6) 7 rfl ?_
  refine w_istoreN X19 hx (dB d1_7) 8 rfl #[.val (.ref a), .val (.ref o0), .val (.ref oa), .val (.int (3 : Int32)), .unset, .unset] rfl ?_
  refine w_iconst X19 hx (dB d1_8) 9 rfl (0 : Int32) (by decide) ?_
  refine w_istore X19 hx (dB d1_9) 11 rfl #[.val (.ref a), .val (.ref o0), .val (.ref oa), .val (.int (3 : Int32)), .val (.int (0 : Int32)), .unset] rfl ?_
  refine w_iload X19 hx (0 : Int32) (dB d1_11) 13 rfl rfl ?_
  refine w_iloadN X19 hx (3 : Int32) (dB d1_13) 14 rfl rfl ?_
  refine w_icmp_ge X19 hx 0 3 (by decide) (by decide) (dB d1_14) 37 17 (fun c20 => ?_) (fun c20 => ?_)
  ·exfalso; omega
  ·refine w_aloadN X19 hx (.ref oa) (dB d1_17) 18 rfl rfl rfl ?_
   refine w_iload X19 hx (0 : Int32) (dB d1_18) 20 rfl rfl ?_
   refine w_aaload X19 hx hZ e19 V_oa ⟨by decide, by decide⟩ (j := (0 : Int32)) (v := (.ref o0)) rfl (dB d1_20) 21 rfl ?_
   refine w_astore X19 hx (dB d1_21) 23 rfl rfl #[.val (.ref a), .val (.ref o0), .val (.ref oa), .val (.int (3 : Int32)), .val (.int (0 : Int32)), .val (.ref o0)] rfl ?_
   refine w_aload X19 hx (.ref o0) (dB d1_23) 25 rfl rfl rfl ?_
   refine w_aloadN X19 hx (.ref o0) (dB d1_25) 26 rfl rfl rfl ?_
   refine w_acmp X19 hx rfl rfl (dB d1_26) true (decide_eq_true rfl) 29 (by decide) (by decide) ?_
   refine w_iconst X19 hx (dB d1_29) 30 rfl (1 : Int32) (by decide) ?_
   refine w_retN X19 hx hlk (t := .boolean) hret (by simp) (dB d1_30) (by decide) (by decide) ?_
   rw [e19]
   exact ⟨(1 : Int32), rfl, by have hz : (1 : Int32).toInt = 1 := (by decide); omega, N0, rfl⟩
theorem ef_1l3j1 (m : MethodId) (x0 : Addr) (x1 : Addr) : entryFrame m #[(.ref x0), (.ref x1)] 6 = mkF m 0 #[.val (.ref x0), .val (.ref x1), .unset, .unset, .unset, .unset] [] := by first | (simp [entryFrame, mkF, argsToLocals, Value.category]; done) | rfl
def Q1l3j1 (Z : State) (a : Addr) (o1 : Addr) (oa : Addr) (ko : ClassId) (o0 : Addr) (o2 : Addr) (h0 : Heap) (n0 : Nat) (v : Option Value) (h : Heap) (L : List Loc) : Prop := ∃ z : Int32, v = some (.int z) ∧ (z.toInt = 1) ∧ Fr n0 L ∧ h = h0
set_option maxRecDepth 65536 in
set_option maxHeartbeats 40000000 in
theorem rm1l3j1 (l : Launch) (Z : State) (a0 : Array Value) (hw : ∀ d ∈ tables_1, d.before a0 Z = true) (ws : List Jvm.Cond) (a : Addr) (o1 : Addr) (oa : Addr) (ko : ClassId) (o0 : Addr) (o2 : Addr) (h0 : Heap) (n0 : Nat) (Z0 : n0 ≤ h0.size) (F_options_a : Fld Z h0 a cN_0 "options" cN_1 (.ref oa)) (V_oa : Arv Z h0 oa ko (.object cN_2) (3 : Int32) [(.ref o0), (.ref o1), (.ref o2)] .null) (ne0 : o0 ≠ o1) :
    CT l mN_1 prog_7_method_5_code 6 (some .boolean) ws ({ frames := 0, cells := 0, slots := 0, locals := 0 } : Room) #[(.ref a), (.ref o1)] Z h0 (Q1l3j1 Z a o1 oa ko o0 o2 h0 n0) := by
  refine body_of (plainFor_of_name pn_0) ?_
  intro p e s m below meth c s₁ hx dB hret hlk hml hown0 hnm X0 e0 hZ
  have hown : s.vm.findClass cN_0 = some m.cls := hown0
  have N0 := Fr.nil n0
  rw [ef_1l3j1]
  show Wk p e below (FN s (Q1l3j1 Z a o1 oa ko o0 o2 h0 n0) 0 0) s₁ (mkF m 0 #[.val (.ref a), .val (.ref o1), .unset, .unset, .unset, .unset] [])
  refine w_aloadN X0 hx (.ref a) (dB d1_0) 1 rfl rfl rfl ?_
  refine w_getF X0 hx hZ hown e0 (host := "") (Or.inl (tw_30 hw)) Via.refl F_options_a (dB d1_1) 4 rfl (fun T21 X21 e21 => ?_)
  refine w_astoreN X21 hx (dB d1_4) 5 rfl rfl #[.val (.ref a), .val (.ref o1), .val (.ref oa), .unset, .unset, .unset] rfl ?_
  refine w_aloadN X21 hx (.ref oa) (dB d1_5) 6 rfl rfl rfl ?_
  refine w_length X21 hx hZ e21 V_oa (dB d1_6) 7 rfl ?_
  refine w_istoreN X21 hx (dB d1_7) 8 rfl #[.val (.ref a), .val (.ref o1), .val (.ref oa), .val (.int (3 : Int32)), .unset, .unset] rfl ?_
  refine w_iconst X21 hx (dB d1_8) 9 rfl (0 : Int32) (by decide) ?_
  refine w_istore X21 hx (dB d1_9) 11 rfl #[.val (.ref a), .val (.ref o1), .val (.ref oa), .val (.int (3 : Int32)), .val (.int (0 : Int32)), .unset] rfl ?_
  refine w_iload X21 hx (0 : Int32) (dB d1_11) 13 rfl rfl ?_
  refine w_iloadN X21 hx (3 : Int32) (dB d1_13) 14 rfl rfl ?_
  refine w_icmp_ge X21 hx 0 3 (by decide) (by decide) (dB d1_14) 37 17 (fun c22 => ?_) (fun c22 => ?_)
  ·exfalso; omega
  ·refine w_aloadN X21 hx (.ref oa) (dB d1_17) 18 rfl rfl rfl ?_
   refine w_iload X21 hx (0 : Int32) (dB d1_18) 20 rfl rfl ?_
   refine w_aaload X21 hx hZ e21 V_oa ⟨by decide, by decide⟩ (j := (0 : Int32)) (v := (.ref o0)) rfl (dB d1_20) 21 rfl ?_
   refine w_astore X21 hx (dB d1_21) 23 rfl rfl #[.val (.ref a), .val (.ref o1), .val (.ref oa), .val (.int (3 : Int32)), .val (.int (0 : Int32)), .val (.ref o0)] rfl ?_
   refine w_aload X21 hx (.ref o0) (dB d1_23) 25 rfl rfl rfl ?_
   refine w_aloadN X21 hx (.ref o1) (dB d1_25) 26 rfl rfl rfl ?_
   refine w_acmp X21 hx rfl rfl (dB d1_26) false (decide_eq_false fun q => ne0 (Value.ref.inj q)) 31 (by decide) (by decide) ?_
   refine w_iinc X21 hx (dB d1_31) 34 rfl rfl (1 : Int32) (by rw [(show (1 : Int32) = (0 : Int32) + (1 : Int32) from by decide)]; rfl) #[.val (.ref a), .val (.ref o1), .val (.ref oa), .val (.int (3 : Int32)), .val (.int (1 : Int32)), .val (.ref o0)] rfl ?_
   refine w_goto X21 hx (dB d1_34) 11 ?_
   refine w_iload X21 hx (1 : Int32) (dB d1_11) 13 rfl rfl ?_
   refine w_iloadN X21 hx (3 : Int32) (dB d1_13) 14 rfl rfl ?_
   refine w_icmp_ge X21 hx 1 3 (by decide) (by decide) (dB d1_14) 37 17 (fun c23 => ?_) (fun c23 => ?_)
   ·exfalso; omega
   ·refine w_aloadN X21 hx (.ref oa) (dB d1_17) 18 rfl rfl rfl ?_
    refine w_iload X21 hx (1 : Int32) (dB d1_18) 20 rfl rfl ?_
    refine w_aaload X21 hx hZ e21 V_oa ⟨by decide, by decide⟩ (j := (1 : Int32)) (v := (.ref o1)) rfl (dB d1_20) 21 rfl ?_
    refine w_astore X21 hx (dB d1_21) 23 rfl rfl #[.val (.ref a), .val (.ref o1), .val (.ref oa), .val (.int (3 : Int32)), .val (.int (1 : Int32)), .val (.ref o1)] rfl ?_
    refine w_aload X21 hx (.ref o1) (dB d1_23) 25 rfl rfl rfl ?_
    refine w_aloadN X21 hx (.ref o1) (dB d1_25) 26 rfl rfl rfl ?_
    refine w_acmp X21 hx rfl rfl (dB d1_26) true (decide_eq_true rfl) 29 (by decide) (by decide) ?_
    refine w_iconst X21 hx (dB d1_29) 30 rfl (1 : Int32) (by decide) ?_
    refine w_retN X21 hx hlk (t := .boolean) hret (by simp) (dB d1_30) (by decide) (by decide) ?_
    rw [e21]
    exact ⟨(1 : Int32), rfl, by have hz : (1 : Int32).toInt = 1 := (by decide); omega, N0, rfl⟩
theorem ef_1l3j2 (m : MethodId) (x0 : Addr) (x1 : Addr) : entryFrame m #[(.ref x0), (.ref x1)] 6 = mkF m 0 #[.val (.ref x0), .val (.ref x1), .unset, .unset, .unset, .unset] [] := by first | (simp [entryFrame, mkF, argsToLocals, Value.category]; done) | rfl
def Q1l3j2 (Z : State) (a : Addr) (o2 : Addr) (oa : Addr) (ko : ClassId) (o0 : Addr) (o1 : Addr) (h0 : Heap) (n0 : Nat) (v : Option Value) (h : Heap) (L : List Loc) : Prop := ∃ z : Int32, v = some (.int z) ∧ (z.toInt = 1) ∧ Fr n0 L ∧ h = h0
set_option maxRecDepth 65536 in
set_option maxHeartbeats 40000000 in
theorem rm1l3j2 (l : Launch) (Z : State) (a0 : Array Value) (hw : ∀ d ∈ tables_1, d.before a0 Z = true) (ws : List Jvm.Cond) (a : Addr) (o2 : Addr) (oa : Addr) (ko : ClassId) (o0 : Addr) (o1 : Addr) (h0 : Heap) (n0 : Nat) (Z0 : n0 ≤ h0.size) (F_options_a : Fld Z h0 a cN_0 "options" cN_1 (.ref oa)) (V_oa : Arv Z h0 oa ko (.object cN_2) (3 : Int32) [(.ref o0), (.ref o1), (.ref o2)] .null) (ne0 : o0 ≠ o2) (ne1 : o1 ≠ o2) :
    CT l mN_1 prog_7_method_5_code 6 (some .boolean) ws ({ frames := 0, cells := 0, slots := 0, locals := 0 } : Room) #[(.ref a), (.ref o2)] Z h0 (Q1l3j2 Z a o2 oa ko o0 o1 h0 n0) := by
  refine body_of (plainFor_of_name pn_0) ?_
  intro p e s m below meth c s₁ hx dB hret hlk hml hown0 hnm X0 e0 hZ
  have hown : s.vm.findClass cN_0 = some m.cls := hown0
  have N0 := Fr.nil n0
  rw [ef_1l3j2]
  show Wk p e below (FN s (Q1l3j2 Z a o2 oa ko o0 o1 h0 n0) 0 0) s₁ (mkF m 0 #[.val (.ref a), .val (.ref o2), .unset, .unset, .unset, .unset] [])
  refine w_aloadN X0 hx (.ref a) (dB d1_0) 1 rfl rfl rfl ?_
  refine w_getF X0 hx hZ hown e0 (host := "") (Or.inl (tw_30 hw)) Via.refl F_options_a (dB d1_1) 4 rfl (fun T24 X24 e24 => ?_)
  refine w_astoreN X24 hx (dB d1_4) 5 rfl rfl #[.val (.ref a), .val (.ref o2), .val (.ref oa), .unset, .unset, .unset] rfl ?_
  refine w_aloadN X24 hx (.ref oa) (dB d1_5) 6 rfl rfl rfl ?_
  refine w_length X24 hx hZ e24 V_oa (dB d1_6) 7 rfl ?_
  refine w_istoreN X24 hx (dB d1_7) 8 rfl #[.val (.ref a), .val (.ref o2), .val (.ref oa), .val (.int (3 : Int32)), .unset, .unset] rfl ?_
  refine w_iconst X24 hx (dB d1_8) 9 rfl (0 : Int32) (by decide) ?_
  refine w_istore X24 hx (dB d1_9) 11 rfl #[.val (.ref a), .val (.ref o2), .val (.ref oa), .val (.int (3 : Int32)), .val (.int (0 : Int32)), .unset] rfl ?_
  refine w_iload X24 hx (0 : Int32) (dB d1_11) 13 rfl rfl ?_
  refine w_iloadN X24 hx (3 : Int32) (dB d1_13) 14 rfl rfl ?_
  refine w_icmp_ge X24 hx 0 3 (by decide) (by decide) (dB d1_14) 37 17 (fun c25 => ?_) (fun c25 => ?_)
  ·exfalso; omega
  ·refine w_aloadN X24 hx (.ref oa) (dB d1_17) 18 rfl rfl rfl ?_
   refine w_iload X24 hx (0 : Int32) (dB d1_18) 20 rfl rfl ?_
   refine w_aaload X24 hx hZ e24 V_oa ⟨by decide, by decide⟩ (j := (0 : Int32)) (v := (.ref o0)) rfl (dB d1_20) 21 rfl ?_
   refine w_astore X24 hx (dB d1_21) 23 rfl rfl #[.val (.ref a), .val (.ref o2), .val (.ref oa), .val (.int (3 : Int32)), .val (.int (0 : Int32)), .val (.ref o0)] rfl ?_
   refine w_aload X24 hx (.ref o0) (dB d1_23) 25 rfl rfl rfl ?_
   refine w_aloadN X24 hx (.ref o2) (dB d1_25) 26 rfl rfl rfl ?_
   refine w_acmp X24 hx rfl rfl (dB d1_26) false (decide_eq_false fun q => ne0 (Value.ref.inj q)) 31 (by decide) (by decide) ?_
   refine w_iinc X24 hx (dB d1_31) 34 rfl rfl (1 : Int32) (by rw [(show (1 : Int32) = (0 : Int32) + (1 : Int32) from by decide)]; rfl) #[.val (.ref a), .val (.ref o2), .val (.ref oa), .val (.int (3 : Int32)), .val (.int (1 : Int32)), .val (.ref o0)] rfl ?_
   refine w_goto X24 hx (dB d1_34) 11 ?_
   refine w_iload X24 hx (1 : Int32) (dB d1_11) 13 rfl rfl ?_
   refine w_iloadN X24 hx (3 : Int32) (dB d1_13) 14 rfl rfl ?_
   refine w_icmp_ge X24 hx 1 3 (by decide) (by decide) (dB d1_14) 37 17 (fun c26 => ?_) (fun c26 => ?_)
   ·exfalso; omega
   ·refine w_aloadN X24 hx (.ref oa) (dB d1_17) 18 rfl rfl rfl ?_
    refine w_iload X24 hx (1 : Int32) (dB d1_18) 20 rfl rfl ?_
    refine w_aaload X24 hx hZ e24 V_oa ⟨by decide, by decide⟩ (j := (1 : Int32)) (v := (.ref o1)) rfl (dB d1_20) 21 rfl ?_
    refine w_astore X24 hx (dB d1_21) 23 rfl rfl #[.val (.ref a), .val (.ref o2), .val (.ref oa), .val (.int (3 : Int32)), .val (.int (1 : Int32)), .val (.ref o1)] rfl ?_
    refine w_aload X24 hx (.ref o1) (dB d1_23) 25 rfl rfl rfl ?_
    refine w_aloadN X24 hx (.ref o2) (dB d1_25) 26 rfl rfl rfl ?_
    refine w_acmp X24 hx rfl rfl (dB d1_26) false (decide_eq_false fun q => ne1 (Value.ref.inj q)) 31 (by decide) (by decide) ?_
    refine w_iinc X24 hx (dB d1_31) 34 rfl rfl (2 : Int32) (by rw [(show (2 : Int32) = (1 : Int32) + (1 : Int32) from by decide)]; rfl) #[.val (.ref a), .val (.ref o2), .val (.ref oa), .val (.int (3 : Int32)), .val (.int (2 : Int32)), .val (.ref o1)] rfl ?_
    refine w_goto X24 hx (dB d1_34) 11 ?_
    refine w_iload X24 hx (2 : Int32) (dB d1_11) 13 rfl rfl ?_
    refine w_iloadN X24 hx (3 : Int32) (dB d1_13) 14 rfl rfl ?_
    refine w_icmp_ge X24 hx 2 3 (by decide) (by decide) (dB d1_14) 37 17 (fun c27 => ?_) (fun c27 => ?_)
    ·exfalso; omega
    ·refine w_aloadN X24 hx (.ref oa) (dB d1_17) 18 rfl rfl rfl ?_
     refine w_iload X24 hx (2 : Int32) (dB d1_18) 20 rfl rfl ?_
     refine w_aaload X24 hx hZ e24 V_oa ⟨by decide, by decide⟩ (j := (2 : Int32)) (v := (.ref o2)) rfl (dB d1_20) 21 rfl ?_
     refine w_astore X24 hx (dB d1_21) 23 rfl rfl #[.val (.ref a), .val (.ref o2), .val (.ref oa), .val (.int (3 : Int32)), .val (.int (2 : Int32)), .val (.ref o2)] rfl ?_
     refine w_aload X24 hx (.ref o2) (dB d1_23) 25 rfl rfl rfl ?_
     refine w_aloadN X24 hx (.ref o2) (dB d1_25) 26 rfl rfl rfl ?_
     refine w_acmp X24 hx rfl rfl (dB d1_26) true (decide_eq_true rfl) 29 (by decide) (by decide) ?_
     refine w_iconst X24 hx (dB d1_29) 30 rfl (1 : Int32) (by decide) ?_
     refine w_retN X24 hx hlk (t := .boolean) hret (by simp) (dB d1_30) (by decide) (by decide) ?_
     rw [e24]
     exact ⟨(1 : Int32), rfl, by have hz : (1 : Int32).toInt = 1 := (by decide); omega, N0, rfl⟩
theorem ef_1l4n (m : MethodId) (x0 : Addr) : entryFrame m #[(.ref x0), .null] 6 = mkF m 0 #[.val (.ref x0), .val .null, .unset, .unset, .unset, .unset] [] := by first | (simp [entryFrame, mkF, argsToLocals, Value.category]; done) | rfl
def Q1l4n (Z : State) (a : Addr) (oa : Addr) (ko : ClassId) (o0 : Addr) (o1 : Addr) (o2 : Addr) (o3 : Addr) (h0 : Heap) (n0 : Nat) (v : Option Value) (h : Heap) (L : List Loc) : Prop := ∃ z : Int32, v = some (.int z) ∧ (z.toInt = 0) ∧ Fr n0 L ∧ h = h0
set_option maxRecDepth 65536 in
set_option maxHeartbeats 40000000 in
theorem rm1l4n (l : Launch) (Z : State) (a0 : Array Value) (hw : ∀ d ∈ tables_1, d.before a0 Z = true) (ws : List Jvm.Cond) (a : Addr) (oa : Addr) (ko : ClassId) (o0 : Addr) (o1 : Addr) (o2 : Addr) (o3 : Addr) (h0 : Heap) (n0 : Nat) (Z0 : n0 ≤ h0.size) (F_options_a : Fld Z h0 a cN_0 "options" cN_1 (.ref oa)) (V_oa : Arv Z h0 oa ko (.object cN_2) (4 : Int32) [(.ref o0), (.ref o1), (.ref o2), (.ref o3)] .null) :
    CT l mN_1 prog_7_method_5_code 6 (some .boolean) ws ({ frames := 0, cells := 0, slots := 0, locals := 0 } : Room) #[(.ref a), .null] Z h0 (Q1l4n Z a oa ko o0 o1 o2 o3 h0 n0) := by
  refine body_of (plainFor_of_name pn_0) ?_
  intro p e s m below meth c s₁ hx dB hret hlk hml hown0 hnm X0 e0 hZ
  have hown : s.vm.findClass cN_0 = some m.cls := hown0
  have N0 := Fr.nil n0
  rw [ef_1l4n]
  show Wk p e below (FN s (Q1l4n Z a oa ko o0 o1 o2 o3 h0 n0) 0 0) s₁ (mkF m 0 #[.val (.ref a), .val .null, .unset, .unset, .unset, .unset] [])
  refine w_aloadN X0 hx (.ref a) (dB d1_0) 1 rfl rfl rfl ?_
  refine w_getF X0 hx hZ hown e0 (host := "") (Or.inl (tw_30 hw)) Via.refl F_options_a (dB d1_1) 4 rfl (fun T28 X28 e28 => ?_)
  refine w_astoreN X28 hx (dB d1_4) 5 rfl rfl #[.val (.ref a), .val .null, .val (.ref oa), .unset, .unset, .unset] rfl ?_
  refine w_aloadN X28 hx (.ref oa) (dB d1_5) 6 rfl rfl rfl ?_
  refine w_length X28 hx hZ e28 V_oa (dB d1_6) 7 rfl ?_
  refine w_istoreN X28 hx (dB d1_7) 8 rfl #[.val (.ref a), .val .null, .val (.ref oa), .val (.int (4 : Int32)), .unset, .unset] rfl ?_
  refine w_iconst X28 hx (dB d1_8) 9 rfl (0 : Int32) (by decide) ?_
  refine w_istore X28 hx (dB d1_9) 11 rfl #[.val (.ref a), .val .null, .val (.ref oa), .val (.int (4 : Int32)), .val (.int (0 : Int32)), .unset] rfl ?_
  refine w_iload X28 hx (0 : Int32) (dB d1_11) 13 rfl rfl ?_
  refine w_iloadN X28 hx (4 : Int32) (dB d1_13) 14 rfl rfl ?_
  refine w_icmp_ge X28 hx 0 4 (by decide) (by decide) (dB d1_14) 37 17 (fun c29 => ?_) (fun c29 => ?_)
  ·exfalso; omega
  ·refine w_aloadN X28 hx (.ref oa) (dB d1_17) 18 rfl rfl rfl ?_
   refine w_iload X28 hx (0 : Int32) (dB d1_18) 20 rfl rfl ?_
   refine w_aaload X28 hx hZ e28 V_oa ⟨by decide, by decide⟩ (j := (0 : Int32)) (v := (.ref o0)) rfl (dB d1_20) 21 rfl ?_
   refine w_astore X28 hx (dB d1_21) 23 rfl rfl #[.val (.ref a), .val .null, .val (.ref oa), .val (.int (4 : Int32)), .val (.int (0 : Int32)), .val (.ref o0)] rfl ?_
   refine w_aload X28 hx (.ref o0) (dB d1_23) 25 rfl rfl rfl ?_
   refine w_aloadN X28 hx .null (dB d1_25) 26 rfl rfl rfl ?_
   refine w_acmp X28 hx rfl rfl (dB d1_26) false (decide_eq_false nofun) 31 (by decide) (by decide) ?_
   refine w_iinc X28 hx (dB d1_31) 34 rfl rfl (1 : Int32) (by rw [(show (1 : Int32) = (0 : Int32) + (1 : Int32) from by decide)]; rfl) #[.val (.ref a), .val .null, .val (.ref oa), .val (.int (4 : Int32)), .val (.int (1 : Int32)), .val (.ref o0)] rfl ?_
   refine w_goto X28 hx (dB d1_34) 11 ?_
   refine w_iload X28 hx (1 : Int32) (dB d1_11) 13 rfl rfl ?_
   refine w_iloadN X28 hx (4 : Int32) (dB d1_13) 14 rfl rfl ?_
   refine w_icmp_ge X28 hx 1 4 (by decide) (by decide) (dB d1_14) 37 17 (fun c30 => ?_) (fun c30 => ?_)
   ·exfalso; omega
   ·refine w_aloadN X28 hx (.ref oa) (dB d1_17) 18 rfl rfl rfl ?_
    refine w_iload X28 hx (1 : Int32) (dB d1_18) 20 rfl rfl ?_
    refine w_aaload X28 hx hZ e28 V_oa ⟨by decide, by decide⟩ (j := (1 : Int32)) (v := (.ref o1)) rfl (dB d1_20) 21 rfl ?_
    refine w_astore X28 hx (dB d1_21) 23 rfl rfl #[.val (.ref a), .val .null, .val (.ref oa), .val (.int (4 : Int32)), .val (.int (1 : Int32)), .val (.ref o1)] rfl ?_
    refine w_aload X28 hx (.ref o1) (dB d1_23) 25 rfl rfl rfl ?_
    refine w_aloadN X28 hx .null (dB d1_25) 26 rfl rfl rfl ?_
    refine w_acmp X28 hx rfl rfl (dB d1_26) false (decide_eq_false nofun) 31 (by decide) (by decide) ?_
    refine w_iinc X28 hx (dB d1_31) 34 rfl rfl (2 : Int32) (by rw [(show (2 : Int32) = (1 : Int32) + (1 : Int32) from by decide)]; rfl) #[.val (.ref a), .val .null, .val (.ref oa), .val (.int (4 : Int32)), .val (.int (2 : Int32)), .val (.ref o1)] rfl ?_
    refine w_goto X28 hx (dB d1_34) 11 ?_
    refine w_iload X28 hx (2 : Int32) (dB d1_11) 13 rfl rfl ?_
    refine w_iloadN X28 hx (4 : Int32) (dB d1_13) 14 rfl rfl ?_
    refine w_icmp_ge X28 hx 2 4 (by decide) (by decide) (dB d1_14) 37 17 (fun c31 => ?_) (fun c31 => ?_)
    ·exfalso; omega
    ·refine w_aloadN X28 hx (.ref oa) (dB d1_17) 18 rfl rfl rfl ?_
     refine w_iload X28 hx (2 : Int32) (dB d1_18) 20 rfl rfl ?_
     refine w_aaload X28 hx hZ e28 V_oa ⟨by decide, by decide⟩ (j := (2 : Int32)) (v := (.ref o2)) rfl (dB d1_20) 21 rfl ?_
     refine w_astore X28 hx (dB d1_21) 23 rfl rfl #[.val (.ref a), .val .null, .val (.ref oa), .val (.int (4 : Int32)), .val (.int (2 : Int32)), .val (.ref o2)] rfl ?_
     refine w_aload X28 hx (.ref o2) (dB d1_23) 25 rfl rfl rfl ?_
     refine w_aloadN X28 hx .null (dB d1_25) 26 rfl rfl rfl ?_
     refine w_acmp X28 hx rfl rfl (dB d1_26) false (decide_eq_false nofun) 31 (by decide) (by decide) ?_
     refine w_iinc X28 hx (dB d1_31) 34 rfl rfl (3 : Int32) (by rw [(show (3 : Int32) = (2 : Int32) + (1 : Int32) from by decide)]; rfl) #[.val (.ref a), .val .null, .val (.ref oa), .val (.int (4 : Int32)), .val (.int (3 : Int32)), .val (.ref o2)] rfl ?_
     refine w_goto X28 hx (dB d1_34) 11 ?_
     refine w_iload X28 hx (3 : Int32) (dB d1_11) 13 rfl rfl ?_
     refine w_iloadN X28 hx (4 : Int32) (dB d1_13) 14 rfl rfl ?_
     refine w_icmp_ge X28 hx 3 4 (by decide) (by decide) (dB d1_14) 37 17 (fun c32 => ?_) (fun c32 => ?_)
     ·exfalso; omega
     ·refine w_aloadN X28 hx (.ref oa) (dB d1_17) 18 rfl rfl rfl ?_
      refine w_iload X28 hx (3 : Int32) (dB d1_18) 20 rfl rfl ?_
      refine w_aaload X28 hx hZ e28 V_oa ⟨by decide, by decide⟩ (j := (3 : Int32)) (v := (.ref o3)) rfl (dB d1_20) 21 rfl ?_
      refine w_astore X28 hx (dB d1_21) 23 rfl rfl #[.val (.ref a), .val .null, .val (.ref oa), .val (.int (4 : Int32)), .val (.int (3 : Int32)), .val (.ref o3)] rfl ?_
      refine w_aload X28 hx (.ref o3) (dB d1_23) 25 rfl rfl rfl ?_
      refine w_aloadN X28 hx .null (dB d1_25) 26 rfl rfl rfl ?_
      refine w_acmp X28 hx rfl rfl (dB d1_26) false (decide_eq_false nofun) 31 (by decide) (by decide) ?_
      refine w_iinc X28 hx (dB d1_31) 34 rfl rfl (4 : Int32) (by rw [(show (4 : Int32) = (3 : Int32) + (1 : Int32) from by decide)]; rfl) #[.val (.ref a), .val .null, .val (.ref oa), .val (.int (4 : Int32)), .val (.int (4 : Int32)), .val (.ref o3)] rfl ?_
      refine w_goto X28 hx (dB d1_34) 11 ?_
      refine w_iload X28 hx (4 : Int32) (dB d1_11) 13 rfl rfl ?_
      refine w_iloadN X28 hx (4 : Int32) (dB d1_13) 14 rfl rfl ?_
      refine w_icmp_ge X28 hx 4 4 (by decide) (by decide) (dB d1_14) 37 17 (fun c33 => ?_) (fun c33 => ?_)
      ·refine w_iconst X28 hx (dB d1_37) 38 rfl (0 : Int32) (by decide) ?_
       refine w_retN X28 hx hlk (t := .boolean) hret (by simp) (dB d1_38) (by decide) (by decide) ?_
       rw [e28]
       exact ⟨(0 : Int32), rfl, by have hz : (0 : Int32).toInt = 0 := (by decide); omega, N0, rfl⟩
      ·exfalso; omega
theorem ef_1l4x (m : MethodId) (x0 : Addr) (x1 : Addr) : entryFrame m #[(.ref x0), (.ref x1)] 6 = mkF m 0 #[.val (.ref x0), .val (.ref x1), .unset, .unset, .unset, .unset] [] := by first | (simp [entryFrame, mkF, argsToLocals, Value.category]; done) | rfl
def Q1l4x (Z : State) (a : Addr) (op : Addr) (oa : Addr) (ko : ClassId) (o0 : Addr) (o1 : Addr) (o2 : Addr) (o3 : Addr) (h0 : Heap) (n0 : Nat) (v : Option Value) (h : Heap) (L : List Loc) : Prop := ∃ z : Int32, v = some (.int z) ∧ (z.toInt = 0) ∧ Fr n0 L ∧ h = h0
set_option maxRecDepth 65536 in
set_option maxHeartbeats 40000000 in
theorem rm1l4x (l : Launch) (Z : State) (a0 : Array Value) (hw : ∀ d ∈ tables_1, d.before a0 Z = true) (ws : List Jvm.Cond) (a : Addr) (op : Addr) (oa : Addr) (ko : ClassId) (o0 : Addr) (o1 : Addr) (o2 : Addr) (o3 : Addr) (h0 : Heap) (n0 : Nat) (Z0 : n0 ≤ h0.size) (F_options_a : Fld Z h0 a cN_0 "options" cN_1 (.ref oa)) (V_oa : Arv Z h0 oa ko (.object cN_2) (4 : Int32) [(.ref o0), (.ref o1), (.ref o2), (.ref o3)] .null) (ne0 : o0 ≠ op) (ne1 : o1 ≠ op) (ne2 : o2 ≠ op) (ne3 : o3 ≠ op) :
    CT l mN_1 prog_7_method_5_code 6 (some .boolean) ws ({ frames := 0, cells := 0, slots := 0, locals := 0 } : Room) #[(.ref a), (.ref op)] Z h0 (Q1l4x Z a op oa ko o0 o1 o2 o3 h0 n0) := by
  refine body_of (plainFor_of_name pn_0) ?_
  intro p e s m below meth c s₁ hx dB hret hlk hml hown0 hnm X0 e0 hZ
  have hown : s.vm.findClass cN_0 = some m.cls := hown0
  have N0 := Fr.nil n0
  rw [ef_1l4x]
  show Wk p e below (FN s (Q1l4x Z a op oa ko o0 o1 o2 o3 h0 n0) 0 0) s₁ (mkF m 0 #[.val (.ref a), .val (.ref op), .unset, .unset, .unset, .unset] [])
  refine w_aloadN X0 hx (.ref a) (dB d1_0) 1 rfl rfl rfl ?_
  refine w_getF X0 hx hZ hown e0 (host := "") (Or.inl (tw_30 hw)) Via.refl F_options_a (dB d1_1) 4 rfl (fun T34 X34 e34 => ?_)
  refine w_astoreN X34 hx (dB d1_4) 5 rfl rfl #[.val (.ref a), .val (.ref op), .val (.ref oa), .unset, .unset, .unset] rfl ?_
  refine w_aloadN X34 hx (.ref oa) (dB d1_5) 6 rfl rfl rfl ?_
  refine w_length X34 hx hZ e34 V_oa (dB d1_6) 7 rfl ?_
  refine w_istoreN X34 hx (dB d1_7) 8 rfl #[.val (.ref a), .val (.ref op), .val (.ref oa), .val (.int (4 : Int32)), .unset, .unset] rfl ?_
  refine w_iconst X34 hx (dB d1_8) 9 rfl (0 : Int32) (by decide) ?_
  refine w_istore X34 hx (dB d1_9) 11 rfl #[.val (.ref a), .val (.ref op), .val (.ref oa), .val (.int (4 : Int32)), .val (.int (0 : Int32)), .unset] rfl ?_
  refine w_iload X34 hx (0 : Int32) (dB d1_11) 13 rfl rfl ?_
  refine w_iloadN X34 hx (4 : Int32) (dB d1_13) 14 rfl rfl ?_
  refine w_icmp_ge X34 hx 0 4 (by decide) (by decide) (dB d1_14) 37 17 (fun c35 => ?_) (fun c35 => ?_)
  ·exfalso; omega
  ·refine w_aloadN X34 hx (.ref oa) (dB d1_17) 18 rfl rfl rfl ?_
   refine w_iload X34 hx (0 : Int32) (dB d1_18) 20 rfl rfl ?_
   refine w_aaload X34 hx hZ e34 V_oa ⟨by decide, by decide⟩ (j := (0 : Int32)) (v := (.ref o0)) rfl (dB d1_20) 21 rfl ?_
   refine w_astore X34 hx (dB d1_21) 23 rfl rfl #[.val (.ref a), .val (.ref op), .val (.ref oa), .val (.int (4 : Int32)), .val (.int (0 : Int32)), .val (.ref o0)] rfl ?_
   refine w_aload X34 hx (.ref o0) (dB d1_23) 25 rfl rfl rfl ?_
   refine w_aloadN X34 hx (.ref op) (dB d1_25) 26 rfl rfl rfl ?_
   refine w_acmp X34 hx rfl rfl (dB d1_26) false (decide_eq_false fun q => ne0 (Value.ref.inj q)) 31 (by decide) (by decide) ?_
   refine w_iinc X34 hx (dB d1_31) 34 rfl rfl (1 : Int32) (by rw [(show (1 : Int32) = (0 : Int32) + (1 : Int32) from by decide)]; rfl) #[.val (.ref a), .val (.ref op), .val (.ref oa), .val (.int (4 : Int32)), .val (.int (1 : Int32)), .val (.ref o0)] rfl ?_
   refine w_goto X34 hx (dB d1_34) 11 ?_
   refine w_iload X34 hx (1 : Int32) (dB d1_11) 13 rfl rfl ?_
   refine w_iloadN X34 hx (4 : Int32) (dB d1_13) 14 rfl rfl ?_
   refine w_icmp_ge X34 hx 1 4 (by decide) (by decide) (dB d1_14) 37 17 (fun c36 => ?_) (fun c36 => ?_)
   ·exfalso; omega
   ·refine w_aloadN X34 hx (.ref oa) (dB d1_17) 18 rfl rfl rfl ?_
    refine w_iload X34 hx (1 : Int32) (dB d1_18) 20 rfl rfl ?_
    refine w_aaload X34 hx hZ e34 V_oa ⟨by decide, by decide⟩ (j := (1 : Int32)) (v := (.ref o1)) rfl (dB d1_20) 21 rfl ?_
    refine w_astore X34 hx (dB d1_21) 23 rfl rfl #[.val (.ref a), .val (.ref op), .val (.ref oa), .val (.int (4 : Int32)), .val (.int (1 : Int32)), .val (.ref o1)] rfl ?_
    refine w_aload X34 hx (.ref o1) (dB d1_23) 25 rfl rfl rfl ?_
    refine w_aloadN X34 hx (.ref op) (dB d1_25) 26 rfl rfl rfl ?_
    refine w_acmp X34 hx rfl rfl (dB d1_26) false (decide_eq_false fun q => ne1 (Value.ref.inj q)) 31 (by decide) (by decide) ?_
    refine w_iinc X34 hx (dB d1_31) 34 rfl rfl (2 : Int32) (by rw [(show (2 : Int32) = (1 : Int32) + (1 : Int32) from by decide)]; rfl) #[.val (.ref a), .val (.ref op), .val (.ref oa), .val (.int (4 : Int32)), .val (.int (2 : Int32)), .val (.ref o1)] rfl ?_
    refine w_goto X34 hx (dB d1_34) 11 ?_
    refine w_iload X34 hx (2 : Int32) (dB d1_11) 13 rfl rfl ?_
    refine w_iloadN X34 hx (4 : Int32) (dB d1_13) 14 rfl rfl ?_
    refine w_icmp_ge X34 hx 2 4 (by decide) (by decide) (dB d1_14) 37 17 (fun c37 => ?_) (fun c37 => ?_)
    ·exfalso; omega
    ·refine w_aloadN X34 hx (.ref oa) (dB d1_17) 18 rfl rfl rfl ?_
     refine w_iload X34 hx (2 : Int32) (dB d1_18) 20 rfl rfl ?_
     refine w_aaload X34 hx hZ e34 V_oa ⟨by decide, by decide⟩ (j := (2 : Int32)) (v := (.ref o2)) rfl (dB d1_20) 21 rfl ?_
     refine w_astore X34 hx (dB d1_21) 23 rfl rfl #[.val (.ref a), .val (.ref op), .val (.ref oa), .val (.int (4 : Int32)), .val (.int (2 : Int32)), .val (.ref o2)] rfl ?_
     refine w_aload X34 hx (.ref o2) (dB d1_23) 25 rfl rfl rfl ?_
     refine w_aloadN X34 hx (.ref op) (dB d1_25) 26 rfl rfl rfl ?_
     refine w_acmp X34 hx rfl rfl (dB d1_26) false (decide_eq_false fun q => ne2 (Value.ref.inj q)) 31 (by decide) (by decide) ?_
     refine w_iinc X34 hx (dB d1_31) 34 rfl rfl (3 : Int32) (by rw [(show (3 : Int32) = (2 : Int32) + (1 : Int32) from by decide)]; rfl) #[.val (.ref a), .val (.ref op), .val (.ref oa), .val (.int (4 : Int32)), .val (.int (3 : Int32)), .val (.ref o2)] rfl ?_
     refine w_goto X34 hx (dB d1_34) 11 ?_
     refine w_iload X34 hx (3 : Int32) (dB d1_11) 13 rfl rfl ?_
     refine w_iloadN X34 hx (4 : Int32) (dB d1_13) 14 rfl rfl ?_
     refine w_icmp_ge X34 hx 3 4 (by decide) (by decide) (dB d1_14) 37 17 (fun c38 => ?_) (fun c38 => ?_)
     ·exfalso; omega
     ·refine w_aloadN X34 hx (.ref oa) (dB d1_17) 18 rfl rfl rfl ?_
      refine w_iload X34 hx (3 : Int32) (dB d1_18) 20 rfl rfl ?_
      refine w_aaload X34 hx hZ e34 V_oa ⟨by decide, by decide⟩ (j := (3 : Int32)) (v := (.ref o3)) rfl (dB d1_20) 21 rfl ?_
      refine w_astore X34 hx (dB d1_21) 23 rfl rfl #[.val (.ref a), .val (.ref op), .val (.ref oa), .val (.int (4 : Int32)), .val (.int (3 : Int32)), .val (.ref o3)] rfl ?_
      refine w_aload X34 hx (.ref o3) (dB d1_23) 25 rfl rfl rfl ?_
      refine w_aloadN X34 hx (.ref op) (dB d1_25) 26 rfl rfl rfl ?_
      refine w_acmp X34 hx rfl rfl (dB d1_26) false (decide_eq_false fun q => ne3 (Value.ref.inj q)) 31 (by decide) (by decide) ?_
      refine w_iinc X34 hx (dB d1_31) 34 rfl rfl (4 : Int32) (by rw [(show (4 : Int32) = (3 : Int32) + (1 : Int32) from by decide)]; rfl) #[.val (.ref a), .val (.ref op), .val (.ref oa), .val (.int (4 : Int32)), .val (.int (4 : Int32)), .val (.ref o3)] rfl ?_
      refine w_goto X34 hx (dB d1_34) 11 ?_
      refine w_iload X34 hx (4 : Int32) (dB d1_11) 13 rfl rfl ?_
      refine w_iloadN X34 hx (4 : Int32) (dB d1_13) 14 rfl rfl ?_
      refine w_icmp_ge X34 hx 4 4 (by decide) (by decide) (dB d1_14) 37 17 (fun c39 => ?_) (fun c39 => ?_)
      ·refine w_iconst X34 hx (dB d1_37) 38 rfl (0 : Int32) (by decide) ?_
       refine w_retN X34 hx hlk (t := .boolean) hret (by simp) (dB d1_38) (by decide) (by decide) ?_
       rw [e34]
       exact ⟨(0 : Int32), rfl, by have hz : (0 : Int32).toInt = 0 := (by decide); omega, N0, rfl⟩
      ·exfalso; omega
theorem ef_1l4j0 (m : MethodId) (x0 : Addr) (x1 : Addr) : entryFrame m #[(.ref x0), (.ref x1)] 6 = mkF m 0 #[.val (.ref x0), .val (.ref x1), .unset, .unset, .unset, .unset] [] := by first | (simp [entryFrame, mkF, argsToLocals, Value.category]; done) | rfl
def Q1l4j0 (Z : State) (a : Addr) (o0 : Addr) (oa : Addr) (ko : ClassId) (o1 : Addr) (o2 : Addr) (o3 : Addr) (h0 : Heap) (n0 : Nat) (v : Option Value) (h : Heap) (L : List Loc) : Prop := ∃ z : Int32, v = some (.int z) ∧ (z.toInt = 1) ∧ Fr n0 L ∧ h = h0
set_option maxRecDepth 65536 in
set_option maxHeartbeats 40000000 in
theorem rm1l4j0 (l : Launch) (Z : State) (a0 : Array Value) (hw : ∀ d ∈ tables_1, d.before a0 Z = true) (ws : List Jvm.Cond) (a : Addr) (o0 : Addr) (oa : Addr) (ko : ClassId) (o1 : Addr) (o2 : Addr) (o3 : Addr) (h0 : Heap) (n0 : Nat) (Z0 : n0 ≤ h0.size) (F_options_a : Fld Z h0 a cN_0 "options" cN_1 (.ref oa)) (V_oa : Arv Z h0 oa ko (.object cN_2) (4 : Int32) [(.ref o0), (.ref o1), (.ref o2), (.ref o3)] .null) :
    CT l mN_1 prog_7_method_5_code 6 (some .boolean) ws ({ frames := 0, cells := 0, slots := 0, locals := 0 } : Room) #[(.ref a), (.ref o0)] Z h0 (Q1l4j0 Z a o0 oa ko o1 o2 o3 h0 n0) := by
  refine body_of (plainFor_of_name pn_0) ?_
  intro p e s m below meth c s₁ hx dB hret hlk hml hown0 hnm X0 e0 hZ
  have hown : s.vm.findClass cN_0 = some m.cls := hown0
  have N0 := Fr.nil n0
  rw [ef_1l4j0]
  show Wk p e below (FN s (Q1l4j0 Z a o0 oa ko o1 o2 o3 h0 n0) 0 0) s₁ (mkF m 0 #[.val (.ref a), .val (.ref o0), .unset, .unset, .unset, .unset] [])
  refine w_aloadN X0 hx (.ref a) (dB d1_0) 1 rfl rfl rfl ?_
  refine w_getF X0 hx hZ hown e0 (host := "") (Or.inl (tw_30 hw)) Via.refl F_options_a (dB d1_1) 4 rfl (fun T40 X40 e40 => ?_)
  refine w_astoreN X40 hx (dB d1_4) 5 rfl rfl #[.val (.ref a), .val (.ref o0), .val (.ref oa), .unset, .unset, .unset] rfl ?_
  refine w_aloadN X40 hx (.ref oa) (dB d1_5) 6 rfl rfl rfl ?_
  refine w_length X40 hx hZ e40 V_oa (dB d1_6) 7 rfl ?_
  refine w_istoreN X40 hx (dB d1_7) 8 rfl #[.val (.ref a), .val (.ref o0), .val (.ref oa), .val (.int (4 : Int32)), .unset, .unset] rfl ?_
  refine w_iconst X40 hx (dB d1_8) 9 rfl (0 : Int32) (by decide) ?_
  refine w_istore X40 hx (dB d1_9) 11 rfl #[.val (.ref a), .val (.ref o0), .val (.ref oa), .val (.int (4 : Int32)), .val (.int (0 : Int32)), .unset] rfl ?_
  refine w_iload X40 hx (0 : Int32) (dB d1_11) 13 rfl rfl ?_
  refine w_iloadN X40 hx (4 : Int32) (dB d1_13) 14 rfl rfl ?_
  refine w_icmp_ge X40 hx 0 4 (by decide) (by decide) (dB d1_14) 37 17 (fun c41 => ?_) (fun c41 => ?_)
  ·exfalso; omega
  ·refine w_aloadN X40 hx (.ref oa) (dB d1_17) 18 rfl rfl rfl ?_
   refine w_iload X40 hx (0 : Int32) (dB d1_18) 20 rfl rfl ?_
   refine w_aaload X40 hx hZ e40 V_oa ⟨by decide, by decide⟩ (j := (0 : Int32)) (v := (.ref o0)) rfl (dB d1_20) 21 rfl ?_
   refine w_astore X40 hx (dB d1_21) 23 rfl rfl #[.val (.ref a), .val (.ref o0), .val (.ref oa), .val (.int (4 : Int32)), .val (.int (0 : Int32)), .val (.ref o0)] rfl ?_
   refine w_aload X40 hx (.ref o0) (dB d1_23) 25 rfl rfl rfl ?_
   refine w_aloadN X40 hx (.ref o0) (dB d1_25) 26 rfl rfl rfl ?_
   refine w_acmp X40 hx rfl rfl (dB d1_26) true (decide_eq_true rfl) 29 (by decide) (by decide) ?_
   refine w_iconst X40 hx (dB d1_29) 30 rfl (1 : Int32) (by decide) ?_
   refine w_retN X40 hx hlk (t := .boolean) hret (by simp) (dB d1_30) (by decide) (by decide) ?_
   rw [e40]
   exact ⟨(1 : Int32), rfl, by have hz : (1 : Int32).toInt = 1 := (by decide); omega, N0, rfl⟩
theorem ef_1l4j1 (m : MethodId) (x0 : Addr) (x1 : Addr) : entryFrame m #[(.ref x0), (.ref x1)] 6 = mkF m 0 #[.val (.ref x0), .val (.ref x1), .unset, .unset, .unset, .unset] [] := by first | (simp [entryFrame, mkF, argsToLocals, Value.category]; done) | rfl
def Q1l4j1 (Z : State) (a : Addr) (o1 : Addr) (oa : Addr) (ko : ClassId) (o0 : Addr) (o2 : Addr) (o3 : Addr) (h0 : Heap) (n0 : Nat) (v : Option Value) (h : Heap) (L : List Loc) : Prop := ∃ z : Int32, v = some (.int z) ∧ (z.toInt = 1) ∧ Fr n0 L ∧ h = h0
set_option maxRecDepth 65536 in
set_option maxHeartbeats 40000000 in
theorem rm1l4j1 (l : Launch) (Z : State) (a0 : Array Value) (hw : ∀ d ∈ tables_1, d.before a0 Z = true) (ws : List Jvm.Cond) (a : Addr) (o1 : Addr) (oa : Addr) (ko : ClassId) (o0 : Addr) (o2 : Addr) (o3 : Addr) (h0 : Heap) (n0 : Nat) (Z0 : n0 ≤ h0.size) (F_options_a : Fld Z h0 a cN_0 "options" cN_1 (.ref oa)) (V_oa : Arv Z h0 oa ko (.object cN_2) (4 : Int32) [(.ref o0), (.ref o1), (.ref o2), (.ref o3)] .null) (ne0 : o0 ≠ o1) :
    CT l mN_1 prog_7_method_5_code 6 (some .boolean) ws ({ frames := 0, cells := 0, slots := 0, locals := 0 } : Room) #[(.ref a), (.ref o1)] Z h0 (Q1l4j1 Z a o1 oa ko o0 o2 o3 h0 n0) := by
  refine body_of (plainFor_of_name pn_0) ?_
  intro p e s m below meth c s₁ hx dB hret hlk hml hown0 hnm X0 e0 hZ
  have hown : s.vm.findClass cN_0 = some m.cls := hown0
  have N0 := Fr.nil n0
  rw [ef_1l4j1]
  show Wk p e below (FN s (Q1l4j1 Z a o1 oa ko o0 o2 o3 h0 n0) 0 0) s₁ (mkF m 0 #[.val (.ref a), .val (.ref o1), .unset, .unset, .unset, .unset] [])
  refine w_aloadN X0 hx (.ref a) (dB d1_0) 1 rfl rfl rfl ?_
  refine w_getF X0 hx hZ hown e0 (host := "") (Or.inl (tw_30 hw)) Via.refl F_options_a (dB d1_1) 4 rfl (fun T42 X42 e42 => ?_)
  refine w_astoreN X42 hx (dB d1_4) 5 rfl rfl #[.val (.ref a), .val (.ref o1), .val (.ref oa), .unset, .unset, .unset] rfl ?_
  refine w_aloadN X42 hx (.ref oa) (dB d1_5) 6 rfl rfl rfl ?_
  refine w_length X42 hx hZ e42 V_oa (dB d1_6) 7 rfl ?_
  refine w_istoreN X42 hx (dB d1_7) 8 rfl #[.val (.ref a), .val (.ref o1), .val (.ref oa), .val (.int (4 : Int32)), .unset, .unset] rfl ?_
  refine w_iconst X42 hx (dB d1_8) 9 rfl (0 : Int32) (by decide) ?_
  refine w_istore X42 hx (dB d1_9) 11 rfl #[.val (.ref a), .val (.ref o1), .val (.ref oa), .val (.int (4 : Int32)), .val (.int (0 : Int32)), .unset] rfl ?_
  refine w_iload X42 hx (0 : Int32) (dB d1_11) 13 rfl rfl ?_
  refine w_iloadN X42 hx (4 : Int32) (dB d1_13) 14 rfl rfl ?_
  refine w_icmp_ge X42 hx 0 4 (by decide) (by decide) (dB d1_14) 37 17 (fun c43 => ?_) (fun c43 => ?_)
  ·exfalso; omega
  ·refine w_aloadN X42 hx (.ref oa) (dB d1_17) 18 rfl rfl rfl ?_
   refine w_iload X42 hx (0 : Int32) (dB d1_18) 20 rfl rfl ?_
   refine w_aaload X42 hx hZ e42 V_oa ⟨by decide, by decide⟩ (j := (0 : Int32)) (v := (.ref o0)) rfl (dB d1_20) 21 rfl ?_
   refine w_astore X42 hx (dB d1_21) 23 rfl rfl #[.val (.ref a), .val (.ref o1), .val (.ref oa), .val (.int (4 : Int32)), .val (.int (0 : Int32)), .val (.ref o0)] rfl ?_
   refine w_aload X42 hx (.ref o0) (dB d1_23) 25 rfl rfl rfl ?_
   refine w_aloadN X42 hx (.ref o1) (dB d1_25) 26 rfl rfl rfl ?_
   refine w_acmp X42 hx rfl rfl (dB d1_26) false (decide_eq_false fun q => ne0 (Value.ref.inj q)) 31 (by decide) (by decide) ?_
   refine w_iinc X42 hx (dB d1_31) 34 rfl rfl (1 : Int32) (by rw [(show (1 : Int32) = (0 : Int32) + (1 : Int32) from by decide)]; rfl) #[.val (.ref a), .val (.ref o1), .val (.ref oa), .val (.int (4 : Int32)), .val (.int (1 : Int32)), .val (.ref o0)] rfl ?_
   refine w_goto X42 hx (dB d1_34) 11 ?_
   refine w_iload X42 hx (1 : Int32) (dB d1_11) 13 rfl rfl ?_
   refine w_iloadN X42 hx (4 : Int32) (dB d1_13) 14 rfl rfl ?_
   refine w_icmp_ge X42 hx 1 4 (by decide) (by decide) (dB d1_14) 37 17 (fun c44 => ?_) (fun c44 => ?_)
   ·exfalso; omega
   ·refine w_aloadN X42 hx (.ref oa) (dB d1_17) 18 rfl rfl rfl ?_
    refine w_iload X42 hx (1 : Int32) (dB d1_18) 20 rfl rfl ?_
    refine w_aaload X42 hx hZ e42 V_oa ⟨by decide, by decide⟩ (j := (1 : Int32)) (v := (.ref o1)) rfl (dB d1_20) 21 rfl ?_
    refine w_astore X42 hx (dB d1_21) 23 rfl rfl #[.val (.ref a), .val (.ref o1), .val (.ref oa), .val (.int (4 : Int32)), .val (.int (1 : Int32)), .val (.ref o1)] rfl ?_
    refine w_aload X42 hx (.ref o1) (dB d1_23) 25 rfl rfl rfl ?_
    refine w_aloadN X42 hx (.ref o1) (dB d1_25) 26 rfl rfl rfl ?_
    refine w_acmp X42 hx rfl rfl (dB d1_26) true (decide_eq_true rfl) 29 (by decide) (by decide) ?_
    refine w_iconst X42 hx (dB d1_29) 30 rfl (1 : Int32) (by decide) ?_
    refine w_retN X42 hx hlk (t := .boolean) hret (by simp) (dB d1_30) (by decide) (by decide) ?_
    rw [e42]
    exact ⟨(1 : Int32), rfl, by have hz : (1 : Int32).toInt = 1 := (by decide); omega, N0, rfl⟩
theorem ef_1l4j2 (m : MethodId) (x0 : Addr) (x1 : Addr) : entryFrame m #[(.ref x0), (.ref x1)] 6 = mkF m 0 #[.val (.ref x0), .val (.ref x1), .unset, .unset, .unset, .unset] [] := by first | (simp [entryFrame, mkF, argsToLocals, Value.category]; done) | rfl
def Q1l4j2 (Z : State) (a : Addr) (o2 : Addr) (oa : Addr) (ko : ClassId) (o0 : Addr) (o1 : Addr) (o3 : Addr) (h0 : Heap) (n0 : Nat) (v : Option Value) (h : Heap) (L : List Loc) : Prop := ∃ z : Int32, v = some (.int z) ∧ (z.toInt = 1) ∧ Fr n0 L ∧ h = h0
set_option maxRecDepth 65536 in
set_option maxHeartbeats 40000000 in
theorem rm1l4j2 (l : Launch) (Z : State) (a0 : Array Value) (hw : ∀ d ∈ tables_1, d.before a0 Z = true) (ws : List Jvm.Cond) (a : Addr) (o2 : Addr) (oa : Addr) (ko : ClassId) (o0 : Addr) (o1 : Addr) (o3 : Addr) (h0 : Heap) (n0 : Nat) (Z0 : n0 ≤ h0.size) (F_options_a : Fld Z h0 a cN_0 "options" cN_1 (.ref oa)) (V_oa : Arv Z h0 oa ko (.object cN_2) (4 : Int32) [(.ref o0), (.ref o1), (.ref o2), (.ref o3)] .null) (ne0 : o0 ≠ o2) (ne1 : o1 ≠ o2) :
    CT l mN_1 prog_7_method_5_code 6 (some .boolean) ws ({ frames := 0, cells := 0, slots := 0, locals := 0 } : Room) #[(.ref a), (.ref o2)] Z h0 (Q1l4j2 Z a o2 oa ko o0 o1 o3 h0 n0) := by
  refine body_of (plainFor_of_name pn_0) ?_
  intro p e s m below meth c s₁ hx dB hret hlk hml hown0 hnm X0 e0 hZ
  have hown : s.vm.findClass cN_0 = some m.cls := hown0
  have N0 := Fr.nil n0
  rw [ef_1l4j2]
  show Wk p e below (FN s (Q1l4j2 Z a o2 oa ko o0 o1 o3 h0 n0) 0 0) s₁ (mkF m 0 #[.val (.ref a), .val (.ref o2), .unset, .unset, .unset, .unset] [])
  refine w_aloadN X0 hx (.ref a) (dB d1_0) 1 rfl rfl rfl ?_
  refine w_getF X0 hx hZ hown e0 (host := "") (Or.inl (tw_30 hw)) Via.refl F_options_a (dB d1_1) 4 rfl (fun T45 X45 e45 => ?_)
  refine w_astoreN X45 hx (dB d1_4) 5 rfl rfl #[.val (.ref a), .val (.ref o2), .val (.ref oa), .unset, .unset, .unset] rfl ?_
  refine w_aloadN X45 hx (.ref oa) (dB d1_5) 6 rfl rfl rfl ?_
  refine w_length X45 hx hZ e45 V_oa (dB d1_6) 7 rfl ?_
  refine w_istoreN X45 hx (dB d1_7) 8 rfl #[.val (.ref a), .val (.ref o2), .val (.ref oa), .val (.int (4 : Int32)), .unset, .unset] rfl ?_
  refine w_iconst X45 hx (dB d1_8) 9 rfl (0 : Int32) (by decide) ?_
  refine w_istore X45 hx (dB d1_9) 11 rfl #[.val (.ref a), .val (.ref o2), .val (.ref oa), .val (.int (4 : Int32)), .val (.int (0 : Int32)), .unset] rfl ?_
  refine w_iload X45 hx (0 : Int32) (dB d1_11) 13 rfl rfl ?_
  refine w_iloadN X45 hx (4 : Int32) (dB d1_13) 14 rfl rfl ?_
  refine w_icmp_ge X45 hx 0 4 (by decide) (by decide) (dB d1_14) 37 17 (fun c46 => ?_) (fun c46 => ?_)
  ·exfalso; omega
  ·refine w_aloadN X45 hx (.ref oa) (dB d1_17) 18 rfl rfl rfl ?_
   refine w_iload X45 hx (0 : Int32) (dB d1_18) 20 rfl rfl ?_
   refine w_aaload X45 hx hZ e45 V_oa ⟨by decide, by decide⟩ (j := (0 : Int32)) (v := (.ref o0)) rfl (dB d1_20) 21 rfl ?_
   refine w_astore X45 hx (dB d1_21) 23 rfl rfl #[.val (.ref a), .val (.ref o2), .val (.ref oa), .val (.int (4 : Int32)), .val (.int (0 : Int32)), .val (.ref o0)] rfl ?_
   refine w_aload X45 hx (.ref o0) (dB d1_23) 25 rfl rfl rfl ?_
   refine w_aloadN X45 hx (.ref o2) (dB d1_25) 26 rfl rfl rfl ?_
   refine w_acmp X45 hx rfl rfl (dB d1_26) false (decide_eq_false fun q => ne0 (Value.ref.inj q)) 31 (by decide) (by decide) ?_
   refine w_iinc X45 hx (dB d1_31) 34 rfl rfl (1 : Int32) (by rw [(show (1 : Int32) = (0 : Int32) + (1 : Int32) from by decide)]; rfl) #[.val (.ref a), .val (.ref o2), .val (.ref oa), .val (.int (4 : Int32)), .val (.int (1 : Int32)), .val (.ref o0)] rfl ?_
   refine w_goto X45 hx (dB d1_34) 11 ?_
   refine w_iload X45 hx (1 : Int32) (dB d1_11) 13 rfl rfl ?_
   refine w_iloadN X45 hx (4 : Int32) (dB d1_13) 14 rfl rfl ?_
   refine w_icmp_ge X45 hx 1 4 (by decide) (by decide) (dB d1_14) 37 17 (fun c47 => ?_) (fun c47 => ?_)
   ·exfalso; omega
   ·refine w_aloadN X45 hx (.ref oa) (dB d1_17) 18 rfl rfl rfl ?_
    refine w_iload X45 hx (1 : Int32) (dB d1_18) 20 rfl rfl ?_
    refine w_aaload X45 hx hZ e45 V_oa ⟨by decide, by decide⟩ (j := (1 : Int32)) (v := (.ref o1)) rfl (dB d1_20) 21 rfl ?_
    refine w_astore X45 hx (dB d1_21) 23 rfl rfl #[.val (.ref a), .val (.ref o2), .val (.ref oa), .val (.int (4 : Int32)), .val (.int (1 : Int32)), .val (.ref o1)] rfl ?_
    refine w_aload X45 hx (.ref o1) (dB d1_23) 25 rfl rfl rfl ?_
    refine w_aloadN X45 hx (.ref o2) (dB d1_25) 26 rfl rfl rfl ?_
    refine w_acmp X45 hx rfl rfl (dB d1_26) false (decide_eq_false fun q => ne1 (Value.ref.inj q)) 31 (by decide) (by decide) ?_
    refine w_iinc X45 hx (dB d1_31) 34 rfl rfl (2 : Int32) (by rw [(show (2 : Int32) = (1 : Int32) + (1 : Int32) from by decide)]; rfl) #[.val (.ref a), .val (.ref o2), .val (.ref oa), .val (.int (4 : Int32)), .val (.int (2 : Int32)), .val (.ref o1)] rfl ?_
    refine w_goto X45 hx (dB d1_34) 11 ?_
    refine w_iload X45 hx (2 : Int32) (dB d1_11) 13 rfl rfl ?_
    refine w_iloadN X45 hx (4 : Int32) (dB d1_13) 14 rfl rfl ?_
    refine w_icmp_ge X45 hx 2 4 (by decide) (by decide) (dB d1_14) 37 17 (fun c48 => ?_) (fun c48 => ?_)
    ·exfalso; omega
    ·refine w_aloadN X45 hx (.ref oa) (dB d1_17) 18 rfl rfl rfl ?_
     refine w_iload X45 hx (2 : Int32) (dB d1_18) 20 rfl rfl ?_
     refine w_aaload X45 hx hZ e45 V_oa ⟨by decide, by decide⟩ (j := (2 : Int32)) (v := (.ref o2)) rfl (dB d1_20) 21 rfl ?_
     refine w_astore X45 hx (dB d1_21) 23 rfl rfl #[.val (.ref a), .val (.ref o2), .val (.ref oa), .val (.int (4 : Int32)), .val (.int (2 : Int32)), .val (.ref o2)] rfl ?_
     refine w_aload X45 hx (.ref o2) (dB d1_23) 25 rfl rfl rfl ?_
     refine w_aloadN X45 hx (.ref o2) (dB d1_25) 26 rfl rfl rfl ?_
     refine w_acmp X45 hx rfl rfl (dB d1_26) true (decide_eq_true rfl) 29 (by decide) (by decide) ?_
     refine w_iconst X45 hx (dB d1_29) 30 rfl (1 : Int32) (by decide) ?_
     refine w_retN X45 hx hlk (t := .boolean) hret (by simp) (dB d1_30) (by decide) (by decide) ?_
     rw [e45]
     exact ⟨(1 : Int32), rfl, by have hz : (1 : Int32).toInt = 1 := (by decide); omega, N0, rfl⟩
theorem ef_1l4j3 (m : MethodId) (x0 : Addr) (x1 : Addr) : entryFrame m #[(.ref x0), (.ref x1)] 6 = mkF m 0 #[.val (.ref x0), .val (.ref x1), .unset, .unset, .unset, .unset] [] := by first | (simp [entryFrame, mkF, argsToLocals, Value.category]; done) | rfl
def Q1l4j3 (Z : State) (a : Addr) (o3 : Addr) (oa : Addr) (ko : ClassId) (o0 : Addr) (o1 : Addr) (o2 : Addr) (h0 : Heap) (n0 : Nat) (v : Option Value) (h : Heap) (L : List Loc) : Prop := ∃ z : Int32, v = some (.int z) ∧ (z.toInt = 1) ∧ Fr n0 L ∧ h = h0
set_option maxRecDepth 65536 in
set_option maxHeartbeats 40000000 in
theorem rm1l4j3 (l : Launch) (Z : State) (a0 : Array Value) (hw : ∀ d ∈ tables_1, d.before a0 Z = true) (ws : List Jvm.Cond) (a : Addr) (o3 : Addr) (oa : Addr) (ko : ClassId) (o0 : Addr) (o1 : Addr) (o2 : Addr) (h0 : Heap) (n0 : Nat) (Z0 : n0 ≤ h0.size) (F_options_a : Fld Z h0 a cN_0 "options" cN_1 (.ref oa)) (V_oa : Arv Z h0 oa ko (.object cN_2) (4 : Int32) [(.ref o0), (.ref o1), (.ref o2), (.ref o3)] .null) (ne0 : o0 ≠ o3) (ne1 : o1 ≠ o3) (ne2 : o2 ≠ o3) :
    CT l mN_1 prog_7_method_5_code 6 (some .boolean) ws ({ frames := 0, cells := 0, slots := 0, locals := 0 } : Room) #[(.ref a), (.ref o3)] Z h0 (Q1l4j3 Z a o3 oa ko o0 o1 o2 h0 n0) := by
  refine body_of (plainFor_of_name pn_0) ?_
  intro p e s m below meth c s₁ hx dB hret hlk hml hown0 hnm X0 e0 hZ
  have hown : s.vm.findClass cN_0 = some m.cls := hown0
  have N0 := Fr.nil n0
  rw [ef_1l4j3]
  show Wk p e below (FN s (Q1l4j3 Z a o3 oa ko o0 o1 o2 h0 n0) 0 0) s₁ (mkF m 0 #[.val (.ref a), .val (.ref o3), .unset, .unset, .unset, .unset] [])
  refine w_aloadN X0 hx (.ref a) (dB d1_0) 1 rfl rfl rfl ?_
  refine w_getF X0 hx hZ hown e0 (host := "") (Or.inl (tw_30 hw)) Via.refl F_options_a (dB d1_1) 4 rfl (fun T49 X49 e49 => ?_)
  refine w_astoreN X49 hx (dB d1_4) 5 rfl rfl #[.val (.ref a), .val (.ref o3), .val (.ref oa), .unset, .unset, .unset] rfl ?_
  refine w_aloadN X49 hx (.ref oa) (dB d1_5) 6 rfl rfl rfl ?_
  refine w_length X49 hx hZ e49 V_oa (dB d1_6) 7 rfl ?_
  refine w_istoreN X49 hx (dB d1_7) 8 rfl #[.val (.ref a), .val (.ref o3), .val (.ref oa), .val (.int (4 : Int32)), .unset, .unset] rfl ?_
  refine w_iconst X49 hx (dB d1_8) 9 rfl (0 : Int32) (by decide) ?_
  refine w_istore X49 hx (dB d1_9) 11 rfl #[.val (.ref a), .val (.ref o3), .val (.ref oa), .val (.int (4 : Int32)), .val (.int (0 : Int32)), .unset] rfl ?_
  refine w_iload X49 hx (0 : Int32) (dB d1_11) 13 rfl rfl ?_
  refine w_iloadN X49 hx (4 : Int32) (dB d1_13) 14 rfl rfl ?_
  refine w_icmp_ge X49 hx 0 4 (by decide) (by decide) (dB d1_14) 37 17 (fun c50 => ?_) (fun c50 => ?_)
  ·exfalso; omega
  ·refine w_aloadN X49 hx (.ref oa) (dB d1_17) 18 rfl rfl rfl ?_
   refine w_iload X49 hx (0 : Int32) (dB d1_18) 20 rfl rfl ?_
   refine w_aaload X49 hx hZ e49 V_oa ⟨by decide, by decide⟩ (j := (0 : Int32)) (v := (.ref o0)) rfl (dB d1_20) 21 rfl ?_
   refine w_astore X49 hx (dB d1_21) 23 rfl rfl #[.val (.ref a), .val (.ref o3), .val (.ref oa), .val (.int (4 : Int32)), .val (.int (0 : Int32)), .val (.ref o0)] rfl ?_
   refine w_aload X49 hx (.ref o0) (dB d1_23) 25 rfl rfl rfl ?_
   refine w_aloadN X49 hx (.ref o3) (dB d1_25) 26 rfl rfl rfl ?_
   refine w_acmp X49 hx rfl rfl (dB d1_26) false (decide_eq_false fun q => ne0 (Value.ref.inj q)) 31 (by decide) (by decide) ?_
   refine w_iinc X49 hx (dB d1_31) 34 rfl rfl (1 : Int32) (by rw [(show (1 : Int32) = (0 : Int32) + (1 : Int32) from by decide)]; rfl) #[.val (.ref a), .val (.ref o3), .val (.ref oa), .val (.int (4 : Int32)), .val (.int (1 : Int32)), .val (.ref o0)] rfl ?_
   refine w_goto X49 hx (dB d1_34) 11 ?_
   refine w_iload X49 hx (1 : Int32) (dB d1_11) 13 rfl rfl ?_
   refine w_iloadN X49 hx (4 : Int32) (dB d1_13) 14 rfl rfl ?_
   refine w_icmp_ge X49 hx 1 4 (by decide) (by decide) (dB d1_14) 37 17 (fun c51 => ?_) (fun c51 => ?_)
   ·exfalso; omega
   ·refine w_aloadN X49 hx (.ref oa) (dB d1_17) 18 rfl rfl rfl ?_
    refine w_iload X49 hx (1 : Int32) (dB d1_18) 20 rfl rfl ?_
    refine w_aaload X49 hx hZ e49 V_oa ⟨by decide, by decide⟩ (j := (1 : Int32)) (v := (.ref o1)) rfl (dB d1_20) 21 rfl ?_
    refine w_astore X49 hx (dB d1_21) 23 rfl rfl #[.val (.ref a), .val (.ref o3), .val (.ref oa), .val (.int (4 : Int32)), .val (.int (1 : Int32)), .val (.ref o1)] rfl ?_
    refine w_aload X49 hx (.ref o1) (dB d1_23) 25 rfl rfl rfl ?_
    refine w_aloadN X49 hx (.ref o3) (dB d1_25) 26 rfl rfl rfl ?_
    refine w_acmp X49 hx rfl rfl (dB d1_26) false (decide_eq_false fun q => ne1 (Value.ref.inj q)) 31 (by decide) (by decide) ?_
    refine w_iinc X49 hx (dB d1_31) 34 rfl rfl (2 : Int32) (by rw [(show (2 : Int32) = (1 : Int32) + (1 : Int32) from by decide)]; rfl) #[.val (.ref a), .val (.ref o3), .val (.ref oa), .val (.int (4 : Int32)), .val (.int (2 : Int32)), .val (.ref o1)] rfl ?_
    refine w_goto X49 hx (dB d1_34) 11 ?_
    refine w_iload X49 hx (2 : Int32) (dB d1_11) 13 rfl rfl ?_
    refine w_iloadN X49 hx (4 : Int32) (dB d1_13) 14 rfl rfl ?_
    refine w_icmp_ge X49 hx 2 4 (by decide) (by decide) (dB d1_14) 37 17 (fun c52 => ?_) (fun c52 => ?_)
    ·exfalso; omega
    ·refine w_aloadN X49 hx (.ref oa) (dB d1_17) 18 rfl rfl rfl ?_
     refine w_iload X49 hx (2 : Int32) (dB d1_18) 20 rfl rfl ?_
     refine w_aaload X49 hx hZ e49 V_oa ⟨by decide, by decide⟩ (j := (2 : Int32)) (v := (.ref o2)) rfl (dB d1_20) 21 rfl ?_
     refine w_astore X49 hx (dB d1_21) 23 rfl rfl #[.val (.ref a), .val (.ref o3), .val (.ref oa), .val (.int (4 : Int32)), .val (.int (2 : Int32)), .val (.ref o2)] rfl ?_
     refine w_aload X49 hx (.ref o2) (dB d1_23) 25 rfl rfl rfl ?_
     refine w_aloadN X49 hx (.ref o3) (dB d1_25) 26 rfl rfl rfl ?_
     refine w_acmp X49 hx rfl rfl (dB d1_26) false (decide_eq_false fun q => ne2 (Value.ref.inj q)) 31 (by decide) (by decide) ?_
     refine w_iinc X49 hx (dB d1_31) 34 rfl rfl (3 : Int32) (by rw [(show (3 : Int32) = (2 : Int32) + (1 : Int32) from by decide)]; rfl) #[.val (.ref a), .val (.ref o3), .val (.ref oa), .val (.int (4 : Int32)), .val (.int (3 : Int32)), .val (.ref o2)] rfl ?_
     refine w_goto X49 hx (dB d1_34) 11 ?_
     refine w_iload X49 hx (3 : Int32) (dB d1_11) 13 rfl rfl ?_
     refine w_iloadN X49 hx (4 : Int32) (dB d1_13) 14 rfl rfl ?_
     refine w_icmp_ge X49 hx 3 4 (by decide) (by decide) (dB d1_14) 37 17 (fun c53 => ?_) (fun c53 => ?_)
     ·exfalso; omega
     ·refine w_aloadN X49 hx (.ref oa) (dB d1_17) 18 rfl rfl rfl ?_
      refine w_iload X49 hx (3 : Int32) (dB d1_18) 20 rfl rfl ?_
      refine w_aaload X49 hx hZ e49 V_oa ⟨by decide, by decide⟩ (j := (3 : Int32)) (v := (.ref o3)) rfl (dB d1_20) 21 rfl ?_
      refine w_astore X49 hx (dB d1_21) 23 rfl rfl #[.val (.ref a), .val (.ref o3), .val (.ref oa), .val (.int (4 : Int32)), .val (.int (3 : Int32)), .val (.ref o3)] rfl ?_
      refine w_aload X49 hx (.ref o3) (dB d1_23) 25 rfl rfl rfl ?_
      refine w_aloadN X49 hx (.ref o3) (dB d1_25) 26 rfl rfl rfl ?_
      refine w_acmp X49 hx rfl rfl (dB d1_26) true (decide_eq_true rfl) 29 (by decide) (by decide) ?_
      refine w_iconst X49 hx (dB d1_29) 30 rfl (1 : Int32) (by decide) ?_
      refine w_retN X49 hx hlk (t := .boolean) hret (by simp) (dB d1_30) (by decide) (by decide) ?_
      rw [e49]
      exact ⟨(1 : Int32), rfl, by have hz : (1 : Int32).toInt = 1 := (by decide); omega, N0, rfl⟩
theorem ef_0 (m : MethodId) (x0 : Int32) (x1 : Int32) : entryFrame m #[(.int x0), (.int x1)] maxLocals = mkF m 0 #[.val (.int x0), .val (.int x1), .unset, .unset, .unset, .unset, .unset, .unset, .unset] [] := by first | (simp [entryFrame, mkF, argsToLocals, Value.category, maxLocals]; done) | rfl
def Q0 (Z : State) (xc : Int32) (xo : Int32) (st_TO_JSON : Addr) (st_FROM_JSON : Addr) (st_FMT : Addr) (st_CHECK : Addr) (st_FROM : Addr) (st_TO : Addr) (st_ALLOW_ENV : Addr) (st_ALLOW_FILES : Addr) (oa_TO_JSON : Addr) (ko_TO_JSON : ClassId) (oa_FMT : Addr) (ko_FMT : ClassId) (oa_FROM_JSON : Addr) (ko_FROM_JSON : ClassId) (oa_CHECK : Addr) (ko_CHECK : ClassId) (h0 : Heap) (n0 : Nat) (v : Option Value) (h : Heap) (L : List Loc) : Prop := v = some (.int 1) ∧ Fr n0 L
set_option maxRecDepth 65536 in
set_option maxHeartbeats 40000000 in
theorem rm0 (l : Launch) (Z : State) (a0 : Array Value) (hw : ∀ d ∈ tables_1, d.before a0 Z = true) (ws : List Jvm.Cond) (xc : Int32) (xo : Int32) (st_TO_JSON : Addr) (st_FROM_JSON : Addr) (st_FMT : Addr) (st_CHECK : Addr) (st_FROM : Addr) (st_TO : Addr) (st_ALLOW_ENV : Addr) (st_ALLOW_FILES : Addr) (oa_TO_JSON : Addr) (ko_TO_JSON : ClassId) (oa_FMT : Addr) (ko_FMT : ClassId) (oa_FROM_JSON : Addr) (ko_FROM_JSON : ClassId) (oa_CHECK : Addr) (ko_CHECK : ClassId) (h0 : Heap) (n0 : Nat) (Z0 : n0 ≤ h0.size) (S_st_TO_JSON : Sta Z h0 cN_0 "TO_JSON" cN_4 (.ref st_TO_JSON)) (E_st_TO_JSON : Exa Z h0 st_TO_JSON cN_0) (S_st_FROM_JSON : Sta Z h0 cN_0 "FROM_JSON" cN_4 (.ref st_FROM_JSON)) (E_st_FROM_JSON : Exa Z h0 st_FROM_JSON cN_0) (S_st_FMT : Sta Z h0 cN_0 "FMT" cN_4 (.ref st_FMT)) (E_st_FMT : Exa Z h0 st_FMT cN_0) (S_st_CHECK : Sta Z h0 cN_0 "CHECK" cN_4 (.ref st_CHECK)) (E_st_CHECK : Exa Z h0 st_CHECK cN_0) (S_st_FROM : Sta Z h0 cN_2 "FROM" cN_5 (.ref st_FROM)) (E_st_FROM : Exa Z h0 st_FROM cN_2) (S_st_TO : Sta Z h0 cN_2 "TO" cN_5 (.ref st_TO)) (E_st_TO : Exa Z h0 st_TO cN_2) (S_st_ALLOW_ENV : Sta Z h0 cN_2 "ALLOW_ENV" cN_5 (.ref st_ALLOW_ENV)) (E_st_ALLOW_ENV : Exa Z h0 st_ALLOW_ENV cN_2) (S_st_ALLOW_FILES : Sta Z h0 cN_2 "ALLOW_FILES" cN_5 (.ref st_ALLOW_FILES)) (E_st_ALLOW_FILES : Exa Z h0 st_ALLOW_FILES cN_2) (F_ordinal_st_FROM : Fld Z h0 st_FROM cN_3 "ordinal" "I" (.int (0 : Int32))) (F_ordinal_st_ALLOW_FILES : Fld Z h0 st_ALLOW_FILES cN_3 "ordinal" "I" (.int (3 : Int32))) (F_ordinal_st_ALLOW_ENV : Fld Z h0 st_ALLOW_ENV cN_3 "ordinal" "I" (.int (2 : Int32))) (F_ordinal_st_TO : Fld Z h0 st_TO cN_3 "ordinal" "I" (.int (1 : Int32))) (F_options_st_TO_JSON : Fld Z h0 st_TO_JSON cN_0 "options" cN_1 (.ref oa_TO_JSON)) (V_oa_TO_JSON : Arv Z h0 oa_TO_JSON ko_TO_JSON (.object cN_2) (3 : Int32) [(.ref st_FROM), (.ref st_ALLOW_ENV), (.ref st_ALLOW_FILES)] .null) (F_options_st_FMT : Fld Z h0 st_FMT cN_0 "options" cN_1 (.ref oa_FMT)) (V_oa_FMT : Arv Z h0 oa_FMT ko_FMT (.object cN_2) (4 : Int32) [(.ref st_FROM), (.ref st_TO), (.ref st_ALLOW_ENV), (.ref st_ALLOW_FILES)] .null) (F_options_st_FROM_JSON : Fld Z h0 st_FROM_JSON cN_0 "options" cN_1 (.ref oa_FROM_JSON)) (V_oa_FROM_JSON : Arv Z h0 oa_FROM_JSON ko_FROM_JSON (.object cN_2) (1 : Int32) [(.ref st_TO)] .null) (F_options_st_CHECK : Fld Z h0 st_CHECK cN_0 "options" cN_1 (.ref oa_CHECK)) (V_oa_CHECK : Arv Z h0 oa_CHECK ko_CHECK (.object cN_2) (3 : Int32) [(.ref st_FROM), (.ref st_ALLOW_ENV), (.ref st_ALLOW_FILES)] .null) :
    MetFree l x (head1 (Jvm.Cond.code x code maxLocals ret :: ws) room_1) (fun as_ U => as_ = #[(.int xc), (.int xo)] ∧ Z.Warmed39 U.vm ∧ U.heap = h0) (fun _ _ _ _ _ => True) (fun _ U o U' => ∃ v L, o = .returned v ∧ Q0 Z xc xo st_TO_JSON st_FROM_JSON st_FMT st_CHECK st_FROM st_TO st_ALLOW_ENV st_ALLOW_FILES oa_TO_JSON ko_TO_JSON oa_FMT ko_FMT oa_FROM_JSON ko_FROM_JSON oa_CHECK ko_CHECK h0 n0 v U'.heap L ∧ FrameEnd U o U' L 3 12) := by
  refine body_of (plainFor_of_name pn_1) ?_
  intro p e s m below meth c s₁ hx dB hret hlk hml hown0 hnm X0 e0 hZ
  have hown : s.vm.findClass cN_6 = some m.cls := hown0
  have N0 := Fr.nil n0
  rw [ef_0]
  show Wk p e below (FN s (Q0 Z xc xo st_TO_JSON st_FROM_JSON st_FMT st_CHECK st_FROM st_TO st_ALLOW_ENV st_ALLOW_FILES oa_TO_JSON ko_TO_JSON oa_FMT ko_FMT oa_FROM_JSON ko_FROM_JSON oa_CHECK ko_CHECK h0 n0) 3 12) s₁ (mkF m 0 #[.val (.int xc), .val (.int xo), .unset, .unset, .unset, .unset, .unset, .unset, .unset] [])
  have r_xc := rng32 xc
  have r_xo := rng32 xo
  refine w_iconst X0 hx (dB at_0) 1 rfl (4 : Int32) (by decide) ?_
  refine w_newR X0 hx hZ hown e0 (tw_0 hw) (tw_1 hw) (by decide) 4 (by decide) (by decide) (by decide) (by decide) (dB at_1) 4 rfl (fun T54 h54 a54 k54 X54 e54 g54 E54 A54 O54 => ?_)
  have ne_st_TO_JSON_a54 : st_TO_JSON ≠ a54 := Nat.ne_of_lt (Nat.lt_of_lt_of_le E_st_TO_JSON.lt (Nat.le_of_eq g54.symm))
  have ne_st_FROM_JSON_a54 : st_FROM_JSON ≠ a54 := Nat.ne_of_lt (Nat.lt_of_lt_of_le E_st_FROM_JSON.lt (Nat.le_of_eq g54.symm))
  have ne_st_FMT_a54 : st_FMT ≠ a54 := Nat.ne_of_lt (Nat.lt_of_lt_of_le E_st_FMT.lt (Nat.le_of_eq g54.symm))
  have ne_st_CHECK_a54 : st_CHECK ≠ a54 := Nat.ne_of_lt (Nat.lt_of_lt_of_le E_st_CHECK.lt (Nat.le_of_eq g54.symm))
  have ne_st_FROM_a54 : st_FROM ≠ a54 := Nat.ne_of_lt (Nat.lt_of_lt_of_le E_st_FROM.lt (Nat.le_of_eq g54.symm))
  have ne_st_TO_a54 : st_TO ≠ a54 := Nat.ne_of_lt (Nat.lt_of_lt_of_le E_st_TO.lt (Nat.le_of_eq g54.symm))
  have ne_st_ALLOW_ENV_a54 : st_ALLOW_ENV ≠ a54 := Nat.ne_of_lt (Nat.lt_of_lt_of_le E_st_ALLOW_ENV.lt (Nat.le_of_eq g54.symm))
  have ne_st_ALLOW_FILES_a54 : st_ALLOW_FILES ≠ a54 := Nat.ne_of_lt (Nat.lt_of_lt_of_le E_st_ALLOW_FILES.lt (Nat.le_of_eq g54.symm))
  have ne_oa_TO_JSON_a54 : oa_TO_JSON ≠ a54 := Nat.ne_of_lt (Nat.lt_of_lt_of_le V_oa_TO_JSON.lt (Nat.le_of_eq g54.symm))
  have ne_oa_FMT_a54 : oa_FMT ≠ a54 := Nat.ne_of_lt (Nat.lt_of_lt_of_le V_oa_FMT.lt (Nat.le_of_eq g54.symm))
  have ne_oa_FROM_JSON_a54 : oa_FROM_JSON ≠ a54 := Nat.ne_of_lt (Nat.lt_of_lt_of_le V_oa_FROM_JSON.lt (Nat.le_of_eq g54.symm))
  have ne_oa_CHECK_a54 : oa_CHECK ≠ a54 := Nat.ne_of_lt (Nat.lt_of_lt_of_le V_oa_CHECK.lt (Nat.le_of_eq g54.symm))
  have g_a54 : n0 ≤ a54 := Nat.le_trans Z0 (Nat.le_of_eq g54.symm)
  have s_a54 : h0.size ≤ a54 := Nat.le_trans (Keep.refl h0 []).1 (Nat.le_of_eq g54.symm)
  have F55 : Sta Z h54 cN_0 "TO_JSON" cN_4 (.ref st_TO_JSON) := S_st_TO_JSON.ext E54
  have F56 : Exa Z h54 st_TO_JSON cN_0 := E_st_TO_JSON.ext E54
  have F57 : Sta Z h54 cN_0 "FROM_JSON" cN_4 (.ref st_FROM_JSON) := S_st_FROM_JSON.ext E54
  have F58 : Exa Z h54 st_FROM_JSON cN_0 := E_st_FROM_JSON.ext E54
  have F59 : Sta Z h54 cN_0 "FMT" cN_4 (.ref st_FMT) := S_st_FMT.ext E54
  have F60 : Exa Z h54 st_FMT cN_0 := E_st_FMT.ext E54
  have F61 : Sta Z h54 cN_0 "CHECK" cN_4 (.ref st_CHECK) := S_st_CHECK.ext E54
  have F62 : Exa Z h54 st_CHECK cN_0 := E_st_CHECK.ext E54
  have F63 : Sta Z h54 cN_2 "FROM" cN_5 (.ref st_FROM) := S_st_FROM.ext E54
  have F64 : Exa Z h54 st_FROM cN_2 := E_st_FROM.ext E54
  have F65 : Sta Z h54 cN_2 "TO" cN_5 (.ref st_TO) := S_st_TO.ext E54
  have F66 : Exa Z h54 st_TO cN_2 := E_st_TO.ext E54
  have F67 : Sta Z h54 cN_2 "ALLOW_ENV" cN_5 (.ref st_ALLOW_ENV) := S_st_ALLOW_ENV.ext E54
  have F68 : Exa Z h54 st_ALLOW_ENV cN_2 := E_st_ALLOW_ENV.ext E54
  have F69 : Sta Z h54 cN_2 "ALLOW_FILES" cN_5 (.ref st_ALLOW_FILES) := S_st_ALLOW_FILES.ext E54
  have F70 : Exa Z h54 st_ALLOW_FILES cN_2 := E_st_ALLOW_FILES.ext E54
  have F71 : Fld Z h54 st_FROM cN_3 "ordinal" "I" (.int (0 : Int32)) := F_ordinal_st_FROM.ext E54
  have F72 : Fld Z h54 st_ALLOW_FILES cN_3 "ordinal" "I" (.int (3 : Int32)) := F_ordinal_st_ALLOW_FILES.ext E54
  have F73 : Fld Z h54 st_ALLOW_ENV cN_3 "ordinal" "I" (.int (2 : Int32)) := F_ordinal_st_ALLOW_ENV.ext E54
  have F74 : Fld Z h54 st_TO cN_3 "ordinal" "I" (.int (1 : Int32)) := F_ordinal_st_TO.ext E54
  have F75 : Fld Z h54 st_TO_JSON cN_0 "options" cN_1 (.ref oa_TO_JSON) := F_options_st_TO_JSON.ext E54
  have F76 : Arv Z h54 oa_TO_JSON ko_TO_JSON (.object cN_2) (3 : Int32) [(.ref st_FROM), (.ref st_ALLOW_ENV), (.ref st_ALLOW_FILES)] .null := V_oa_TO_JSON.ext E54
  have F77 : Fld Z h54 st_FMT cN_0 "options" cN_1 (.ref oa_FMT) := F_options_st_FMT.ext E54
  have F78 : Arv Z h54 oa_FMT ko_FMT (.object cN_2) (4 : Int32) [(.ref st_FROM), (.ref st_TO), (.ref st_ALLOW_ENV), (.ref st_ALLOW_FILES)] .null := V_oa_FMT.ext E54
  have F79 : Fld Z h54 st_FROM_JSON cN_0 "options" cN_1 (.ref oa_FROM_JSON) := F_options_st_FROM_JSON.ext E54
  have F80 : Arv Z h54 oa_FROM_JSON ko_FROM_JSON (.object cN_2) (1 : Int32) [(.ref st_TO)] .null := V_oa_FROM_JSON.ext E54
  have F81 : Fld Z h54 st_CHECK cN_0 "options" cN_1 (.ref oa_CHECK) := F_options_st_CHECK.ext E54
  have F82 : Arv Z h54 oa_CHECK ko_CHECK (.object cN_2) (3 : Int32) [(.ref st_FROM), (.ref st_ALLOW_ENV), (.ref st_ALLOW_FILES)] .null := V_oa_CHECK.ext E54
  have Z54 : n0 ≤ h54.size := Nat.le_trans Z0 E54.1
  have K54 : Keep h0 h54 [] := (Keep.refl h0 []).ext E54
  have V54 : Arv Z h54 a54 k54 (.object cN_0) (4 : Int32) [.null, .null, .null, .null] .null := A54.pad (pad_rep [] .null 4)
  refine w_dup X54 hx (dB at_4) 5 rfl rfl ?_
  refine w_iconst X54 hx (dB at_5) 6 rfl (0 : Int32) (by decide) ?_
  refine w_getS X54 hx hZ hown e54 (host := "") (Or.inl (tw_2 hw)) Via.refl F55 (dB at_6) 9 rfl (fun T83 X83 e83 => ?_)
  refine w_aastore X83 hx hZ e83 V54 ⟨by decide, by decide⟩ 0 (by decide) (show 0 < 4 from (by decide)) rfl (Or.inr ⟨_, rfl, O54, (Ins.self F56)⟩) (dB at_9) 10 rfl (fun T84 h84 X84 e84 W84 V84 => ?_)
  have F85 : Sta Z h84 cN_0 "TO_JSON" cN_4 (.ref st_TO_JSON) := F55.wr W84
  have F86 : Exa Z h84 st_TO_JSON cN_0 := F56.wr W84
  have F87 : Sta Z h84 cN_0 "FROM_JSON" cN_4 (.ref st_FROM_JSON) := F57.wr W84
  have F88 : Exa Z h84 st_FROM_JSON cN_0 := F58.wr W84
  have F89 : Sta Z h84 cN_0 "FMT" cN_4 (.ref st_FMT) := F59.wr W84
  have F90 : Exa Z h84 st_FMT cN_0 := F60.wr W84
  have F91 : Sta Z h84 cN_0 "CHECK" cN_4 (.ref st_CHECK) := F61.wr W84
  have F92 : Exa Z h84 st_CHECK cN_0 := F62.wr W84
  have F93 : Sta Z h84 cN_2 "FROM" cN_5 (.ref st_FROM) := F63.wr W84
  have F94 : Exa Z h84 st_FROM cN_2 := F64.wr W84
  have F95 : Sta Z h84 cN_2 "TO" cN_5 (.ref st_TO) := F65.wr W84
  have F96 : Exa Z h84 st_TO cN_2 := F66.wr W84
  have F97 : Sta Z h84 cN_2 "ALLOW_ENV" cN_5 (.ref st_ALLOW_ENV) := F67.wr W84
  have F98 : Exa Z h84 st_ALLOW_ENV cN_2 := F68.wr W84
  have F99 : Sta Z h84 cN_2 "ALLOW_FILES" cN_5 (.ref st_ALLOW_FILES) := F69.wr W84
  have F100 : Exa Z h84 st_ALLOW_FILES cN_2 := F70.wr W84
  have F101 : Fld Z h84 st_FROM cN_3 "ordinal" "I" (.int (0 : Int32)) := F71.other W84 (Or.inl ne_st_FROM_a54)
  have F102 : Fld Z h84 st_ALLOW_FILES cN_3 "ordinal" "I" (.int (3 : Int32)) := F72.other W84 (Or.inl ne_st_ALLOW_FILES_a54)
  have F103 : Fld Z h84 st_ALLOW_ENV cN_3 "ordinal" "I" (.int (2 : Int32)) := F73.other W84 (Or.inl ne_st_ALLOW_ENV_a54)
  have F104 : Fld Z h84 st_TO cN_3 "ordinal" "I" (.int (1 : Int32)) := F74.other W84 (Or.inl ne_st_TO_a54)
  have F105 : Fld Z h84 st_TO_JSON cN_0 "options" cN_1 (.ref oa_TO_JSON) := F75.other W84 (Or.inl ne_st_TO_JSON_a54)
  have F106 : Arv Z h84 oa_TO_JSON ko_TO_JSON (.object cN_2) (3 : Int32) [(.ref st_FROM), (.ref st_ALLOW_ENV), (.ref st_ALLOW_FILES)] .null := F76.other W84 ne_oa_TO_JSON_a54
  have F107 : Fld Z h84 st_FMT cN_0 "options" cN_1 (.ref oa_FMT) := F77.other W84 (Or.inl ne_st_FMT_a54)
  have F108 : Arv Z h84 oa_FMT ko_FMT (.object cN_2) (4 : Int32) [(.ref st_FROM), (.ref st_TO), (.ref st_ALLOW_ENV), (.ref st_ALLOW_FILES)] .null := F78.other W84 ne_oa_FMT_a54
  have F109 : Fld Z h84 st_FROM_JSON cN_0 "options" cN_1 (.ref oa_FROM_JSON) := F79.other W84 (Or.inl ne_st_FROM_JSON_a54)
  have F110 : Arv Z h84 oa_FROM_JSON ko_FROM_JSON (.object cN_2) (1 : Int32) [(.ref st_TO)] .null := F80.other W84 ne_oa_FROM_JSON_a54
  have F111 : Fld Z h84 st_CHECK cN_0 "options" cN_1 (.ref oa_CHECK) := F81.other W84 (Or.inl ne_st_CHECK_a54)
  have F112 : Arv Z h84 oa_CHECK ko_CHECK (.object cN_2) (3 : Int32) [(.ref st_FROM), (.ref st_ALLOW_ENV), (.ref st_ALLOW_FILES)] .null := F82.other W84 ne_oa_CHECK_a54
  have F113 : Arv Z h84 a54 k54 (.object cN_0) (4 : Int32) [(.ref st_TO_JSON), .null, .null, .null] .null := V84
  have Z84 : n0 ≤ h84.size := by rw [W84.size]; exact Z54
  have K84 : Keep h0 h84 [] := K54.wr W84 (Or.inr s_a54)
  have N84 := Fr.snoc X84 N0 g_a54
  refine w_dup X84 hx (dB at_10) 11 rfl rfl ?_
  refine w_iconst X84 hx (dB at_11) 12 rfl (1 : Int32) (by decide) ?_
  refine w_getS X84 hx hZ hown e84 (host := "") (Or.inl (tw_6 hw)) Via.refl F87 (dB at_12) 15 rfl (fun T114 X114 e114 => ?_)
  refine w_aastore X114 hx hZ e114 F113 ⟨by decide, by decide⟩ 1 (by decide) (show 1 < 4 from (by decide)) rfl (Or.inr ⟨_, rfl, O54, (Ins.self F88)⟩) (dB at_15) 16 rfl (fun T115 h115 X115 e115 W115 V115 => ?_)
  have F116 : Sta Z h115 cN_0 "TO_JSON" cN_4 (.ref st_TO_JSON) := F85.wr W115
  have F117 : Exa Z h115 st_TO_JSON cN_0 := F86.wr W115
  have F118 : Sta Z h115 cN_0 "FROM_JSON" cN_4 (.ref st_FROM_JSON) := F87.wr W115
  have F119 : Exa Z h115 st_FROM_JSON cN_0 := F88.wr W115
  have F120 : Sta Z h115 cN_0 "FMT" cN_4 (.ref st_FMT) := F89.wr W115
  have F121 : Exa Z h115 st_FMT cN_0 := F90.wr W115
  have F122 : Sta Z h115 cN_0 "CHECK" cN_4 (.ref st_CHECK) := F91.wr W115
  have F123 : Exa Z h115 st_CHECK cN_0 := F92.wr W115
  have F124 : Sta Z h115 cN_2 "FROM" cN_5 (.ref st_FROM) := F93.wr W115
  have F125 : Exa Z h115 st_FROM cN_2 := F94.wr W115
  have F126 : Sta Z h115 cN_2 "TO" cN_5 (.ref st_TO) := F95.wr W115
  have F127 : Exa Z h115 st_TO cN_2 := F96.wr W115
  have F128 : Sta Z h115 cN_2 "ALLOW_ENV" cN_5 (.ref st_ALLOW_ENV) := F97.wr W115
  have F129 : Exa Z h115 st_ALLOW_ENV cN_2 := F98.wr W115
  have F130 : Sta Z h115 cN_2 "ALLOW_FILES" cN_5 (.ref st_ALLOW_FILES) := F99.wr W115
  have F131 : Exa Z h115 st_ALLOW_FILES cN_2 := F100.wr W115
  have F132 : Fld Z h115 st_FROM cN_3 "ordinal" "I" (.int (0 : Int32)) := F101.other W115 (Or.inl ne_st_FROM_a54)
  have F133 : Fld Z h115 st_ALLOW_FILES cN_3 "ordinal" "I" (.int (3 : Int32)) := F102.other W115 (Or.inl ne_st_ALLOW_FILES_a54)
  have F134 : Fld Z h115 st_ALLOW_ENV cN_3 "ordinal" "I" (.int (2 : Int32)) := F103.other W115 (Or.inl ne_st_ALLOW_ENV_a54)
  have F135 : Fld Z h115 st_TO cN_3 "ordinal" "I" (.int (1 : Int32)) := F104.other W115 (Or.inl ne_st_TO_a54)
  have F136 : Fld Z h115 st_TO_JSON cN_0 "options" cN_1 (.ref oa_TO_JSON) := F105.other W115 (Or.inl ne_st_TO_JSON_a54)
  have F137 : Arv Z h115 oa_TO_JSON ko_TO_JSON (.object cN_2) (3 : Int32) [(.ref st_FROM), (.ref st_ALLOW_ENV), (.ref st_ALLOW_FILES)] .null := F106.other W115 ne_oa_TO_JSON_a54
  have F138 : Fld Z h115 st_FMT cN_0 "options" cN_1 (.ref oa_FMT) := F107.other W115 (Or.inl ne_st_FMT_a54)
  have F139 : Arv Z h115 oa_FMT ko_FMT (.object cN_2) (4 : Int32) [(.ref st_FROM), (.ref st_TO), (.ref st_ALLOW_ENV), (.ref st_ALLOW_FILES)] .null := F108.other W115 ne_oa_FMT_a54
  have F140 : Fld Z h115 st_FROM_JSON cN_0 "options" cN_1 (.ref oa_FROM_JSON) := F109.other W115 (Or.inl ne_st_FROM_JSON_a54)
  have F141 : Arv Z h115 oa_FROM_JSON ko_FROM_JSON (.object cN_2) (1 : Int32) [(.ref st_TO)] .null := F110.other W115 ne_oa_FROM_JSON_a54
  have F142 : Fld Z h115 st_CHECK cN_0 "options" cN_1 (.ref oa_CHECK) := F111.other W115 (Or.inl ne_st_CHECK_a54)
  have F143 : Arv Z h115 oa_CHECK ko_CHECK (.object cN_2) (3 : Int32) [(.ref st_FROM), (.ref st_ALLOW_ENV), (.ref st_ALLOW_FILES)] .null := F112.other W115 ne_oa_CHECK_a54
  have F144 : Arv Z h115 a54 k54 (.object cN_0) (4 : Int32) [(.ref st_TO_JSON), (.ref st_FROM_JSON), .null, .null] .null := V115
  have Z115 : n0 ≤ h115.size := by rw [W115.size]; exact Z84
  have K115 : Keep h0 h115 [] := K84.wr W115 (Or.inr s_a54)
  have N115 := Fr.snoc X115 N84 g_a54
  refine w_dup X115 hx (dB at_16) 17 rfl rfl ?_
  refine w_iconst X115 hx (dB at_17) 18 rfl (2 : Int32) (by decide) ?_
  refine w_getS X115 hx hZ hown e115 (host := "") (Or.inl (tw_8 hw)) Via.refl F120 (dB at_18) 21 rfl (fun T145 X145 e145 => ?_)
  refine w_aastore X145 hx hZ e145 F144 ⟨by decide, by decide⟩ 2 (by decide) (show 2 < 4 from (by decide)) rfl (Or.inr ⟨_, rfl, O54, (Ins.self F121)⟩) (dB at_21) 22 rfl (fun T146 h146 X146 e146 W146 V146 => ?_)
  have F147 : Sta Z h146 cN_0 "TO_JSON" cN_4 (.ref st_TO_JSON) := F116.wr W146
  have F148 : Exa Z h146 st_TO_JSON cN_0 := F117.wr W146
  have F149 : Sta Z h146 cN_0 "FROM_JSON" cN_4 (.ref st_FROM_JSON) := F118.wr W146
  have F150 : Exa Z h146 st_FROM_JSON cN_0 := F119.wr W146
  have F151 : Sta Z h146 cN_0 "FMT" cN_4 (.ref st_FMT) := F120.wr W146
  have F152 : Exa Z h146 st_FMT cN_0 := F121.wr W146
  have F153 : Sta Z h146 cN_0 "CHECK" cN_4 (.ref st_CHECK) := F122.wr W146
  have F154 : Exa Z h146 st_CHECK cN_0 := F123.wr W146
  have F155 : Sta Z h146 cN_2 "FROM" cN_5 (.ref st_FROM) := F124.wr W146
  have F156 : Exa Z h146 st_FROM cN_2 := F125.wr W146
  have F157 : Sta Z h146 cN_2 "TO" cN_5 (.ref st_TO) := F126.wr W146
  have F158 : Exa Z h146 st_TO cN_2 := F127.wr W146
  have F159 : Sta Z h146 cN_2 "ALLOW_ENV" cN_5 (.ref st_ALLOW_ENV) := F128.wr W146
  have F160 : Exa Z h146 st_ALLOW_ENV cN_2 := F129.wr W146
  have F161 : Sta Z h146 cN_2 "ALLOW_FILES" cN_5 (.ref st_ALLOW_FILES) := F130.wr W146
  have F162 : Exa Z h146 st_ALLOW_FILES cN_2 := F131.wr W146
  have F163 : Fld Z h146 st_FROM cN_3 "ordinal" "I" (.int (0 : Int32)) := F132.other W146 (Or.inl ne_st_FROM_a54)
  have F164 : Fld Z h146 st_ALLOW_FILES cN_3 "ordinal" "I" (.int (3 : Int32)) := F133.other W146 (Or.inl ne_st_ALLOW_FILES_a54)
  have F165 : Fld Z h146 st_ALLOW_ENV cN_3 "ordinal" "I" (.int (2 : Int32)) := F134.other W146 (Or.inl ne_st_ALLOW_ENV_a54)
  have F166 : Fld Z h146 st_TO cN_3 "ordinal" "I" (.int (1 : Int32)) := F135.other W146 (Or.inl ne_st_TO_a54)
  have F167 : Fld Z h146 st_TO_JSON cN_0 "options" cN_1 (.ref oa_TO_JSON) := F136.other W146 (Or.inl ne_st_TO_JSON_a54)
  have F168 : Arv Z h146 oa_TO_JSON ko_TO_JSON (.object cN_2) (3 : Int32) [(.ref st_FROM), (.ref st_ALLOW_ENV), (.ref st_ALLOW_FILES)] .null := F137.other W146 ne_oa_TO_JSON_a54
  have F169 : Fld Z h146 st_FMT cN_0 "options" cN_1 (.ref oa_FMT) := F138.other W146 (Or.inl ne_st_FMT_a54)
  have F170 : Arv Z h146 oa_FMT ko_FMT (.object cN_2) (4 : Int32) [(.ref st_FROM), (.ref st_TO), (.ref st_ALLOW_ENV), (.ref st_ALLOW_FILES)] .null := F139.other W146 ne_oa_FMT_a54
  have F171 : Fld Z h146 st_FROM_JSON cN_0 "options" cN_1 (.ref oa_FROM_JSON) := F140.other W146 (Or.inl ne_st_FROM_JSON_a54)
  have F172 : Arv Z h146 oa_FROM_JSON ko_FROM_JSON (.object cN_2) (1 : Int32) [(.ref st_TO)] .null := F141.other W146 ne_oa_FROM_JSON_a54
  have F173 : Fld Z h146 st_CHECK cN_0 "options" cN_1 (.ref oa_CHECK) := F142.other W146 (Or.inl ne_st_CHECK_a54)
  have F174 : Arv Z h146 oa_CHECK ko_CHECK (.object cN_2) (3 : Int32) [(.ref st_FROM), (.ref st_ALLOW_ENV), (.ref st_ALLOW_FILES)] .null := F143.other W146 ne_oa_CHECK_a54
  have F175 : Arv Z h146 a54 k54 (.object cN_0) (4 : Int32) [(.ref st_TO_JSON), (.ref st_FROM_JSON), (.ref st_FMT), .null] .null := V146
  have Z146 : n0 ≤ h146.size := by rw [W146.size]; exact Z115
  have K146 : Keep h0 h146 [] := K115.wr W146 (Or.inr s_a54)
  have N146 := Fr.snoc X146 N115 g_a54
  refine w_dup X146 hx (dB at_22) 23 rfl rfl ?_
  refine w_iconst X146 hx (dB at_23) 24 rfl (3 : Int32) (by decide) ?_
  refine w_getS X146 hx hZ hown e146 (host := "") (Or.inl (tw_10 hw)) Via.refl F153 (dB at_24) 27 rfl (fun T176 X176 e176 => ?_)
  refine w_aastore X176 hx hZ e176 F175 ⟨by decide, by decide⟩ 3 (by decide) (show 3 < 4 from (by decide)) rfl (Or.inr ⟨_, rfl, O54, (Ins.self F154)⟩) (dB at_27) 28 rfl (fun T177 h177 X177 e177 W177 V177 => ?_)
  have F178 : Sta Z h177 cN_0 "TO_JSON" cN_4 (.ref st_TO_JSON) := F147.wr W177
  have F179 : Exa Z h177 st_TO_JSON cN_0 := F148.wr W177
  have F180 : Sta Z h177 cN_0 "FROM_JSON" cN_4 (.ref st_FROM_JSON) := F149.wr W177
  have F181 : Exa Z h177 st_FROM_JSON cN_0 := F150.wr W177
  have F182 : Sta Z h177 cN_0 "FMT" cN_4 (.ref st_FMT) := F151.wr W177
  have F183 : Exa Z h177 st_FMT cN_0 := F152.wr W177
  have F184 : Sta Z h177 cN_0 "CHECK" cN_4 (.ref st_CHECK) := F153.wr W177
  have F185 : Exa Z h177 st_CHECK cN_0 := F154.wr W177
  have F186 : Sta Z h177 cN_2 "FROM" cN_5 (.ref st_FROM) := F155.wr W177
  have F187 : Exa Z h177 st_FROM cN_2 := F156.wr W177
  have F188 : Sta Z h177 cN_2 "TO" cN_5 (.ref st_TO) := F157.wr W177
  have F189 : Exa Z h177 st_TO cN_2 := F158.wr W177
  have F190 : Sta Z h177 cN_2 "ALLOW_ENV" cN_5 (.ref st_ALLOW_ENV) := F159.wr W177
  have F191 : Exa Z h177 st_ALLOW_ENV cN_2 := F160.wr W177
  have F192 : Sta Z h177 cN_2 "ALLOW_FILES" cN_5 (.ref st_ALLOW_FILES) := F161.wr W177
  have F193 : Exa Z h177 st_ALLOW_FILES cN_2 := F162.wr W177
  have F194 : Fld Z h177 st_FROM cN_3 "ordinal" "I" (.int (0 : Int32)) := F163.other W177 (Or.inl ne_st_FROM_a54)
  have F195 : Fld Z h177 st_ALLOW_FILES cN_3 "ordinal" "I" (.int (3 : Int32)) := F164.other W177 (Or.inl ne_st_ALLOW_FILES_a54)
  have F196 : Fld Z h177 st_ALLOW_ENV cN_3 "ordinal" "I" (.int (2 : Int32)) := F165.other W177 (Or.inl ne_st_ALLOW_ENV_a54)
  have F197 : Fld Z h177 st_TO cN_3 "ordinal" "I" (.int (1 : Int32)) := F166.other W177 (Or.inl ne_st_TO_a54)
  have F198 : Fld Z h177 st_TO_JSON cN_0 "options" cN_1 (.ref oa_TO_JSON) := F167.other W177 (Or.inl ne_st_TO_JSON_a54)
  have F199 : Arv Z h177 oa_TO_JSON ko_TO_JSON (.object cN_2) (3 : Int32) [(.ref st_FROM), (.ref st_ALLOW_ENV), (.ref st_ALLOW_FILES)] .null := F168.other W177 ne_oa_TO_JSON_a54
  have F200 : Fld Z h177 st_FMT cN_0 "options" cN_1 (.ref oa_FMT) := F169.other W177 (Or.inl ne_st_FMT_a54)
  have F201 : Arv Z h177 oa_FMT ko_FMT (.object cN_2) (4 : Int32) [(.ref st_FROM), (.ref st_TO), (.ref st_ALLOW_ENV), (.ref st_ALLOW_FILES)] .null := F170.other W177 ne_oa_FMT_a54
  have F202 : Fld Z h177 st_FROM_JSON cN_0 "options" cN_1 (.ref oa_FROM_JSON) := F171.other W177 (Or.inl ne_st_FROM_JSON_a54)
  have F203 : Arv Z h177 oa_FROM_JSON ko_FROM_JSON (.object cN_2) (1 : Int32) [(.ref st_TO)] .null := F172.other W177 ne_oa_FROM_JSON_a54
  have F204 : Fld Z h177 st_CHECK cN_0 "options" cN_1 (.ref oa_CHECK) := F173.other W177 (Or.inl ne_st_CHECK_a54)
  have F205 : Arv Z h177 oa_CHECK ko_CHECK (.object cN_2) (3 : Int32) [(.ref st_FROM), (.ref st_ALLOW_ENV), (.ref st_ALLOW_FILES)] .null := F174.other W177 ne_oa_CHECK_a54
  have F206 : Arv Z h177 a54 k54 (.object cN_0) (4 : Int32) [(.ref st_TO_JSON), (.ref st_FROM_JSON), (.ref st_FMT), (.ref st_CHECK)] .null := V177
  have Z177 : n0 ≤ h177.size := by rw [W177.size]; exact Z146
  have K177 : Keep h0 h177 [] := K146.wr W177 (Or.inr s_a54)
  have N177 := Fr.snoc X177 N146 g_a54
  refine w_astoreN X177 hx (dB at_28) 29 rfl rfl #[.val (.int xc), .val (.int xo), .val (.ref a54), .unset, .unset, .unset, .unset, .unset, .unset] rfl ?_
  refine w_iconst X177 hx (dB at_29) 30 rfl (4 : Int32) (by decide) ?_
  refine w_newR X177 hx hZ hown e177 (tw_12 hw) (tw_13 hw) (by decide) 4 (by decide) (by decide) (by decide) (by decide) (dB at_30) 33 rfl (fun T207 h207 a207 k207 X207 e207 g207 E207 A207 O207 => ?_)
  have ne_st_TO_JSON_a207 : st_TO_JSON ≠ a207 := Nat.ne_of_lt (Nat.lt_of_lt_of_le F179.lt (Nat.le_of_eq g207.symm))
  have ne_st_FROM_JSON_a207 : st_FROM_JSON ≠ a207 := Nat.ne_of_lt (Nat.lt_of_lt_of_le F181.lt (Nat.le_of_eq g207.symm))
  have ne_st_FMT_a207 : st_FMT ≠ a207 := Nat.ne_of_lt (Nat.lt_of_lt_of_le F183.lt (Nat.le_of_eq g207.symm))
  have ne_st_CHECK_a207 : st_CHECK ≠ a207 := Nat.ne_of_lt (Nat.lt_of_lt_of_le F185.lt (Nat.le_of_eq g207.symm))
  have ne_st_FROM_a207 : st_FROM ≠ a207 := Nat.ne_of_lt (Nat.lt_of_lt_of_le F187.lt (Nat.le_of_eq g207.symm))
  have ne_st_TO_a207 : st_TO ≠ a207 := Nat.ne_of_lt (Nat.lt_of_lt_of_le F189.lt (Nat.le_of_eq g207.symm))
  have ne_st_ALLOW_ENV_a207 : st_ALLOW_ENV ≠ a207 := Nat.ne_of_lt (Nat.lt_of_lt_of_le F191.lt (Nat.le_of_eq g207.symm))
  have ne_st_ALLOW_FILES_a207 : st_ALLOW_FILES ≠ a207 := Nat.ne_of_lt (Nat.lt_of_lt_of_le F193.lt (Nat.le_of_eq g207.symm))
  have ne_oa_TO_JSON_a207 : oa_TO_JSON ≠ a207 := Nat.ne_of_lt (Nat.lt_of_lt_of_le F199.lt (Nat.le_of_eq g207.symm))
  have ne_oa_FMT_a207 : oa_FMT ≠ a207 := Nat.ne_of_lt (Nat.lt_of_lt_of_le F201.lt (Nat.le_of_eq g207.symm))
  have ne_oa_FROM_JSON_a207 : oa_FROM_JSON ≠ a207 := Nat.ne_of_lt (Nat.lt_of_lt_of_le F203.lt (Nat.le_of_eq g207.symm))
  have ne_oa_CHECK_a207 : oa_CHECK ≠ a207 := Nat.ne_of_lt (Nat.lt_of_lt_of_le F205.lt (Nat.le_of_eq g207.symm))
  have ne_a54_a207 : a54 ≠ a207 := Nat.ne_of_lt (Nat.lt_of_lt_of_le F206.lt (Nat.le_of_eq g207.symm))
  have g_a207 : n0 ≤ a207 := Nat.le_trans Z177 (Nat.le_of_eq g207.symm)
  have s_a207 : h0.size ≤ a207 := Nat.le_trans K177.1 (Nat.le_of_eq g207.symm)
  have F208 : Sta Z h207 cN_0 "TO_JSON" cN_4 (.ref st_TO_JSON) := F178.ext E207
  have F209 : Exa Z h207 st_TO_JSON cN_0 := F179.ext E207
  have F210 : Sta Z h207 cN_0 "FROM_JSON" cN_4 (.ref st_FROM_JSON) := F180.ext E207
  have F211 : Exa Z h207 st_FROM_JSON cN_0 := F181.ext E207
  have F212 : Sta Z h207 cN_0 "FMT" cN_4 (.ref st_FMT) := F182.ext E207
  have F213 : Exa Z h207 st_FMT cN_0 := F183.ext E207
  have F214 : Sta Z h207 cN_0 "CHECK" cN_4 (.ref st_CHECK) := F184.ext E207
  have F215 : Exa Z h207 st_CHECK cN_0 := F185.ext E207
  have F216 : Sta Z h207 cN_2 "FROM" cN_5 (.ref st_FROM) := F186.ext E207
  have F217 : Exa Z h207 st_FROM cN_2 := F187.ext E207
  have F218 : Sta Z h207 cN_2 "TO" cN_5 (.ref st_TO) := F188.ext E207
  have F219 : Exa Z h207 st_TO cN_2 := F189.ext E207
  have F220 : Sta Z h207 cN_2 "ALLOW_ENV" cN_5 (.ref st_ALLOW_ENV) := F190.ext E207
  have F221 : Exa Z h207 st_ALLOW_ENV cN_2 := F191.ext E207
  have F222 : Sta Z h207 cN_2 "ALLOW_FILES" cN_5 (.ref st_ALLOW_FILES) := F192.ext E207
  have F223 : Exa Z h207 st_ALLOW_FILES cN_2 := F193.ext E207
  have F224 : Fld Z h207 st_FROM cN_3 "ordinal" "I" (.int (0 : Int32)) := F194.ext E207
  have F225 : Fld Z h207 st_ALLOW_FILES cN_3 "ordinal" "I" (.int (3 : Int32)) := F195.ext E207
  have F226 : Fld Z h207 st_ALLOW_ENV cN_3 "ordinal" "I" (.int (2 : Int32)) := F196.ext E207
  have F227 : Fld Z h207 st_TO cN_3 "ordinal" "I" (.int (1 : Int32)) := F197.ext E207
  have F228 : Fld Z h207 st_TO_JSON cN_0 "options" cN_1 (.ref oa_TO_JSON) := F198.ext E207
  have F229 : Arv Z h207 oa_TO_JSON ko_TO_JSON (.object cN_2) (3 : Int32) [(.ref st_FROM), (.ref st_ALLOW_ENV), (.ref st_ALLOW_FILES)] .null := F199.ext E207
  have F230 : Fld Z h207 st_FMT cN_0 "options" cN_1 (.ref oa_FMT) := F200.ext E207
  have F231 : Arv Z h207 oa_FMT ko_FMT (.object cN_2) (4 : Int32) [(.ref st_FROM), (.ref st_TO), (.ref st_ALLOW_ENV), (.ref st_ALLOW_FILES)] .null := F201.ext E207
  have F232 : Fld Z h207 st_FROM_JSON cN_0 "options" cN_1 (.ref oa_FROM_JSON) := F202.ext E207
  have F233 : Arv Z h207 oa_FROM_JSON ko_FROM_JSON (.object cN_2) (1 : Int32) [(.ref st_TO)] .null := F203.ext E207
  have F234 : Fld Z h207 st_CHECK cN_0 "options" cN_1 (.ref oa_CHECK) := F204.ext E207
  have F235 : Arv Z h207 oa_CHECK ko_CHECK (.object cN_2) (3 : Int32) [(.ref st_FROM), (.ref st_ALLOW_ENV), (.ref st_ALLOW_FILES)] .null := F205.ext E207
  have F236 : Arv Z h207 a54 k54 (.object cN_0) (4 : Int32) [(.ref st_TO_JSON), (.ref st_FROM_JSON), (.ref st_FMT), (.ref st_CHECK)] .null := F206.ext E207
  have Z207 : n0 ≤ h207.size := Nat.le_trans Z177 E207.1
  have K207 : Keep h0 h207 [] := K177.ext E207
  have V207 : Arv Z h207 a207 k207 (.object cN_2) (4 : Int32) [.null, .null, .null, .null] .null := A207.pad (pad_rep [] .null 4)
  refine w_dup X207 hx (dB at_33) 34 rfl rfl ?_
  refine w_iconst X207 hx (dB at_34) 35 rfl (0 : Int32) (by decide) ?_
  refine w_getS X207 hx hZ hown e207 (host := "") (Or.inl (tw_14 hw)) Via.refl F216 (dB at_35) 38 rfl (fun T237 X237 e237 => ?_)
  refine w_aastore X237 hx hZ e237 V207 ⟨by decide, by decide⟩ 0 (by decide) (show 0 < 4 from (by decide)) rfl (Or.inr ⟨_, rfl, O207, (Ins.self F217)⟩) (dB at_38) 39 rfl (fun T238 h238 X238 e238 W238 V238 => ?_)
  have F239 : Sta Z h238 cN_0 "TO_JSON" cN_4 (.ref st_TO_JSON) := F208.wr W238
  have F240 : Exa Z h238 st_TO_JSON cN_0 := F209.wr W238
  have F241 : Sta Z h238 cN_0 "FROM_JSON" cN_4 (.ref st_FROM_JSON) := F210.wr W238
  have F242 : Exa Z h238 st_FROM_JSON cN_0 := F211.wr W238
  have F243 : Sta Z h238 cN_0 "FMT" cN_4 (.ref st_FMT) := F212.wr W238
  have F244 : Exa Z h238 st_FMT cN_0 := F213.wr W238
  have F245 : Sta Z h238 cN_0 "CHECK" cN_4 (.ref st_CHECK) := F214.wr W238
  have F246 : Exa Z h238 st_CHECK cN_0 := F215.wr W238
  have F247 : Sta Z h238 cN_2 "FROM" cN_5 (.ref st_FROM) := F216.wr W238
  have F248 : Exa Z h238 st_FROM cN_2 := F217.wr W238
  have F249 : Sta Z h238 cN_2 "TO" cN_5 (.ref st_TO) := F218.wr W238
  have F250 : Exa Z h238 st_TO cN_2 := F219.wr W238
  have F251 : Sta Z h238 cN_2 "ALLOW_ENV" cN_5 (.ref st_ALLOW_ENV) := F220.wr W238
  have F252 : Exa Z h238 st_ALLOW_ENV cN_2 := F221.wr W238
  have F253 : Sta Z h238 cN_2 "ALLOW_FILES" cN_5 (.ref st_ALLOW_FILES) := F222.wr W238
  have F254 : Exa Z h238 st_ALLOW_FILES cN_2 := F223.wr W238
  have F255 : Fld Z h238 st_FROM cN_3 "ordinal" "I" (.int (0 : Int32)) := F224.other W238 (Or.inl ne_st_FROM_a207)
  have F256 : Fld Z h238 st_ALLOW_FILES cN_3 "ordinal" "I" (.int (3 : Int32)) := F225.other W238 (Or.inl ne_st_ALLOW_FILES_a207)
  have F257 : Fld Z h238 st_ALLOW_ENV cN_3 "ordinal" "I" (.int (2 : Int32)) := F226.other W238 (Or.inl ne_st_ALLOW_ENV_a207)
  have F258 : Fld Z h238 st_TO cN_3 "ordinal" "I" (.int (1 : Int32)) := F227.other W238 (Or.inl ne_st_TO_a207)
  have F259 : Fld Z h238 st_TO_JSON cN_0 "options" cN_1 (.ref oa_TO_JSON) := F228.other W238 (Or.inl ne_st_TO_JSON_a207)
  have F260 : Arv Z h238 oa_TO_JSON ko_TO_JSON (.object cN_2) (3 : Int32) [(.ref st_FROM), (.ref st_ALLOW_ENV), (.ref st_ALLOW_FILES)] .null := F229.other W238 ne_oa_TO_JSON_a207
  have F261 : Fld Z h238 st_FMT cN_0 "options" cN_1 (.ref oa_FMT) := F230.other W238 (Or.inl ne_st_FMT_a207)
  have F262 : Arv Z h238 oa_FMT ko_FMT (.object cN_2) (4 : Int32) [(.ref st_FROM), (.ref st_TO), (.ref st_ALLOW_ENV), (.ref st_ALLOW_FILES)] .null := F231.other W238 ne_oa_FMT_a207
  have F263 : Fld Z h238 st_FROM_JSON cN_0 "options" cN_1 (.ref oa_FROM_JSON) := F232.other W238 (Or.inl ne_st_FROM_JSON_a207)
  have F264 : Arv Z h238 oa_FROM_JSON ko_FROM_JSON (.object cN_2) (1 : Int32) [(.ref st_TO)] .null := F233.other W238 ne_oa_FROM_JSON_a207
  have F265 : Fld Z h238 st_CHECK cN_0 "options" cN_1 (.ref oa_CHECK) := F234.other W238 (Or.inl ne_st_CHECK_a207)
  have F266 : Arv Z h238 oa_CHECK ko_CHECK (.object cN_2) (3 : Int32) [(.ref st_FROM), (.ref st_ALLOW_ENV), (.ref st_ALLOW_FILES)] .null := F235.other W238 ne_oa_CHECK_a207
  have F267 : Arv Z h238 a54 k54 (.object cN_0) (4 : Int32) [(.ref st_TO_JSON), (.ref st_FROM_JSON), (.ref st_FMT), (.ref st_CHECK)] .null := F236.other W238 ne_a54_a207
  have F268 : Arv Z h238 a207 k207 (.object cN_2) (4 : Int32) [(.ref st_FROM), .null, .null, .null] .null := V238
  have Z238 : n0 ≤ h238.size := by rw [W238.size]; exact Z207
  have K238 : Keep h0 h238 [] := K207.wr W238 (Or.inr s_a207)
  have N238 := Fr.snoc X238 N177 g_a207
  refine w_dup X238 hx (dB at_39) 40 rfl rfl ?_
  refine w_iconst X238 hx (dB at_40) 41 rfl (1 : Int32) (by decide) ?_
  refine w_getS X238 hx hZ hown e238 (host := "") (Or.inl (tw_18 hw)) Via.refl F249 (dB at_41) 44 rfl (fun T269 X269 e269 => ?_)
  refine w_aastore X269 hx hZ e269 F268 ⟨by decide, by decide⟩ 1 (by decide) (show 1 < 4 from (by decide)) rfl (Or.inr ⟨_, rfl, O207, (Ins.self F250)⟩) (dB at_44) 45 rfl (fun T270 h270 X270 e270 W270 V270 => ?_)
  have F271 : Sta Z h270 cN_0 "TO_JSON" cN_4 (.ref st_TO_JSON) := F239.wr W270
  have F272 : Exa Z h270 st_TO_JSON cN_0 := F240.wr W270
  have F273 : Sta Z h270 cN_0 "FROM_JSON" cN_4 (.ref st_FROM_JSON) := F241.wr W270
  have F274 : Exa Z h270 st_FROM_JSON cN_0 := F242.wr W270
  have F275 : Sta Z h270 cN_0 "FMT" cN_4 (.ref st_FMT) := F243.wr W270
  have F276 : Exa Z h270 st_FMT cN_0 := F244.wr W270
  have F277 : Sta Z h270 cN_0 "CHECK" cN_4 (.ref st_CHECK) := F245.wr W270
  have F278 : Exa Z h270 st_CHECK cN_0 := F246.wr W270
  have F279 : Sta Z h270 cN_2 "FROM" cN_5 (.ref st_FROM) := F247.wr W270
  have F280 : Exa Z h270 st_FROM cN_2 := F248.wr W270
  have F281 : Sta Z h270 cN_2 "TO" cN_5 (.ref st_TO) := F249.wr W270
  have F282 : Exa Z h270 st_TO cN_2 := F250.wr W270
  have F283 : Sta Z h270 cN_2 "ALLOW_ENV" cN_5 (.ref st_ALLOW_ENV) := F251.wr W270
  have F284 : Exa Z h270 st_ALLOW_ENV cN_2 := F252.wr W270
  have F285 : Sta Z h270 cN_2 "ALLOW_FILES" cN_5 (.ref st_ALLOW_FILES) := F253.wr W270
  have F286 : Exa Z h270 st_ALLOW_FILES cN_2 := F254.wr W270
  have F287 : Fld Z h270 st_FROM cN_3 "ordinal" "I" (.int (0 : Int32)) := F255.other W270 (Or.inl ne_st_FROM_a207)
  have F288 : Fld Z h270 st_ALLOW_FILES cN_3 "ordinal" "I" (.int (3 : Int32)) := F256.other W270 (Or.inl ne_st_ALLOW_FILES_a207)
  have F289 : Fld Z h270 st_ALLOW_ENV cN_3 "ordinal" "I" (.int (2 : Int32)) := F257.other W270 (Or.inl ne_st_ALLOW_ENV_a207)
  have F290 : Fld Z h270 st_TO cN_3 "ordinal" "I" (.int (1 : Int32)) := F258.other W270 (Or.inl ne_st_TO_a207)
  have F291 : Fld Z h270 st_TO_JSON cN_0 "options" cN_1 (.ref oa_TO_JSON) := F259.other W270 (Or.inl ne_st_TO_JSON_a207)
  have F292 : Arv Z h270 oa_TO_JSON ko_TO_JSON (.object cN_2) (3 : Int32) [(.ref st_FROM), (.ref st_ALLOW_ENV), (.ref st_ALLOW_FILES)] .null := F260.other W270 ne_oa_TO_JSON_a207
  have F293 : Fld Z h270 st_FMT cN_0 "options" cN_1 (.ref oa_FMT) := F261.other W270 (Or.inl ne_st_FMT_a207)
  have F294 : Arv Z h270 oa_FMT ko_FMT (.object cN_2) (4 : Int32) [(.ref st_FROM), (.ref st_TO), (.ref st_ALLOW_ENV), (.ref st_ALLOW_FILES)] .null := F262.other W270 ne_oa_FMT_a207
  have F295 : Fld Z h270 st_FROM_JSON cN_0 "options" cN_1 (.ref oa_FROM_JSON) := F263.other W270 (Or.inl ne_st_FROM_JSON_a207)
  have F296 : Arv Z h270 oa_FROM_JSON ko_FROM_JSON (.object cN_2) (1 : Int32) [(.ref st_TO)] .null := F264.other W270 ne_oa_FROM_JSON_a207
  have F297 : Fld Z h270 st_CHECK cN_0 "options" cN_1 (.ref oa_CHECK) := F265.other W270 (Or.inl ne_st_CHECK_a207)
  have F298 : Arv Z h270 oa_CHECK ko_CHECK (.object cN_2) (3 : Int32) [(.ref st_FROM), (.ref st_ALLOW_ENV), (.ref st_ALLOW_FILES)] .null := F266.other W270 ne_oa_CHECK_a207
  have F299 : Arv Z h270 a54 k54 (.object cN_0) (4 : Int32) [(.ref st_TO_JSON), (.ref st_FROM_JSON), (.ref st_FMT), (.ref st_CHECK)] .null := F267.other W270 ne_a54_a207
  have F300 : Arv Z h270 a207 k207 (.object cN_2) (4 : Int32) [(.ref st_FROM), (.ref st_TO), .null, .null] .null := V270
  have Z270 : n0 ≤ h270.size := by rw [W270.size]; exact Z238
  have K270 : Keep h0 h270 [] := K238.wr W270 (Or.inr s_a207)
  have N270 := Fr.snoc X270 N238 g_a207
  refine w_dup X270 hx (dB at_45) 46 rfl rfl ?_
  refine w_iconst X270 hx (dB at_46) 47 rfl (2 : Int32) (by decide) ?_
  refine w_getS X270 hx hZ hown e270 (host := "") (Or.inl (tw_20 hw)) Via.refl F283 (dB at_47) 50 rfl (fun T301 X301 e301 => ?_)
  refine w_aastore X301 hx hZ e301 F300 ⟨by decide, by decide⟩ 2 (by decide) (show 2 < 4 from (by decide)) rfl (Or.inr ⟨_, rfl, O207, (Ins.self F284)⟩) (dB at_50) 51 rfl (fun T302 h302 X302 e302 W302 V302 => ?_)
  have F303 : Sta Z h302 cN_0 "TO_JSON" cN_4 (.ref st_TO_JSON) := F271.wr W302
  have F304 : Exa Z h302 st_TO_JSON cN_0 := F272.wr W302
  have F305 : Sta Z h302 cN_0 "FROM_JSON" cN_4 (.ref st_FROM_JSON) := F273.wr W302
  have F306 : Exa Z h302 st_FROM_JSON cN_0 := F274.wr W302
  have F307 : Sta Z h302 cN_0 "FMT" cN_4 (.ref st_FMT) := F275.wr W302
  have F308 : Exa Z h302 st_FMT cN_0 := F276.wr W302
  have F309 : Sta Z h302 cN_0 "CHECK" cN_4 (.ref st_CHECK) := F277.wr W302
  have F310 : Exa Z h302 st_CHECK cN_0 := F278.wr W302
  have F311 : Sta Z h302 cN_2 "FROM" cN_5 (.ref st_FROM) := F279.wr W302
  have F312 : Exa Z h302 st_FROM cN_2 := F280.wr W302
  have F313 : Sta Z h302 cN_2 "TO" cN_5 (.ref st_TO) := F281.wr W302
  have F314 : Exa Z h302 st_TO cN_2 := F282.wr W302
  have F315 : Sta Z h302 cN_2 "ALLOW_ENV" cN_5 (.ref st_ALLOW_ENV) := F283.wr W302
  have F316 : Exa Z h302 st_ALLOW_ENV cN_2 := F284.wr W302
  have F317 : Sta Z h302 cN_2 "ALLOW_FILES" cN_5 (.ref st_ALLOW_FILES) := F285.wr W302
  have F318 : Exa Z h302 st_ALLOW_FILES cN_2 := F286.wr W302
  have F319 : Fld Z h302 st_FROM cN_3 "ordinal" "I" (.int (0 : Int32)) := F287.other W302 (Or.inl ne_st_FROM_a207)
  have F320 : Fld Z h302 st_ALLOW_FILES cN_3 "ordinal" "I" (.int (3 : Int32)) := F288.other W302 (Or.inl ne_st_ALLOW_FILES_a207)
  have F321 : Fld Z h302 st_ALLOW_ENV cN_3 "ordinal" "I" (.int (2 : Int32)) := F289.other W302 (Or.inl ne_st_ALLOW_ENV_a207)
  have F322 : Fld Z h302 st_TO cN_3 "ordinal" "I" (.int (1 : Int32)) := F290.other W302 (Or.inl ne_st_TO_a207)
  have F323 : Fld Z h302 st_TO_JSON cN_0 "options" cN_1 (.ref oa_TO_JSON) := F291.other W302 (Or.inl ne_st_TO_JSON_a207)
  have F324 : Arv Z h302 oa_TO_JSON ko_TO_JSON (.object cN_2) (3 : Int32) [(.ref st_FROM), (.ref st_ALLOW_ENV), (.ref st_ALLOW_FILES)] .null := F292.other W302 ne_oa_TO_JSON_a207
  have F325 : Fld Z h302 st_FMT cN_0 "options" cN_1 (.ref oa_FMT) := F293.other W302 (Or.inl ne_st_FMT_a207)
  have F326 : Arv Z h302 oa_FMT ko_FMT (.object cN_2) (4 : Int32) [(.ref st_FROM), (.ref st_TO), (.ref st_ALLOW_ENV), (.ref st_ALLOW_FILES)] .null := F294.other W302 ne_oa_FMT_a207
  have F327 : Fld Z h302 st_FROM_JSON cN_0 "options" cN_1 (.ref oa_FROM_JSON) := F295.other W302 (Or.inl ne_st_FROM_JSON_a207)
  have F328 : Arv Z h302 oa_FROM_JSON ko_FROM_JSON (.object cN_2) (1 : Int32) [(.ref st_TO)] .null := F296.other W302 ne_oa_FROM_JSON_a207
  have F329 : Fld Z h302 st_CHECK cN_0 "options" cN_1 (.ref oa_CHECK) := F297.other W302 (Or.inl ne_st_CHECK_a207)
  have F330 : Arv Z h302 oa_CHECK ko_CHECK (.object cN_2) (3 : Int32) [(.ref st_FROM), (.ref st_ALLOW_ENV), (.ref st_ALLOW_FILES)] .null := F298.other W302 ne_oa_CHECK_a207
  have F331 : Arv Z h302 a54 k54 (.object cN_0) (4 : Int32) [(.ref st_TO_JSON), (.ref st_FROM_JSON), (.ref st_FMT), (.ref st_CHECK)] .null := F299.other W302 ne_a54_a207
  have F332 : Arv Z h302 a207 k207 (.object cN_2) (4 : Int32) [(.ref st_FROM), (.ref st_TO), (.ref st_ALLOW_ENV), .null] .null := V302
  have Z302 : n0 ≤ h302.size := by rw [W302.size]; exact Z270
  have K302 : Keep h0 h302 [] := K270.wr W302 (Or.inr s_a207)
  have N302 := Fr.snoc X302 N270 g_a207
  refine w_dup X302 hx (dB at_51) 52 rfl rfl ?_
  refine w_iconst X302 hx (dB at_52) 53 rfl (3 : Int32) (by decide) ?_
  refine w_getS X302 hx hZ hown e302 (host := "") (Or.inl (tw_22 hw)) Via.refl F317 (dB at_53) 56 rfl (fun T333 X333 e333 => ?_)
  refine w_aastore X333 hx hZ e333 F332 ⟨by decide, by decide⟩ 3 (by decide) (show 3 < 4 from (by decide)) rfl (Or.inr ⟨_, rfl, O207, (Ins.self F318)⟩) (dB at_56) 57 rfl (fun T334 h334 X334 e334 W334 V334 => ?_)
  have F335 : Sta Z h334 cN_0 "TO_JSON" cN_4 (.ref st_TO_JSON) := F303.wr W334
  have F336 : Exa Z h334 st_TO_JSON cN_0 := F304.wr W334
  have F337 : Sta Z h334 cN_0 "FROM_JSON" cN_4 (.ref st_FROM_JSON) := F305.wr W334
  have F338 : Exa Z h334 st_FROM_JSON cN_0 := F306.wr W334
  have F339 : Sta Z h334 cN_0 "FMT" cN_4 (.ref st_FMT) := F307.wr W334
  have F340 : Exa Z h334 st_FMT cN_0 := F308.wr W334
  have F341 : Sta Z h334 cN_0 "CHECK" cN_4 (.ref st_CHECK) := F309.wr W334
  have F342 : Exa Z h334 st_CHECK cN_0 := F310.wr W334
  have F343 : Sta Z h334 cN_2 "FROM" cN_5 (.ref st_FROM) := F311.wr W334
  have F344 : Exa Z h334 st_FROM cN_2 := F312.wr W334
  have F345 : Sta Z h334 cN_2 "TO" cN_5 (.ref st_TO) := F313.wr W334
  have F346 : Exa Z h334 st_TO cN_2 := F314.wr W334
  have F347 : Sta Z h334 cN_2 "ALLOW_ENV" cN_5 (.ref st_ALLOW_ENV) := F315.wr W334
  have F348 : Exa Z h334 st_ALLOW_ENV cN_2 := F316.wr W334
  have F349 : Sta Z h334 cN_2 "ALLOW_FILES" cN_5 (.ref st_ALLOW_FILES) := F317.wr W334
  have F350 : Exa Z h334 st_ALLOW_FILES cN_2 := F318.wr W334
  have F351 : Fld Z h334 st_FROM cN_3 "ordinal" "I" (.int (0 : Int32)) := F319.other W334 (Or.inl ne_st_FROM_a207)
  have F352 : Fld Z h334 st_ALLOW_FILES cN_3 "ordinal" "I" (.int (3 : Int32)) := F320.other W334 (Or.inl ne_st_ALLOW_FILES_a207)
  have F353 : Fld Z h334 st_ALLOW_ENV cN_3 "ordinal" "I" (.int (2 : Int32)) := F321.other W334 (Or.inl ne_st_ALLOW_ENV_a207)
  have F354 : Fld Z h334 st_TO cN_3 "ordinal" "I" (.int (1 : Int32)) := F322.other W334 (Or.inl ne_st_TO_a207)
  have F355 : Fld Z h334 st_TO_JSON cN_0 "options" cN_1 (.ref oa_TO_JSON) := F323.other W334 (Or.inl ne_st_TO_JSON_a207)
  have F356 : Arv Z h334 oa_TO_JSON ko_TO_JSON (.object cN_2) (3 : Int32) [(.ref st_FROM), (.ref st_ALLOW_ENV), (.ref st_ALLOW_FILES)] .null := F324.other W334 ne_oa_TO_JSON_a207
  have F357 : Fld Z h334 st_FMT cN_0 "options" cN_1 (.ref oa_FMT) := F325.other W334 (Or.inl ne_st_FMT_a207)
  have F358 : Arv Z h334 oa_FMT ko_FMT (.object cN_2) (4 : Int32) [(.ref st_FROM), (.ref st_TO), (.ref st_ALLOW_ENV), (.ref st_ALLOW_FILES)] .null := F326.other W334 ne_oa_FMT_a207
  have F359 : Fld Z h334 st_FROM_JSON cN_0 "options" cN_1 (.ref oa_FROM_JSON) := F327.other W334 (Or.inl ne_st_FROM_JSON_a207)
  have F360 : Arv Z h334 oa_FROM_JSON ko_FROM_JSON (.object cN_2) (1 : Int32) [(.ref st_TO)] .null := F328.other W334 ne_oa_FROM_JSON_a207
  have F361 : Fld Z h334 st_CHECK cN_0 "options" cN_1 (.ref oa_CHECK) := F329.other W334 (Or.inl ne_st_CHECK_a207)
  have F362 : Arv Z h334 oa_CHECK ko_CHECK (.object cN_2) (3 : Int32) [(.ref st_FROM), (.ref st_ALLOW_ENV), (.ref st_ALLOW_FILES)] .null := F330.other W334 ne_oa_CHECK_a207
  have F363 : Arv Z h334 a54 k54 (.object cN_0) (4 : Int32) [(.ref st_TO_JSON), (.ref st_FROM_JSON), (.ref st_FMT), (.ref st_CHECK)] .null := F331.other W334 ne_a54_a207
  have F364 : Arv Z h334 a207 k207 (.object cN_2) (4 : Int32) [(.ref st_FROM), (.ref st_TO), (.ref st_ALLOW_ENV), (.ref st_ALLOW_FILES)] .null := V334
  have Z334 : n0 ≤ h334.size := by rw [W334.size]; exact Z302
  have K334 : Keep h0 h334 [] := K302.wr W334 (Or.inr s_a207)
  have N334 := Fr.snoc X334 N302 g_a207
  refine w_astoreN X334 hx (dB at_57) 58 rfl rfl #[.val (.int xc), .val (.int xo), .val (.ref a54), .val (.ref a207), .unset, .unset, .unset, .unset, .unset] rfl ?_
  refine w_iconst X334 hx (dB at_58) 59 rfl (4 : Int32) (by decide) ?_
  refine w_newP X334 hx hZ e334 (aty := .int) (tw_24 hw) (by decide) 4 (by decide) (by decide) (by decide) (by decide) (dB at_59) 61 rfl (fun T365 h365 a365 k365 X365 e365 g365 E365 A365 => ?_)
  have ne_st_TO_JSON_a365 : st_TO_JSON ≠ a365 := Nat.ne_of_lt (Nat.lt_of_lt_of_le F336.lt (Nat.le_of_eq g365.symm))
  have ne_st_FROM_JSON_a365 : st_FROM_JSON ≠ a365 := Nat.ne_of_lt (Nat.lt_of_lt_of_le F338.lt (Nat.le_of_eq g365.symm))
  have ne_st_FMT_a365 : st_FMT ≠ a365 := Nat.ne_of_lt (Nat.lt_of_lt_of_le F340.lt (Nat.le_of_eq g365.symm))
  have ne_st_CHECK_a365 : st_CHECK ≠ a365 := Nat.ne_of_lt (Nat.lt_of_lt_of_le F342.lt (Nat.le_of_eq g365.symm))
  have ne_st_FROM_a365 : st_FROM ≠ a365 := Nat.ne_of_lt (Nat.lt_of_lt_of_le F344.lt (Nat.le_of_eq g365.symm))
  have ne_st_TO_a365 : st_TO ≠ a365 := Nat.ne_of_lt (Nat.lt_of_lt_of_le F346.lt (Nat.le_of_eq g365.symm))
  have ne_st_ALLOW_ENV_a365 : st_ALLOW_ENV ≠ a365 := Nat.ne_of_lt (Nat.lt_of_lt_of_le F348.lt (Nat.le_of_eq g365.symm))
  have ne_st_ALLOW_FILES_a365 : st_ALLOW_FILES ≠ a365 := Nat.ne_of_lt (Nat.lt_of_lt_of_le F350.lt (Nat.le_of_eq g365.symm))
  have ne_oa_TO_JSON_a365 : oa_TO_JSON ≠ a365 := Nat.ne_of_lt (Nat.lt_of_lt_of_le F356.lt (Nat.le_of_eq g365.symm))
  have ne_oa_FMT_a365 : oa_FMT ≠ a365 := Nat.ne_of_lt (Nat.lt_of_lt_of_le F358.lt (Nat.le_of_eq g365.symm))
  have ne_oa_FROM_JSON_a365 : oa_FROM_JSON ≠ a365 := Nat.ne_of_lt (Nat.lt_of_lt_of_le F360.lt (Nat.le_of_eq g365.symm))
  have ne_oa_CHECK_a365 : oa_CHECK ≠ a365 := Nat.ne_of_lt (Nat.lt_of_lt_of_le F362.lt (Nat.le_of_eq g365.symm))
  have ne_a54_a365 : a54 ≠ a365 := Nat.ne_of_lt (Nat.lt_of_lt_of_le F363.lt (Nat.le_of_eq g365.symm))
  have ne_a207_a365 : a207 ≠ a365 := Nat.ne_of_lt (Nat.lt_of_lt_of_le F364.lt (Nat.le_of_eq g365.symm))
  have g_a365 : n0 ≤ a365 := Nat.le_trans Z334 (Nat.le_of_eq g365.symm)
  have s_a365 : h0.size ≤ a365 := Nat.le_trans K334.1 (Nat.le_of_eq g365.symm)
  have F366 : Sta Z h365 cN_0 "TO_JSON" cN_4 (.ref st_TO_JSON) := F335.ext E365
  have F367 : Exa Z h365 st_TO_JSON cN_0 := F336.ext E365
  have F368 : Sta Z h365 cN_0 "FROM_JSON" cN_4 (.ref st_FROM_JSON) := F337.ext E365
  have F369 : Exa Z h365 st_FROM_JSON cN_0 := F338.ext E365
  have F370 : Sta Z h365 cN_0 "FMT" cN_4 (.ref st_FMT) := F339.ext E365
  have F371 : Exa Z h365 st_FMT cN_0 := F340.ext E365
  have F372 : Sta Z h365 cN_0 "CHECK" cN_4 (.ref st_CHECK) := F341.ext E365
  have F373 : Exa Z h365 st_CHECK cN_0 := F342.ext E365
  have F374 : Sta Z h365 cN_2 "FROM" cN_5 (.ref st_FROM) := F343.ext E365
  have F375 : Exa Z h365 st_FROM cN_2 := F344.ext E365
  have F376 : Sta Z h365 cN_2 "TO" cN_5 (.ref st_TO) := F345.ext E365
  have F377 : Exa Z h365 st_TO cN_2 := F346.ext E365
  have F378 : Sta Z h365 cN_2 "ALLOW_ENV" cN_5 (.ref st_ALLOW_ENV) := F347.ext E365
  have F379 : Exa Z h365 st_ALLOW_ENV cN_2 := F348.ext E365
  have F380 : Sta Z h365 cN_2 "ALLOW_FILES" cN_5 (.ref st_ALLOW_FILES) := F349.ext E365
  have F381 : Exa Z h365 st_ALLOW_FILES cN_2 := F350.ext E365
  have F382 : Fld Z h365 st_FROM cN_3 "ordinal" "I" (.int (0 : Int32)) := F351.ext E365
  have F383 : Fld Z h365 st_ALLOW_FILES cN_3 "ordinal" "I" (.int (3 : Int32)) := F352.ext E365
  have F384 : Fld Z h365 st_ALLOW_ENV cN_3 "ordinal" "I" (.int (2 : Int32)) := F353.ext E365
  have F385 : Fld Z h365 st_TO cN_3 "ordinal" "I" (.int (1 : Int32)) := F354.ext E365
  have F386 : Fld Z h365 st_TO_JSON cN_0 "options" cN_1 (.ref oa_TO_JSON) := F355.ext E365
  have F387 : Arv Z h365 oa_TO_JSON ko_TO_JSON (.object cN_2) (3 : Int32) [(.ref st_FROM), (.ref st_ALLOW_ENV), (.ref st_ALLOW_FILES)] .null := F356.ext E365
  have F388 : Fld Z h365 st_FMT cN_0 "options" cN_1 (.ref oa_FMT) := F357.ext E365
  have F389 : Arv Z h365 oa_FMT ko_FMT (.object cN_2) (4 : Int32) [(.ref st_FROM), (.ref st_TO), (.ref st_ALLOW_ENV), (.ref st_ALLOW_FILES)] .null := F358.ext E365
  have F390 : Fld Z h365 st_FROM_JSON cN_0 "options" cN_1 (.ref oa_FROM_JSON) := F359.ext E365
  have F391 : Arv Z h365 oa_FROM_JSON ko_FROM_JSON (.object cN_2) (1 : Int32) [(.ref st_TO)] .null := F360.ext E365
  have F392 : Fld Z h365 st_CHECK cN_0 "options" cN_1 (.ref oa_CHECK) := F361.ext E365
  have F393 : Arv Z h365 oa_CHECK ko_CHECK (.object cN_2) (3 : Int32) [(.ref st_FROM), (.ref st_ALLOW_ENV), (.ref st_ALLOW_FILES)] .null := F362.ext E365
  have F394 : Arv Z h365 a54 k54 (.object cN_0) (4 : Int32) [(.ref st_TO_JSON), (.ref st_FROM_JSON), (.ref st_FMT), (.ref st_CHECK)] .null := F363.ext E365
  have F395 : Arv Z h365 a207 k207 (.object cN_2) (4 : Int32) [(.ref st_FROM), (.ref st_TO), (.ref st_ALLOW_ENV), (.ref st_ALLOW_FILES)] .null := F364.ext E365
  have Z365 : n0 ≤ h365.size := Nat.le_trans Z334 E365.1
  have K365 : Keep h0 h365 [] := K334.ext E365
  have V365 : Arv Z h365 a365 k365 .int (4 : Int32) [(.int (0 : Int32)), (.int (0 : Int32)), (.int (0 : Int32)), (.int (0 : Int32))] (.int (0 : Int32)) := A365.pad (pad_rep [] (.int (0 : Int32)) 4)
  refine w_dup X365 hx (dB at_61) 62 rfl rfl ?_
  refine w_iconst X365 hx (dB at_62) 63 rfl (0 : Int32) (by decide) ?_
  refine w_bipush X365 hx (dB at_63) 65 rfl (13 : Int32) (by decide) ?_
  refine w_iastore X365 hx hZ e365 V365 ⟨by decide, by decide⟩ 0 (by decide) (show 0 < 4 from (by decide)) (dB at_65) 66 rfl (fun T396 h396 X396 e396 W396 V396 => ?_)
  have F397 : Sta Z h396 cN_0 "TO_JSON" cN_4 (.ref st_TO_JSON) := F366.wr W396
  have F398 : Exa Z h396 st_TO_JSON cN_0 := F367.wr W396
  have F399 : Sta Z h396 cN_0 "FROM_JSON" cN_4 (.ref st_FROM_JSON) := F368.wr W396
  have F400 : Exa Z h396 st_FROM_JSON cN_0 := F369.wr W396
  have F401 : Sta Z h396 cN_0 "FMT" cN_4 (.ref st_FMT) := F370.wr W396
  have F402 : Exa Z h396 st_FMT cN_0 := F371.wr W396
  have F403 : Sta Z h396 cN_0 "CHECK" cN_4 (.ref st_CHECK) := F372.wr W396
  have F404 : Exa Z h396 st_CHECK cN_0 := F373.wr W396
  have F405 : Sta Z h396 cN_2 "FROM" cN_5 (.ref st_FROM) := F374.wr W396
  have F406 : Exa Z h396 st_FROM cN_2 := F375.wr W396
  have F407 : Sta Z h396 cN_2 "TO" cN_5 (.ref st_TO) := F376.wr W396
  have F408 : Exa Z h396 st_TO cN_2 := F377.wr W396
  have F409 : Sta Z h396 cN_2 "ALLOW_ENV" cN_5 (.ref st_ALLOW_ENV) := F378.wr W396
  have F410 : Exa Z h396 st_ALLOW_ENV cN_2 := F379.wr W396
  have F411 : Sta Z h396 cN_2 "ALLOW_FILES" cN_5 (.ref st_ALLOW_FILES) := F380.wr W396
  have F412 : Exa Z h396 st_ALLOW_FILES cN_2 := F381.wr W396
  have F413 : Fld Z h396 st_FROM cN_3 "ordinal" "I" (.int (0 : Int32)) := F382.other W396 (Or.inl ne_st_FROM_a365)
  have F414 : Fld Z h396 st_ALLOW_FILES cN_3 "ordinal" "I" (.int (3 : Int32)) := F383.other W396 (Or.inl ne_st_ALLOW_FILES_a365)
  have F415 : Fld Z h396 st_ALLOW_ENV cN_3 "ordinal" "I" (.int (2 : Int32)) := F384.other W396 (Or.inl ne_st_ALLOW_ENV_a365)
  have F416 : Fld Z h396 st_TO cN_3 "ordinal" "I" (.int (1 : Int32)) := F385.other W396 (Or.inl ne_st_TO_a365)
  have F417 : Fld Z h396 st_TO_JSON cN_0 "options" cN_1 (.ref oa_TO_JSON) := F386.other W396 (Or.inl ne_st_TO_JSON_a365)
  have F418 : Arv Z h396 oa_TO_JSON ko_TO_JSON (.object cN_2) (3 : Int32) [(.ref st_FROM), (.ref st_ALLOW_ENV), (.ref st_ALLOW_FILES)] .null := F387.other W396 ne_oa_TO_JSON_a365
  have F419 : Fld Z h396 st_FMT cN_0 "options" cN_1 (.ref oa_FMT) := F388.other W396 (Or.inl ne_st_FMT_a365)
  have F420 : Arv Z h396 oa_FMT ko_FMT (.object cN_2) (4 : Int32) [(.ref st_FROM), (.ref st_TO), (.ref st_ALLOW_ENV), (.ref st_ALLOW_FILES)] .null := F389.other W396 ne_oa_FMT_a365
  have F421 : Fld Z h396 st_FROM_JSON cN_0 "options" cN_1 (.ref oa_FROM_JSON) := F390.other W396 (Or.inl ne_st_FROM_JSON_a365)
  have F422 : Arv Z h396 oa_FROM_JSON ko_FROM_JSON (.object cN_2) (1 : Int32) [(.ref st_TO)] .null := F391.other W396 ne_oa_FROM_JSON_a365
  have F423 : Fld Z h396 st_CHECK cN_0 "options" cN_1 (.ref oa_CHECK) := F392.other W396 (Or.inl ne_st_CHECK_a365)
  have F424 : Arv Z h396 oa_CHECK ko_CHECK (.object cN_2) (3 : Int32) [(.ref st_FROM), (.ref st_ALLOW_ENV), (.ref st_ALLOW_FILES)] .null := F393.other W396 ne_oa_CHECK_a365
  have F425 : Arv Z h396 a54 k54 (.object cN_0) (4 : Int32) [(.ref st_TO_JSON), (.ref st_FROM_JSON), (.ref st_FMT), (.ref st_CHECK)] .null := F394.other W396 ne_a54_a365
  have F426 : Arv Z h396 a207 k207 (.object cN_2) (4 : Int32) [(.ref st_FROM), (.ref st_TO), (.ref st_ALLOW_ENV), (.ref st_ALLOW_FILES)] .null := F395.other W396 ne_a207_a365
  have F427 : Arv Z h396 a365 k365 .int (4 : Int32) [(.int (13 : Int32)), (.int (0 : Int32)), (.int (0 : Int32)), (.int (0 : Int32))] (.int (0 : Int32)) := V396
  have Z396 : n0 ≤ h396.size := by rw [W396.size]; exact Z365
  have K396 : Keep h0 h396 [] := K365.wr W396 (Or.inr s_a365)
  have N396 := Fr.snoc X396 N334 g_a365
  refine w_dup X396 hx (dB at_66) 67 rfl rfl ?_
  refine w_iconst X396 hx (dB at_67) 68 rfl (1 : Int32) (by decide) ?_
  refine w_iconst X396 hx (dB at_68) 69 rfl (2 : Int32) (by decide) ?_
  refine w_iastore X396 hx hZ e396 F427 ⟨by decide, by decide⟩ 1 (by decide) (show 1 < 4 from (by decide)) (dB at_69) 70 rfl (fun T428 h428 X428 e428 W428 V428 => ?_)
  have F429 : Sta Z h428 cN_0 "TO_JSON" cN_4 (.ref st_TO_JSON) := F397.wr W428
  have F430 : Exa Z h428 st_TO_JSON cN_0 := F398.wr W428
  have F431 : Sta Z h428 cN_0 "FROM_JSON" cN_4 (.ref st_FROM_JSON) := F399.wr W428
  have F432 : Exa Z h428 st_FROM_JSON cN_0 := F400.wr W428
  have F433 : Sta Z h428 cN_0 "FMT" cN_4 (.ref st_FMT) := F401.wr W428
  have F434 : Exa Z h428 st_FMT cN_0 := F402.wr W428
  have F435 : Sta Z h428 cN_0 "CHECK" cN_4 (.ref st_CHECK) := F403.wr W428
  have F436 : Exa Z h428 st_CHECK cN_0 := F404.wr W428
  have F437 : Sta Z h428 cN_2 "FROM" cN_5 (.ref st_FROM) := F405.wr W428
  have F438 : Exa Z h428 st_FROM cN_2 := F406.wr W428
  have F439 : Sta Z h428 cN_2 "TO" cN_5 (.ref st_TO) := F407.wr W428
  have F440 : Exa Z h428 st_TO cN_2 := F408.wr W428
  have F441 : Sta Z h428 cN_2 "ALLOW_ENV" cN_5 (.ref st_ALLOW_ENV) := F409.wr W428
  have F442 : Exa Z h428 st_ALLOW_ENV cN_2 := F410.wr W428
  have F443 : Sta Z h428 cN_2 "ALLOW_FILES" cN_5 (.ref st_ALLOW_FILES) := F411.wr W428
  have F444 : Exa Z h428 st_ALLOW_FILES cN_2 := F412.wr W428
  have F445 : Fld Z h428 st_FROM cN_3 "ordinal" "I" (.int (0 : Int32)) := F413.other W428 (Or.inl ne_st_FROM_a365)
  have F446 : Fld Z h428 st_ALLOW_FILES cN_3 "ordinal" "I" (.int (3 : Int32)) := F414.other W428 (Or.inl ne_st_ALLOW_FILES_a365)
  have F447 : Fld Z h428 st_ALLOW_ENV cN_3 "ordinal" "I" (.int (2 : Int32)) := F415.other W428 (Or.inl ne_st_ALLOW_ENV_a365)
  have F448 : Fld Z h428 st_TO cN_3 "ordinal" "I" (.int (1 : Int32)) := F416.other W428 (Or.inl ne_st_TO_a365)
  have F449 : Fld Z h428 st_TO_JSON cN_0 "options" cN_1 (.ref oa_TO_JSON) := F417.other W428 (Or.inl ne_st_TO_JSON_a365)
  have F450 : Arv Z h428 oa_TO_JSON ko_TO_JSON (.object cN_2) (3 : Int32) [(.ref st_FROM), (.ref st_ALLOW_ENV), (.ref st_ALLOW_FILES)] .null := F418.other W428 ne_oa_TO_JSON_a365
  have F451 : Fld Z h428 st_FMT cN_0 "options" cN_1 (.ref oa_FMT) := F419.other W428 (Or.inl ne_st_FMT_a365)
  have F452 : Arv Z h428 oa_FMT ko_FMT (.object cN_2) (4 : Int32) [(.ref st_FROM), (.ref st_TO), (.ref st_ALLOW_ENV), (.ref st_ALLOW_FILES)] .null := F420.other W428 ne_oa_FMT_a365
  have F453 : Fld Z h428 st_FROM_JSON cN_0 "options" cN_1 (.ref oa_FROM_JSON) := F421.other W428 (Or.inl ne_st_FROM_JSON_a365)
  have F454 : Arv Z h428 oa_FROM_JSON ko_FROM_JSON (.object cN_2) (1 : Int32) [(.ref st_TO)] .null := F422.other W428 ne_oa_FROM_JSON_a365
  have F455 : Fld Z h428 st_CHECK cN_0 "options" cN_1 (.ref oa_CHECK) := F423.other W428 (Or.inl ne_st_CHECK_a365)
  have F456 : Arv Z h428 oa_CHECK ko_CHECK (.object cN_2) (3 : Int32) [(.ref st_FROM), (.ref st_ALLOW_ENV), (.ref st_ALLOW_FILES)] .null := F424.other W428 ne_oa_CHECK_a365
  have F457 : Arv Z h428 a54 k54 (.object cN_0) (4 : Int32) [(.ref st_TO_JSON), (.ref st_FROM_JSON), (.ref st_FMT), (.ref st_CHECK)] .null := F425.other W428 ne_a54_a365
  have F458 : Arv Z h428 a207 k207 (.object cN_2) (4 : Int32) [(.ref st_FROM), (.ref st_TO), (.ref st_ALLOW_ENV), (.ref st_ALLOW_FILES)] .null := F426.other W428 ne_a207_a365
  have F459 : Arv Z h428 a365 k365 .int (4 : Int32) [(.int (13 : Int32)), (.int (2 : Int32)), (.int (0 : Int32)), (.int (0 : Int32))] (.int (0 : Int32)) := V428
  have Z428 : n0 ≤ h428.size := by rw [W428.size]; exact Z396
  have K428 : Keep h0 h428 [] := K396.wr W428 (Or.inr s_a365)
  have N428 := Fr.snoc X428 N396 g_a365
  refine w_dup X428 hx (dB at_70) 71 rfl rfl ?_
  refine w_iconst X428 hx (dB at_71) 72 rfl (2 : Int32) (by decide) ?_
  refine w_bipush X428 hx (dB at_72) 74 rfl (15 : Int32) (by decide) ?_
  refine w_iastore X428 hx hZ e428 F459 ⟨by decide, by decide⟩ 2 (by decide) (show 2 < 4 from (by decide)) (dB at_74) 75 rfl (fun T460 h460 X460 e460 W460 V460 => ?_)
  have F461 : Sta Z h460 cN_0 "TO_JSON" cN_4 (.ref st_TO_JSON) := F429.wr W460
  have F462 : Exa Z h460 st_TO_JSON cN_0 := F430.wr W460
  have F463 : Sta Z h460 cN_0 "FROM_JSON" cN_4 (.ref st_FROM_JSON) := F431.wr W460
  have F464 : Exa Z h460 st_FROM_JSON cN_0 := F432.wr W460
  have F465 : Sta Z h460 cN_0 "FMT" cN_4 (.ref st_FMT) := F433.wr W460
  have F466 : Exa Z h460 st_FMT cN_0 := F434.wr W460
  have F467 : Sta Z h460 cN_0 "CHECK" cN_4 (.ref st_CHECK) := F435.wr W460
  have F468 : Exa Z h460 st_CHECK cN_0 := F436.wr W460
  have F469 : Sta Z h460 cN_2 "FROM" cN_5 (.ref st_FROM) := F437.wr W460
  have F470 : Exa Z h460 st_FROM cN_2 := F438.wr W460
  have F471 : Sta Z h460 cN_2 "TO" cN_5 (.ref st_TO) := F439.wr W460
  have F472 : Exa Z h460 st_TO cN_2 := F440.wr W460
  have F473 : Sta Z h460 cN_2 "ALLOW_ENV" cN_5 (.ref st_ALLOW_ENV) := F441.wr W460
  have F474 : Exa Z h460 st_ALLOW_ENV cN_2 := F442.wr W460
  have F475 : Sta Z h460 cN_2 "ALLOW_FILES" cN_5 (.ref st_ALLOW_FILES) := F443.wr W460
  have F476 : Exa Z h460 st_ALLOW_FILES cN_2 := F444.wr W460
  have F477 : Fld Z h460 st_FROM cN_3 "ordinal" "I" (.int (0 : Int32)) := F445.other W460 (Or.inl ne_st_FROM_a365)
  have F478 : Fld Z h460 st_ALLOW_FILES cN_3 "ordinal" "I" (.int (3 : Int32)) := F446.other W460 (Or.inl ne_st_ALLOW_FILES_a365)
  have F479 : Fld Z h460 st_ALLOW_ENV cN_3 "ordinal" "I" (.int (2 : Int32)) := F447.other W460 (Or.inl ne_st_ALLOW_ENV_a365)
  have F480 : Fld Z h460 st_TO cN_3 "ordinal" "I" (.int (1 : Int32)) := F448.other W460 (Or.inl ne_st_TO_a365)
  have F481 : Fld Z h460 st_TO_JSON cN_0 "options" cN_1 (.ref oa_TO_JSON) := F449.other W460 (Or.inl ne_st_TO_JSON_a365)
  have F482 : Arv Z h460 oa_TO_JSON ko_TO_JSON (.object cN_2) (3 : Int32) [(.ref st_FROM), (.ref st_ALLOW_ENV), (.ref st_ALLOW_FILES)] .null := F450.other W460 ne_oa_TO_JSON_a365
  have F483 : Fld Z h460 st_FMT cN_0 "options" cN_1 (.ref oa_FMT) := F451.other W460 (Or.inl ne_st_FMT_a365)
  have F484 : Arv Z h460 oa_FMT ko_FMT (.object cN_2) (4 : Int32) [(.ref st_FROM), (.ref st_TO), (.ref st_ALLOW_ENV), (.ref st_ALLOW_FILES)] .null := F452.other W460 ne_oa_FMT_a365
  have F485 : Fld Z h460 st_FROM_JSON cN_0 "options" cN_1 (.ref oa_FROM_JSON) := F453.other W460 (Or.inl ne_st_FROM_JSON_a365)
  have F486 : Arv Z h460 oa_FROM_JSON ko_FROM_JSON (.object cN_2) (1 : Int32) [(.ref st_TO)] .null := F454.other W460 ne_oa_FROM_JSON_a365
  have F487 : Fld Z h460 st_CHECK cN_0 "options" cN_1 (.ref oa_CHECK) := F455.other W460 (Or.inl ne_st_CHECK_a365)
  have F488 : Arv Z h460 oa_CHECK ko_CHECK (.object cN_2) (3 : Int32) [(.ref st_FROM), (.ref st_ALLOW_ENV), (.ref st_ALLOW_FILES)] .null := F456.other W460 ne_oa_CHECK_a365
  have F489 : Arv Z h460 a54 k54 (.object cN_0) (4 : Int32) [(.ref st_TO_JSON), (.ref st_FROM_JSON), (.ref st_FMT), (.ref st_CHECK)] .null := F457.other W460 ne_a54_a365
  have F490 : Arv Z h460 a207 k207 (.object cN_2) (4 : Int32) [(.ref st_FROM), (.ref st_TO), (.ref st_ALLOW_ENV), (.ref st_ALLOW_FILES)] .null := F458.other W460 ne_a207_a365
  have F491 : Arv Z h460 a365 k365 .int (4 : Int32) [(.int (13 : Int32)), (.int (2 : Int32)), (.int (15 : Int32)), (.int (0 : Int32))] (.int (0 : Int32)) := V460
  have Z460 : n0 ≤ h460.size := by rw [W460.size]; exact Z428
  have K460 : Keep h0 h460 [] := K428.wr W460 (Or.inr s_a365)
  have N460 := Fr.snoc X460 N428 g_a365
  refine w_dup X460 hx (dB at_75) 76 rfl rfl ?_
  refine w_iconst X460 hx (dB at_76) 77 rfl (3 : Int32) (by decide) ?_
  refine w_bipush X460 hx (dB at_77) 79 rfl (13 : Int32) (by decide) ?_
  refine w_iastore X460 hx hZ e460 F491 ⟨by decide, by decide⟩ 3 (by decide) (show 3 < 4 from (by decide)) (dB at_79) 80 rfl (fun T492 h492 X492 e492 W492 V492 => ?_)
  have F493 : Sta Z h492 cN_0 "TO_JSON" cN_4 (.ref st_TO_JSON) := F461.wr W492
  have F494 : Exa Z h492 st_TO_JSON cN_0 := F462.wr W492
  have F495 : Sta Z h492 cN_0 "FROM_JSON" cN_4 (.ref st_FROM_JSON) := F463.wr W492
  have F496 : Exa Z h492 st_FROM_JSON cN_0 := F464.wr W492
  have F497 : Sta Z h492 cN_0 "FMT" cN_4 (.ref st_FMT) := F465.wr W492
  have F498 : Exa Z h492 st_FMT cN_0 := F466.wr W492
  have F499 : Sta Z h492 cN_0 "CHECK" cN_4 (.ref st_CHECK) := F467.wr W492
  have F500 : Exa Z h492 st_CHECK cN_0 := F468.wr W492
  have F501 : Sta Z h492 cN_2 "FROM" cN_5 (.ref st_FROM) := F469.wr W492
  have F502 : Exa Z h492 st_FROM cN_2 := F470.wr W492
  have F503 : Sta Z h492 cN_2 "TO" cN_5 (.ref st_TO) := F471.wr W492
  have F504 : Exa Z h492 st_TO cN_2 := F472.wr W492
  have F505 : Sta Z h492 cN_2 "ALLOW_ENV" cN_5 (.ref st_ALLOW_ENV) := F473.wr W492
  have F506 : Exa Z h492 st_ALLOW_ENV cN_2 := F474.wr W492
  have F507 : Sta Z h492 cN_2 "ALLOW_FILES" cN_5 (.ref st_ALLOW_FILES) := F475.wr W492
  have F508 : Exa Z h492 st_ALLOW_FILES cN_2 := F476.wr W492
  have F509 : Fld Z h492 st_FROM cN_3 "ordinal" "I" (.int (0 : Int32)) := F477.other W492 (Or.inl ne_st_FROM_a365)
  have F510 : Fld Z h492 st_ALLOW_FILES cN_3 "ordinal" "I" (.int (3 : Int32)) := F478.other W492 (Or.inl ne_st_ALLOW_FILES_a365)
  have F511 : Fld Z h492 st_ALLOW_ENV cN_3 "ordinal" "I" (.int (2 : Int32)) := F479.other W492 (Or.inl ne_st_ALLOW_ENV_a365)
  have F512 : Fld Z h492 st_TO cN_3 "ordinal" "I" (.int (1 : Int32)) := F480.other W492 (Or.inl ne_st_TO_a365)
  have F513 : Fld Z h492 st_TO_JSON cN_0 "options" cN_1 (.ref oa_TO_JSON) := F481.other W492 (Or.inl ne_st_TO_JSON_a365)
  have F514 : Arv Z h492 oa_TO_JSON ko_TO_JSON (.object cN_2) (3 : Int32) [(.ref st_FROM), (.ref st_ALLOW_ENV), (.ref st_ALLOW_FILES)] .null := F482.other W492 ne_oa_TO_JSON_a365
  have F515 : Fld Z h492 st_FMT cN_0 "options" cN_1 (.ref oa_FMT) := F483.other W492 (Or.inl ne_st_FMT_a365)
  have F516 : Arv Z h492 oa_FMT ko_FMT (.object cN_2) (4 : Int32) [(.ref st_FROM), (.ref st_TO), (.ref st_ALLOW_ENV), (.ref st_ALLOW_FILES)] .null := F484.other W492 ne_oa_FMT_a365
  have F517 : Fld Z h492 st_FROM_JSON cN_0 "options" cN_1 (.ref oa_FROM_JSON) := F485.other W492 (Or.inl ne_st_FROM_JSON_a365)
  have F518 : Arv Z h492 oa_FROM_JSON ko_FROM_JSON (.object cN_2) (1 : Int32) [(.ref st_TO)] .null := F486.other W492 ne_oa_FROM_JSON_a365
  have F519 : Fld Z h492 st_CHECK cN_0 "options" cN_1 (.ref oa_CHECK) := F487.other W492 (Or.inl ne_st_CHECK_a365)
  have F520 : Arv Z h492 oa_CHECK ko_CHECK (.object cN_2) (3 : Int32) [(.ref st_FROM), (.ref st_ALLOW_ENV), (.ref st_ALLOW_FILES)] .null := F488.other W492 ne_oa_CHECK_a365
  have F521 : Arv Z h492 a54 k54 (.object cN_0) (4 : Int32) [(.ref st_TO_JSON), (.ref st_FROM_JSON), (.ref st_FMT), (.ref st_CHECK)] .null := F489.other W492 ne_a54_a365
  have F522 : Arv Z h492 a207 k207 (.object cN_2) (4 : Int32) [(.ref st_FROM), (.ref st_TO), (.ref st_ALLOW_ENV), (.ref st_ALLOW_FILES)] .null := F490.other W492 ne_a207_a365
  have F523 : Arv Z h492 a365 k365 .int (4 : Int32) [(.int (13 : Int32)), (.int (2 : Int32)), (.int (15 : Int32)), (.int (13 : Int32))] (.int (0 : Int32)) := V492
  have Z492 : n0 ≤ h492.size := by rw [W492.size]; exact Z460
  have K492 : Keep h0 h492 [] := K460.wr W492 (Or.inr s_a365)
  have N492 := Fr.snoc X492 N460 g_a365
  refine w_astore X492 hx (dB at_80) 82 rfl rfl #[.val (.int xc), .val (.int xo), .val (.ref a54), .val (.ref a207), .val (.ref a365), .unset, .unset, .unset, .unset] rfl ?_
  refine w_iloadN X492 hx xc (dB at_82) 83 rfl rfl ?_
  refine w_iconst X492 hx (dB at_83) 84 rfl (3 : Int32) (by decide) ?_
  obtain ⟨v524, e524⟩ : ∃ z : Int32, z = xc &&& (3 : Int32) := ⟨_, rfl⟩
  have n524 : v524.toInt = xc.toInt % 4 := by rw [e524]; exact maskX 2 rfl (by decide) (by decide)
  refine w_iand X492 hx (dB at_84) 85 rfl e524 ?_
  refine w_istore X492 hx (dB at_85) 87 rfl #[.val (.int xc), .val (.int xo), .val (.ref a54), .val (.ref a207), .val (.ref a365), .val (.int v524), .unset, .unset, .unset] rfl ?_
  refine w_iloadN X492 hx xo (dB at_87) 88 rfl rfl ?_
  refine w_bipush X492 hx (dB at_88) 90 rfl (7 : Int32) (by decide) ?_
  obtain ⟨v525, e525⟩ : ∃ z : Int32, z = xo &&& (7 : Int32) := ⟨_, rfl⟩
  have n525 : v525.toInt = xo.toInt % 8 := by rw [e525]; exact maskX 3 rfl (by decide) (by decide)
  refine w_iand X492 hx (dB at_90) 91 rfl e525 ?_
  refine w_istore X492 hx (dB at_91) 93 rfl #[.val (.int xc), .val (.int xo), .val (.ref a54), .val (.ref a207), .val (.ref a365), .val (.int v524), .val (.int v525), .unset, .unset] rfl ?_
  clear F55 F56 F57 F58 F59 F60 F61 F62 F63 F64 F65 F66 F67 F68 F69 F70 F71 F72 F73 F74 F75 F76 F77 F78 F79 F80 F81 F82 F85 F86 F87 F88 F89 F90 F91 F92 F93 F94 F95 F96 F97 F98 F99 F100 F101 F102 F103 F104 F105 F106 F107 F108 F109 F110 F111 F112 F113 F116 F117 F118 F119 F120 F121 F122 F123 F124 F125 F126 F127 F128 F129 F130 F131 F132 F133 F134 F135 F136 F137 F138 F139 F140 F141 F142 F143 F144 F147 F148 F149 F150 F151 F152 F153 F154 F155 F156 F157 F158 F159 F160 F161 F162 F163 F164 F165 F166 F167 F168 F169 F170 F171 F172 F173 F174 F175 F178 F179 F180 F181 F182 F183 F184 F185 F186 F187 F188 F189 F190 F191 F192 F193 F194 F195 F196 F197 F198 F199 F200 F201 F202 F203 F204 F205 F206 F208 F209 F210 F211 F212 F213 F214 F215 F216 F217 F218 F219 F220 F221 F222 F223 F224 F225 F226 F227 F228 F229 F230 F231 F232 F233 F234 F235 F236 F239 F240 F241 F242 F243 F244 F245 F246 F247 F248 F249 F250 F251 F252 F253 F254 F255 F256 F257 F258 F259 F260 F261 F262 F263 F264 F265 F266 F267 F268 F271 F272 F273 F274 F275 F276 F277 F278 F279 F280 F281 F282 F283 F284 F285 F286 F287 F288 F289 F290 F291 F292 F293 F294 F295 F296 F297 F298 F299 F300 F303 F304 F305 F306 F307 F308 F309 F310 F311 F312 F313 F314 F315 F316 F317 F318 F319 F320 F321 F322 F323 F324 F325 F326 F327 F328 F329 F330 F331 F332 F335 F336 F337 F338 F339 F340 F341 F342 F343 F344 F345 F346 F347 F348 F349 F350 F351 F352 F353 F354 F355 F356 F357 F358 F359 F360 F361 F362 F363 F364 F366 F367 F368 F369 F370 F371 F372 F373 F374 F375 F376 F377 F378 F379 F380 F381 F382 F383 F384 F385 F386 F387 F388 F389 F390 F391 F392 F393 F394 F395 F397 F398 F399 F400 F401 F402 F403 F404 F405 F406 F407 F408 F409 F410 F411 F412 F413 F414 F415 F416 F417 F418 F419 F420 F421 F422 F423 F424 F425 F426 F427 F429 F430 F431 F432 F433 F434 F435 F436 F437 F438 F439 F440 F441 F442 F443 F444 F445 F446 F447 F448 F449 F450 F451 F452 F453 F454 F455 F456 F457 F458 F459 F461 F462 F463 F464 F465 F466 F467 F468 F469 F470 F471 F472 F473 F474 F475 F476 F477 F478 F479 F480 F481 F482 F483 F484 F485 F486 F487 F488 F489 F490 F491
  have s526 : v524.toInt = 0 ∨ v524.toInt = 1 ∨ v524.toInt = 2 ∨ v524.toInt = 3 := by omega
  rcases s526 with s526 | s526 | s526 | s526
  ·obtain rfl : v524 = (0 : Int32) := eqI (s526.trans (by decide))
   have z526 : (0 : Int32).toInt = 0 := by decide
   have s527 : v525.toInt = 0 ∨ v525.toInt = 1 ∨ v525.toInt = 2 ∨ v525.toInt = 3 ∨ v525.toInt = 4 ∨ v525.toInt = 5 ∨ v525.toInt = 6 ∨ v525.toInt = 7 := by omega
   rcases s527 with s527 | s527 | s527 | s527 | s527 | s527 | s527 | s527
   ·obtain rfl : v525 = (0 : Int32) := eqI (s527.trans (by decide))
    have z527 : (0 : Int32).toInt = 0 := by decide
    refine w_iload X492 hx (0 : Int32) (dB at_93) 95 rfl rfl ?_
    refine w_iconst X492 hx (dB at_95) 96 rfl (4 : Int32) (by decide) ?_
    refine w_icmp_ge X492 hx 0 4 (by decide) (by decide) (dB at_96) 106 99 (fun c528 => ?_) (fun c528 => ?_)
    ·exfalso; omega
    ·refine w_aloadN X492 hx (.ref a207) (dB at_99) 100 rfl rfl rfl ?_
     refine w_iload X492 hx (0 : Int32) (dB at_100) 102 rfl rfl ?_
     refine w_aaload X492 hx hZ e492 F522 ⟨by decide, by decide⟩ (j := (0 : Int32)) (v := (.ref st_FROM)) rfl (dB at_102) 103 rfl ?_
     refine w_goto X492 hx (dB at_103) 107 ?_
     refine w_astore X492 hx (dB at_107) 109 rfl rfl #[.val (.int xc), .val (.int xo), .val (.ref a54), .val (.ref a207), .val (.ref a365), .val (.int (0 : Int32)), .val (.int (0 : Int32)), .val (.ref st_FROM), .unset] rfl ?_
     refine w_iload X492 hx (0 : Int32) (dB at_109) 111 rfl rfl ?_
     refine w_iconst X492 hx (dB at_111) 112 rfl (4 : Int32) (by decide) ?_
     refine w_icmp_ge X492 hx 0 4 (by decide) (by decide) (dB at_112) 132 115 (fun c529 => ?_) (fun c529 => ?_)
     ·exfalso; omega
     ·refine w_aload X492 hx (.ref a365) (dB at_115) 117 rfl rfl rfl ?_
      refine w_iload X492 hx (0 : Int32) (dB at_117) 119 rfl rfl ?_
      refine w_iaload X492 hx hZ e492 F523 ⟨by decide, by decide⟩ (j := (0 : Int32)) (v := (.int (13 : Int32))) rfl (dB at_119) 120 rfl ?_
      refine w_iload X492 hx (0 : Int32) (dB at_120) 122 rfl rfl ?_
      refine w_ishr X492 hx (dB at_122) 123 rfl (show (13 : Int32) = (13 : Int32) >>> ((0 : Int32) &&& 31) from by decide) ?_
      refine w_iconst X492 hx (dB at_123) 124 rfl (1 : Int32) (by decide) ?_
      refine w_iand X492 hx (dB at_124) 125 rfl (show (1 : Int32) = (13 : Int32) &&& (1 : Int32) from by decide) ?_
      refine w_if_eq X492 hx 1 (by decide) (dB at_125) 132 128 (fun c530 => ?_) (fun c530 => ?_)
      ·exfalso; omega
      ·refine w_iconst X492 hx (dB at_128) 129 rfl (1 : Int32) (by decide) ?_
       refine w_goto X492 hx (dB at_129) 133 ?_
       refine w_istore X492 hx (dB at_133) 135 rfl #[.val (.int xc), .val (.int xo), .val (.ref a54), .val (.ref a207), .val (.ref a365), .val (.int (0 : Int32)), .val (.int (0 : Int32)), .val (.ref st_FROM), .val (.int (1 : Int32))] rfl ?_
       refine w_aloadN X492 hx (.ref a54) (dB at_135) 136 rfl rfl rfl ?_
       refine w_iload X492 hx (0 : Int32) (dB at_136) 138 rfl rfl ?_
       refine w_aaload X492 hx hZ e492 F521 ⟨by decide, by decide⟩ (j := (0 : Int32)) (v := (.ref st_TO_JSON)) rfl (dB at_138) 139 rfl ?_
       refine w_aload X492 hx (.ref st_FROM) (dB at_139) 141 rfl rfl rfl ?_
       refine w_virt X492 hx hZ hown e492 (rm1l3j0 l Z a0 hw [] st_TO_JSON st_FROM oa_TO_JSON ko_TO_JSON st_ALLOW_ENV st_ALLOW_FILES h492 n0 Z492 F513 F514) (tw_25 hw) (tw_26 hw) (notFace_of_selects (args := #[]) (mvT hZ (tw_28 hw))) (tw_28 hw) (tw_27 hw) (tw_3 hw) (tw_29 hw) (by decide) st_TO_JSON F494 (by rw [hml]; rfl) [(.ref st_FROM)] [] (lenOf pd_0 rfl) rfl rfl (by decide) 0 rfl (by decide) (by decide) (by decide) (dB at_141) 144 rfl (fun r531 T531 L531 X531 q531 => ?_)
       obtain ⟨z531, rfl, f531, Nq531, eq531⟩ := q531
       have N531 := Fr.app N492 Nq531
       dsimp only [oD1, oD2, oD3, oD4]
       refine w_iload X531 hx (1 : Int32) (dB at_144) 146 rfl rfl ?_
       refine w_icmp_ne X531 hx z531.toInt 1 rfl (by decide) (dB at_146) 153 149 (fun c532 => ?_) (fun c532 => ?_)
       ·exfalso; omega
       ·refine w_iconst X531 hx (dB at_149) 150 rfl (1 : Int32) (by decide) ?_
        refine w_goto X531 hx (dB at_150) 154 ?_
        refine w_retN X531 hx hlk (t := .boolean) hret (by simp) (dB at_154) (by decide) (by decide) ?_
        rw [eq531]
        exact ⟨rfl, N531⟩
   ·obtain rfl : v525 = (1 : Int32) := eqI (s527.trans (by decide))
    have z527 : (1 : Int32).toInt = 1 := by decide
    refine w_iload X492 hx (1 : Int32) (dB at_93) 95 rfl rfl ?_
    refine w_iconst X492 hx (dB at_95) 96 rfl (4 : Int32) (by decide) ?_
    refine w_icmp_ge X492 hx 1 4 (by decide) (by decide) (dB at_96) 106 99 (fun c533 => ?_) (fun c533 => ?_)
    ·exfalso; omega
    ·refine w_aloadN X492 hx (.ref a207) (dB at_99) 100 rfl rfl rfl ?_
     refine w_iload X492 hx (1 : Int32) (dB at_100) 102 rfl rfl ?_
     refine w_aaload X492 hx hZ e492 F522 ⟨by decide, by decide⟩ (j := (1 : Int32)) (v := (.ref st_TO)) rfl (dB at_102) 103 rfl ?_
     refine w_goto X492 hx (dB at_103) 107 ?_
     refine w_astore X492 hx (dB at_107) 109 rfl rfl #[.val (.int xc), .val (.int xo), .val (.ref a54), .val (.ref a207), .val (.ref a365), .val (.int (0 : Int32)), .val (.int (1 : Int32)), .val (.ref st_TO), .unset] rfl ?_
     refine w_iload X492 hx (1 : Int32) (dB at_109) 111 rfl rfl ?_
     refine w_iconst X492 hx (dB at_111) 112 rfl (4 : Int32) (by decide) ?_
     refine w_icmp_ge X492 hx 1 4 (by decide) (by decide) (dB at_112) 132 115 (fun c534 => ?_) (fun c534 => ?_)
     ·exfalso; omega
     ·refine w_aload X492 hx (.ref a365) (dB at_115) 117 rfl rfl rfl ?_
      refine w_iload X492 hx (0 : Int32) (dB at_117) 119 rfl rfl ?_
      refine w_iaload X492 hx hZ e492 F523 ⟨by decide, by decide⟩ (j := (0 : Int32)) (v := (.int (13 : Int32))) rfl (dB at_119) 120 rfl ?_
      refine w_iload X492 hx (1 : Int32) (dB at_120) 122 rfl rfl ?_
      refine w_ishr X492 hx (dB at_122) 123 rfl (show (6 : Int32) = (13 : Int32) >>> ((1 : Int32) &&& 31) from by decide) ?_
      refine w_iconst X492 hx (dB at_123) 124 rfl (1 : Int32) (by decide) ?_
      refine w_iand X492 hx (dB at_124) 125 rfl (show (0 : Int32) = (6 : Int32) &&& (1 : Int32) from by decide) ?_
      refine w_if_eq X492 hx 0 (by decide) (dB at_125) 132 128 (fun c535 => ?_) (fun c535 => ?_)
      ·refine w_iconst X492 hx (dB at_132) 133 rfl (0 : Int32) (by decide) ?_
       refine w_istore X492 hx (dB at_133) 135 rfl #[.val (.int xc), .val (.int xo), .val (.ref a54), .val (.ref a207), .val (.ref a365), .val (.int (0 : Int32)), .val (.int (1 : Int32)), .val (.ref st_TO), .val (.int (0 : Int32))] rfl ?_
       refine w_aloadN X492 hx (.ref a54) (dB at_135) 136 rfl rfl rfl ?_
       refine w_iload X492 hx (0 : Int32) (dB at_136) 138 rfl rfl ?_
       refine w_aaload X492 hx hZ e492 F521 ⟨by decide, by decide⟩ (j := (0 : Int32)) (v := (.ref st_TO_JSON)) rfl (dB at_138) 139 rfl ?_
       refine w_aload X492 hx (.ref st_TO) (dB at_139) 141 rfl rfl rfl ?_
       refine w_virt X492 hx hZ hown e492 (rm1l3x l Z a0 hw [] st_TO_JSON st_TO oa_TO_JSON ko_TO_JSON st_FROM st_ALLOW_ENV st_ALLOW_FILES h492 n0 Z492 F513 F514 (by exact (Fld.ne F509 F512 (by decide))) (by exact (Fld.ne F511 F512 (by decide))) (by exact (Fld.ne F510 F512 (by decide)))) (tw_25 hw) (tw_26 hw) (notFace_of_selects (args := #[]) (mvT hZ (tw_28 hw))) (tw_28 hw) (tw_27 hw) (tw_3 hw) (tw_29 hw) (by decide) st_TO_JSON F494 (by rw [hml]; rfl) [(.ref st_TO)] [] (lenOf pd_0 rfl) rfl rfl (by decide) 0 rfl (by decide) (by decide) (by decide) (dB at_141) 144 rfl (fun r536 T536 L536 X536 q536 => ?_)
       obtain ⟨z536, rfl, f536, Nq536, eq536⟩ := q536
       have N536 := Fr.app N492 Nq536
       dsimp only [oD1, oD2, oD3, oD4]
       refine w_iload X536 hx (0 : Int32) (dB at_144) 146 rfl rfl ?_
       refine w_icmp_ne X536 hx z536.toInt 0 rfl (by decide) (dB at_146) 153 149 (fun c537 => ?_) (fun c537 => ?_)
       ·exfalso; omega
       ·refine w_iconst X536 hx (dB at_149) 150 rfl (1 : Int32) (by decide) ?_
        refine w_goto X536 hx (dB at_150) 154 ?_
        refine w_retN X536 hx hlk (t := .boolean) hret (by simp) (dB at_154) (by decide) (by decide) ?_
        rw [eq536]
        exact ⟨rfl, N536⟩
      ·exfalso; omega
   ·obtain rfl : v525 = (2 : Int32) := eqI (s527.trans (by decide))
    have z527 : (2 : Int32).toInt = 2 := by decide
    refine w_iload X492 hx (2 : Int32) (dB at_93) 95 rfl rfl ?_
    refine w_iconst X492 hx (dB at_95) 96 rfl (4 : Int32) (by decide) ?_
    refine w_icmp_ge X492 hx 2 4 (by decide) (by decide) (dB at_96) 106 99 (fun c538 => ?_) (fun c538 => ?_)
    ·exfalso; omega
    ·refine w_aloadN X492 hx (.ref a207) (dB at_99) 100 rfl rfl rfl ?_
     refine w_iload X492 hx (2 : Int32) (dB at_100) 102 rfl rfl ?_
     refine w_aaload X492 hx hZ e492 F522 ⟨by decide, by decide⟩ (j := (2 : Int32)) (v := (.ref st_ALLOW_ENV)) rfl (dB at_102) 103 rfl ?_
     refine w_goto X492 hx (dB at_103) 107 ?_
     refine w_astore X492 hx (dB at_107) 109 rfl rfl #[.val (.int xc), .val (.int xo), .val (.ref a54), .val (.ref a207), .val (.ref a365), .val (.int (0 : Int32)), .val (.int (2 : Int32)), .val (.ref st_ALLOW_ENV), .unset] rfl ?_
     refine w_iload X492 hx (2 : Int32) (dB at_109) 111 rfl rfl ?_
     refine w_iconst X492 hx (dB at_111) 112 rfl (4 : Int32) (by decide) ?_
     refine w_icmp_ge X492 hx 2 4 (by decide) (by decide) (dB at_112) 132 115 (fun c539 => ?_) (fun c539 => ?_)
     ·exfalso; omega
     ·refine w_aload X492 hx (.ref a365) (dB at_115) 117 rfl rfl rfl ?_
      refine w_iload X492 hx (0 : Int32) (dB at_117) 119 rfl rfl ?_
      refine w_iaload X492 hx hZ e492 F523 ⟨by decide, by decide⟩ (j := (0 : Int32)) (v := (.int (13 : Int32))) rfl (dB at_119) 120 rfl ?_
      refine w_iload X492 hx (2 : Int32) (dB at_120) 122 rfl rfl ?_
      refine w_ishr X492 hx (dB at_122) 123 rfl (show (3 : Int32) = (13 : Int32) >>> ((2 : Int32) &&& 31) from by decide) ?_
      refine w_iconst X492 hx (dB at_123) 124 rfl (1 : Int32) (by decide) ?_
      refine w_iand X492 hx (dB at_124) 125 rfl (show (1 : Int32) = (3 : Int32) &&& (1 : Int32) from by decide) ?_
      refine w_if_eq X492 hx 1 (by decide) (dB at_125) 132 128 (fun c540 => ?_) (fun c540 => ?_)
      ·exfalso; omega
      ·refine w_iconst X492 hx (dB at_128) 129 rfl (1 : Int32) (by decide) ?_
       refine w_goto X492 hx (dB at_129) 133 ?_
       refine w_istore X492 hx (dB at_133) 135 rfl #[.val (.int xc), .val (.int xo), .val (.ref a54), .val (.ref a207), .val (.ref a365), .val (.int (0 : Int32)), .val (.int (2 : Int32)), .val (.ref st_ALLOW_ENV), .val (.int (1 : Int32))] rfl ?_
       refine w_aloadN X492 hx (.ref a54) (dB at_135) 136 rfl rfl rfl ?_
       refine w_iload X492 hx (0 : Int32) (dB at_136) 138 rfl rfl ?_
       refine w_aaload X492 hx hZ e492 F521 ⟨by decide, by decide⟩ (j := (0 : Int32)) (v := (.ref st_TO_JSON)) rfl (dB at_138) 139 rfl ?_
       refine w_aload X492 hx (.ref st_ALLOW_ENV) (dB at_139) 141 rfl rfl rfl ?_
       refine w_virt X492 hx hZ hown e492 (rm1l3j1 l Z a0 hw [] st_TO_JSON st_ALLOW_ENV oa_TO_JSON ko_TO_JSON st_FROM st_ALLOW_FILES h492 n0 Z492 F513 F514 (by exact (Fld.ne F509 F511 (by decide)))) (tw_25 hw) (tw_26 hw) (notFace_of_selects (args := #[]) (mvT hZ (tw_28 hw))) (tw_28 hw) (tw_27 hw) (tw_3 hw) (tw_29 hw) (by decide) st_TO_JSON F494 (by rw [hml]; rfl) [(.ref st_ALLOW_ENV)] [] (lenOf pd_0 rfl) rfl rfl (by decide) 0 rfl (by decide) (by decide) (by decide) (dB at_141) 144 rfl (fun r541 T541 L541 X541 q541 => ?_)
       obtain ⟨z541, rfl, f541, Nq541, eq541⟩ := q541
       have N541 := Fr.app N492 Nq541
       dsimp only [oD1, oD2, oD3, oD4]
       refine w_iload X541 hx (1 : Int32) (dB at_144) 146 rfl rfl ?_
       refine w_icmp_ne X541 hx z541.toInt 1 rfl (by decide) (dB at_146) 153 149 (fun c542 => ?_) (fun c542 => ?_)
       ·exfalso; omega
       ·refine w_iconst X541 hx (dB at_149) 150 rfl (1 : Int32) (by decide) ?_
        refine w_goto X541 hx (dB at_150) 154 ?_
        refine w_retN X541 hx hlk (t := .boolean) hret (by simp) (dB at_154) (by decide) (by decide) ?_
        rw [eq541]
        exact ⟨rfl, N541⟩
   ·obtain rfl : v525 = (3 : Int32) := eqI (s527.trans (by decide))
    have z527 : (3 : Int32).toInt = 3 := by decide
    refine w_iload X492 hx (3 : Int32) (dB at_93) 95 rfl rfl ?_
    refine w_iconst X492 hx (dB at_95) 96 rfl (4 : Int32) (by decide) ?_
    refine w_icmp_ge X492 hx 3 4 (by decide) (by decide) (dB at_96) 106 99 (fun c543 => ?_) (fun c543 => ?_)
    ·exfalso; omega
    ·refine w_aloadN X492 hx (.ref a207) (dB at_99) 100 rfl rfl rfl ?_
     refine w_iload X492 hx (3 : Int32) (dB at_100) 102 rfl rfl ?_
     refine w_aaload X492 hx hZ e492 F522 ⟨by decide, by decide⟩ (j := (3 : Int32)) (v := (.ref st_ALLOW_FILES)) rfl (dB at_102) 103 rfl ?_
     refine w_goto X492 hx (dB at_103) 107 ?_
     refine w_astore X492 hx (dB at_107) 109 rfl rfl #[.val (.int xc), .val (.int xo), .val (.ref a54), .val (.ref a207), .val (.ref a365), .val (.int (0 : Int32)), .val (.int (3 : Int32)), .val (.ref st_ALLOW_FILES), .unset] rfl ?_
     refine w_iload X492 hx (3 : Int32) (dB at_109) 111 rfl rfl ?_
     refine w_iconst X492 hx (dB at_111) 112 rfl (4 : Int32) (by decide) ?_
     refine w_icmp_ge X492 hx 3 4 (by decide) (by decide) (dB at_112) 132 115 (fun c544 => ?_) (fun c544 => ?_)
     ·exfalso; omega
     ·refine w_aload X492 hx (.ref a365) (dB at_115) 117 rfl rfl rfl ?_
      refine w_iload X492 hx (0 : Int32) (dB at_117) 119 rfl rfl ?_
      refine w_iaload X492 hx hZ e492 F523 ⟨by decide, by decide⟩ (j := (0 : Int32)) (v := (.int (13 : Int32))) rfl (dB at_119) 120 rfl ?_
      refine w_iload X492 hx (3 : Int32) (dB at_120) 122 rfl rfl ?_
      refine w_ishr X492 hx (dB at_122) 123 rfl (show (1 : Int32) = (13 : Int32) >>> ((3 : Int32) &&& 31) from by decide) ?_
      refine w_iconst X492 hx (dB at_123) 124 rfl (1 : Int32) (by decide) ?_
      refine w_iand X492 hx (dB at_124) 125 rfl (show (1 : Int32) = (1 : Int32) &&& (1 : Int32) from by decide) ?_
      refine w_if_eq X492 hx 1 (by decide) (dB at_125) 132 128 (fun c545 => ?_) (fun c545 => ?_)
      ·exfalso; omega
      ·refine w_iconst X492 hx (dB at_128) 129 rfl (1 : Int32) (by decide) ?_
       refine w_goto X492 hx (dB at_129) 133 ?_
       refine w_istore X492 hx (dB at_133) 135 rfl #[.val (.int xc), .val (.int xo), .val (.ref a54), .val (.ref a207), .val (.ref a365), .val (.int (0 : Int32)), .val (.int (3 : Int32)), .val (.ref st_ALLOW_FILES), .val (.int (1 : Int32))] rfl ?_
       refine w_aloadN X492 hx (.ref a54) (dB at_135) 136 rfl rfl rfl ?_
       refine w_iload X492 hx (0 : Int32) (dB at_136) 138 rfl rfl ?_
       refine w_aaload X492 hx hZ e492 F521 ⟨by decide, by decide⟩ (j := (0 : Int32)) (v := (.ref st_TO_JSON)) rfl (dB at_138) 139 rfl ?_
       refine w_aload X492 hx (.ref st_ALLOW_FILES) (dB at_139) 141 rfl rfl rfl ?_
       refine w_virt X492 hx hZ hown e492 (rm1l3j2 l Z a0 hw [] st_TO_JSON st_ALLOW_FILES oa_TO_JSON ko_TO_JSON st_FROM st_ALLOW_ENV h492 n0 Z492 F513 F514 (by exact (Fld.ne F509 F510 (by decide))) (by exact (Fld.ne F511 F510 (by decide)))) (tw_25 hw) (tw_26 hw) (notFace_of_selects (args := #[]) (mvT hZ (tw_28 hw))) (tw_28 hw) (tw_27 hw) (tw_3 hw) (tw_29 hw) (by decide) st_TO_JSON F494 (by rw [hml]; rfl) [(.ref st_ALLOW_FILES)] [] (lenOf pd_0 rfl) rfl rfl (by decide) 0 rfl (by decide) (by decide) (by decide) (dB at_141) 144 rfl (fun r546 T546 L546 X546 q546 => ?_)
       obtain ⟨z546, rfl, f546, Nq546, eq546⟩ := q546
       have N546 := Fr.app N492 Nq546
       dsimp only [oD1, oD2, oD3, oD4]
       refine w_iload X546 hx (1 : Int32) (dB at_144) 146 rfl rfl ?_
       refine w_icmp_ne X546 hx z546.toInt 1 rfl (by decide) (dB at_146) 153 149 (fun c547 => ?_) (fun c547 => ?_)
       ·exfalso; omega
       ·refine w_iconst X546 hx (dB at_149) 150 rfl (1 : Int32) (by decide) ?_
        refine w_goto X546 hx (dB at_150) 154 ?_
        refine w_retN X546 hx hlk (t := .boolean) hret (by simp) (dB at_154) (by decide) (by decide) ?_
        rw [eq546]
        exact ⟨rfl, N546⟩
   ·obtain rfl : v525 = (4 : Int32) := eqI (s527.trans (by decide))
    have z527 : (4 : Int32).toInt = 4 := by decide
    refine w_iload X492 hx (4 : Int32) (dB at_93) 95 rfl rfl ?_
    refine w_iconst X492 hx (dB at_95) 96 rfl (4 : Int32) (by decide) ?_
    refine w_icmp_ge X492 hx 4 4 (by decide) (by decide) (dB at_96) 106 99 (fun c548 => ?_) (fun c548 => ?_)
    ·refine w_null X492 hx (dB at_106) 107 rfl ?_
     refine w_astore X492 hx (dB at_107) 109 rfl rfl #[.val (.int xc), .val (.int xo), .val (.ref a54), .val (.ref a207), .val (.ref a365), .val (.int (0 : Int32)), .val (.int (4 : Int32)), .val .null, .unset] rfl ?_
     refine w_iload X492 hx (4 : Int32) (dB at_109) 111 rfl rfl ?_
     refine w_iconst X492 hx (dB at_111) 112 rfl (4 : Int32) (by decide) ?_
     refine w_icmp_ge X492 hx 4 4 (by decide) (by decide) (dB at_112) 132 115 (fun c549 => ?_) (fun c549 => ?_)
     ·refine w_iconst X492 hx (dB at_132) 133 rfl (0 : Int32) (by decide) ?_
      refine w_istore X492 hx (dB at_133) 135 rfl #[.val (.int xc), .val (.int xo), .val (.ref a54), .val (.ref a207), .val (.ref a365), .val (.int (0 : Int32)), .val (.int (4 : Int32)), .val .null, .val (.int (0 : Int32))] rfl ?_
      refine w_aloadN X492 hx (.ref a54) (dB at_135) 136 rfl rfl rfl ?_
      refine w_iload X492 hx (0 : Int32) (dB at_136) 138 rfl rfl ?_
      refine w_aaload X492 hx hZ e492 F521 ⟨by decide, by decide⟩ (j := (0 : Int32)) (v := (.ref st_TO_JSON)) rfl (dB at_138) 139 rfl ?_
      refine w_aload X492 hx .null (dB at_139) 141 rfl rfl rfl ?_
      refine w_virt X492 hx hZ hown e492 (rm1l3n l Z a0 hw [] st_TO_JSON oa_TO_JSON ko_TO_JSON st_FROM st_ALLOW_ENV st_ALLOW_FILES h492 n0 Z492 F513 F514) (tw_25 hw) (tw_26 hw) (notFace_of_selects (args := #[]) (mvT hZ (tw_28 hw))) (tw_28 hw) (tw_27 hw) (tw_3 hw) (tw_29 hw) (by decide) st_TO_JSON F494 (by rw [hml]; rfl) [.null] [] (lenOf pd_0 rfl) rfl rfl (by decide) 0 rfl (by decide) (by decide) (by decide) (dB at_141) 144 rfl (fun r550 T550 L550 X550 q550 => ?_)
      obtain ⟨z550, rfl, f550, Nq550, eq550⟩ := q550
      have N550 := Fr.app N492 Nq550
      dsimp only [oD1, oD2, oD3, oD4]
      refine w_iload X550 hx (0 : Int32) (dB at_144) 146 rfl rfl ?_
      refine w_icmp_ne X550 hx z550.toInt 0 rfl (by decide) (dB at_146) 153 149 (fun c551 => ?_) (fun c551 => ?_)
      ·exfalso; omega
      ·refine w_iconst X550 hx (dB at_149) 150 rfl (1 : Int32) (by decide) ?_
       refine w_goto X550 hx (dB at_150) 154 ?_
       refine w_retN X550 hx hlk (t := .boolean) hret (by simp) (dB at_154) (by decide) (by decide) ?_
       rw [eq550]
       exact ⟨rfl, N550⟩
     ·exfalso; omega
    ·exfalso; omega
   ·obtain rfl : v525 = (5 : Int32) := eqI (s527.trans (by decide))
    have z527 : (5 : Int32).toInt = 5 := by decide
    refine w_iload X492 hx (5 : Int32) (dB at_93) 95 rfl rfl ?_
    refine w_iconst X492 hx (dB at_95) 96 rfl (4 : Int32) (by decide) ?_
    refine w_icmp_ge X492 hx 5 4 (by decide) (by decide) (dB at_96) 106 99 (fun c552 => ?_) (fun c552 => ?_)
    ·refine w_null X492 hx (dB at_106) 107 rfl ?_
     refine w_astore X492 hx (dB at_107) 109 rfl rfl #[.val (.int xc), .val (.int xo), .val (.ref a54), .val (.ref a207), .val (.ref a365), .val (.int (0 : Int32)), .val (.int (5 : Int32)), .val .null, .unset] rfl ?_
     refine w_iload X492 hx (5 : Int32) (dB at_109) 111 rfl rfl ?_
     refine w_iconst X492 hx (dB at_111) 112 rfl (4 : Int32) (by decide) ?_
     refine w_icmp_ge X492 hx 5 4 (by decide) (by decide) (dB at_112) 132 115 (fun c553 => ?_) (fun c553 => ?_)
     ·refine w_iconst X492 hx (dB at_132) 133 rfl (0 : Int32) (by decide) ?_
      refine w_istore X492 hx (dB at_133) 135 rfl #[.val (.int xc), .val (.int xo), .val (.ref a54), .val (.ref a207), .val (.ref a365), .val (.int (0 : Int32)), .val (.int (5 : Int32)), .val .null, .val (.int (0 : Int32))] rfl ?_
      refine w_aloadN X492 hx (.ref a54) (dB at_135) 136 rfl rfl rfl ?_
      refine w_iload X492 hx (0 : Int32) (dB at_136) 138 rfl rfl ?_
      refine w_aaload X492 hx hZ e492 F521 ⟨by decide, by decide⟩ (j := (0 : Int32)) (v := (.ref st_TO_JSON)) rfl (dB at_138) 139 rfl ?_
      refine w_aload X492 hx .null (dB at_139) 141 rfl rfl rfl ?_
      refine w_virt X492 hx hZ hown e492 (rm1l3n l Z a0 hw [] st_TO_JSON oa_TO_JSON ko_TO_JSON st_FROM st_ALLOW_ENV st_ALLOW_FILES h492 n0 Z492 F513 F514) (tw_25 hw) (tw_26 hw) (notFace_of_selects (args := #[]) (mvT hZ (tw_28 hw))) (tw_28 hw) (tw_27 hw) (tw_3 hw) (tw_29 hw) (by decide) st_TO_JSON F494 (by rw [hml]; rfl) [.null] [] (lenOf pd_0 rfl) rfl rfl (by decide) 0 rfl (by decide) (by decide) (by decide) (dB at_141) 144 rfl (fun r554 T554 L554 X554 q554 => ?_)
      obtain ⟨z554, rfl, f554, Nq554, eq554⟩ := q554
      have N554 := Fr.app N492 Nq554
      dsimp only [oD1, oD2, oD3, oD4]
      refine w_iload X554 hx (0 : Int32) (dB at_144) 146 rfl rfl ?_
      refine w_icmp_ne X554 hx z554.toInt 0 rfl (by decide) (dB at_146) 153 149 (fun c555 => ?_) (fun c555 => ?_)
      ·exfalso; omega
      ·refine w_iconst X554 hx (dB at_149) 150 rfl (1 : Int32) (by decide) ?_
       refine w_goto X554 hx (dB at_150) 154 ?_
       refine w_retN X554 hx hlk (t := .boolean) hret (by simp) (dB at_154) (by decide) (by decide) ?_
       rw [eq554]
       exact ⟨rfl, N554⟩
     ·exfalso; omega
    ·exfalso; omega
   ·obtain rfl : v525 = (6 : Int32) := eqI (s527.trans (by decide))
    have z527 : (6 : Int32).toInt = 6 := by decide
    refine w_iload X492 hx (6 : Int32) (dB at_93) 95 rfl rfl ?_
    refine w_iconst X492 hx (dB at_95) 96 rfl (4 : Int32) (by decide) ?_
    refine w_icmp_ge X492 hx 6 4 (by decide) (by decide) (dB at_96) 106 99 (fun c556 => ?_) (fun c556 => ?_)
    ·refine w_null X492 hx (dB at_106) 107 rfl ?_
     refine w_astore X492 hx (dB at_107) 109 rfl rfl #[.val (.int xc), .val (.int xo), .val (.ref a54), .val (.ref a207), .val (.ref a365), .val (.int (0 : Int32)), .val (.int (6 : Int32)), .val .null, .unset] rfl ?_
     refine w_iload X492 hx (6 : Int32) (dB at_109) 111 rfl rfl ?_
     refine w_iconst X492 hx (dB at_111) 112 rfl (4 : Int32) (by decide) ?_
     refine w_icmp_ge X492 hx 6 4 (by decide) (by decide) (dB at_112) 132 115 (fun c557 => ?_) (fun c557 => ?_)
     ·refine w_iconst X492 hx (dB at_132) 133 rfl (0 : Int32) (by decide) ?_
      refine w_istore X492 hx (dB at_133) 135 rfl #[.val (.int xc), .val (.int xo), .val (.ref a54), .val (.ref a207), .val (.ref a365), .val (.int (0 : Int32)), .val (.int (6 : Int32)), .val .null, .val (.int (0 : Int32))] rfl ?_
      refine w_aloadN X492 hx (.ref a54) (dB at_135) 136 rfl rfl rfl ?_
      refine w_iload X492 hx (0 : Int32) (dB at_136) 138 rfl rfl ?_
      refine w_aaload X492 hx hZ e492 F521 ⟨by decide, by decide⟩ (j := (0 : Int32)) (v := (.ref st_TO_JSON)) rfl (dB at_138) 139 rfl ?_
      refine w_aload X492 hx .null (dB at_139) 141 rfl rfl rfl ?_
      refine w_virt X492 hx hZ hown e492 (rm1l3n l Z a0 hw [] st_TO_JSON oa_TO_JSON ko_TO_JSON st_FROM st_ALLOW_ENV st_ALLOW_FILES h492 n0 Z492 F513 F514) (tw_25 hw) (tw_26 hw) (notFace_of_selects (args := #[]) (mvT hZ (tw_28 hw))) (tw_28 hw) (tw_27 hw) (tw_3 hw) (tw_29 hw) (by decide) st_TO_JSON F494 (by rw [hml]; rfl) [.null] [] (lenOf pd_0 rfl) rfl rfl (by decide) 0 rfl (by decide) (by decide) (by decide) (dB at_141) 144 rfl (fun r558 T558 L558 X558 q558 => ?_)
      obtain ⟨z558, rfl, f558, Nq558, eq558⟩ := q558
      have N558 := Fr.app N492 Nq558
      dsimp only [oD1, oD2, oD3, oD4]
      refine w_iload X558 hx (0 : Int32) (dB at_144) 146 rfl rfl ?_
      refine w_icmp_ne X558 hx z558.toInt 0 rfl (by decide) (dB at_146) 153 149 (fun c559 => ?_) (fun c559 => ?_)
      ·exfalso; omega
      ·refine w_iconst X558 hx (dB at_149) 150 rfl (1 : Int32) (by decide) ?_
       refine w_goto X558 hx (dB at_150) 154 ?_
       refine w_retN X558 hx hlk (t := .boolean) hret (by simp) (dB at_154) (by decide) (by decide) ?_
       rw [eq558]
       exact ⟨rfl, N558⟩
     ·exfalso; omega
    ·exfalso; omega
   ·obtain rfl : v525 = (7 : Int32) := eqI (s527.trans (by decide))
    have z527 : (7 : Int32).toInt = 7 := by decide
    refine w_iload X492 hx (7 : Int32) (dB at_93) 95 rfl rfl ?_
    refine w_iconst X492 hx (dB at_95) 96 rfl (4 : Int32) (by decide) ?_
    refine w_icmp_ge X492 hx 7 4 (by decide) (by decide) (dB at_96) 106 99 (fun c560 => ?_) (fun c560 => ?_)
    ·refine w_null X492 hx (dB at_106) 107 rfl ?_
     refine w_astore X492 hx (dB at_107) 109 rfl rfl #[.val (.int xc), .val (.int xo), .val (.ref a54), .val (.ref a207), .val (.ref a365), .val (.int (0 : Int32)), .val (.int (7 : Int32)), .val .null, .unset] rfl ?_
     refine w_iload X492 hx (7 : Int32) (dB at_109) 111 rfl rfl ?_
     refine w_iconst X492 hx (dB at_111) 112 rfl (4 : Int32) (by decide) ?_
     refine w_icmp_ge X492 hx 7 4 (by decide) (by decide) (dB at_112) 132 115 (fun c561 => ?_) (fun c561 => ?_)
     ·refine w_iconst X492 hx (dB at_132) 133 rfl (0 : Int32) (by decide) ?_
      refine w_istore X492 hx (dB at_133) 135 rfl #[.val (.int xc), .val (.int xo), .val (.ref a54), .val (.ref a207), .val (.ref a365), .val (.int (0 : Int32)), .val (.int (7 : Int32)), .val .null, .val (.int (0 : Int32))] rfl ?_
      refine w_aloadN X492 hx (.ref a54) (dB at_135) 136 rfl rfl rfl ?_
      refine w_iload X492 hx (0 : Int32) (dB at_136) 138 rfl rfl ?_
      refine w_aaload X492 hx hZ e492 F521 ⟨by decide, by decide⟩ (j := (0 : Int32)) (v := (.ref st_TO_JSON)) rfl (dB at_138) 139 rfl ?_
      refine w_aload X492 hx .null (dB at_139) 141 rfl rfl rfl ?_
      refine w_virt X492 hx hZ hown e492 (rm1l3n l Z a0 hw [] st_TO_JSON oa_TO_JSON ko_TO_JSON st_FROM st_ALLOW_ENV st_ALLOW_FILES h492 n0 Z492 F513 F514) (tw_25 hw) (tw_26 hw) (notFace_of_selects (args := #[]) (mvT hZ (tw_28 hw))) (tw_28 hw) (tw_27 hw) (tw_3 hw) (tw_29 hw) (by decide) st_TO_JSON F494 (by rw [hml]; rfl) [.null] [] (lenOf pd_0 rfl) rfl rfl (by decide) 0 rfl (by decide) (by decide) (by decide) (dB at_141) 144 rfl (fun r562 T562 L562 X562 q562 => ?_)
      obtain ⟨z562, rfl, f562, Nq562, eq562⟩ := q562
      have N562 := Fr.app N492 Nq562
      dsimp only [oD1, oD2, oD3, oD4]
      refine w_iload X562 hx (0 : Int32) (dB at_144) 146 rfl rfl ?_
      refine w_icmp_ne X562 hx z562.toInt 0 rfl (by decide) (dB at_146) 153 149 (fun c563 => ?_) (fun c563 => ?_)
      ·exfalso; omega
      ·refine w_iconst X562 hx (dB at_149) 150 rfl (1 : Int32) (by decide) ?_
       refine w_goto X562 hx (dB at_150) 154 ?_
       refine w_retN X562 hx hlk (t := .boolean) hret (by simp) (dB at_154) (by decide) (by decide) ?_
       rw [eq562]
       exact ⟨rfl, N562⟩
     ·exfalso; omega
    ·exfalso; omega
  ·obtain rfl : v524 = (1 : Int32) := eqI (s526.trans (by decide))
   have z526 : (1 : Int32).toInt = 1 := by decide
   have s564 : v525.toInt = 0 ∨ v525.toInt = 1 ∨ v525.toInt = 2 ∨ v525.toInt = 3 ∨ v525.toInt = 4 ∨ v525.toInt = 5 ∨ v525.toInt = 6 ∨ v525.toInt = 7 := by omega
   rcases s564 with s564 | s564 | s564 | s564 | s564 | s564 | s564 | s564
   ·obtain rfl : v525 = (0 : Int32) := eqI (s564.trans (by decide))
    have z564 : (0 : Int32).toInt = 0 := by decide
    refine w_iload X492 hx (0 : Int32) (dB at_93) 95 rfl rfl ?_
    refine w_iconst X492 hx (dB at_95) 96 rfl (4 : Int32) (by decide) ?_
    refine w_icmp_ge X492 hx 0 4 (by decide) (by decide) (dB at_96) 106 99 (fun c565 => ?_) (fun c565 => ?_)
    ·exfalso; omega
    ·refine w_aloadN X492 hx (.ref a207) (dB at_99) 100 rfl rfl rfl ?_
     refine w_iload X492 hx (0 : Int32) (dB at_100) 102 rfl rfl ?_
     refine w_aaload X492 hx hZ e492 F522 ⟨by decide, by decide⟩ (j := (0 : Int32)) (v := (.ref st_FROM)) rfl (dB at_102) 103 rfl ?_
     refine w_goto X492 hx (dB at_103) 107 ?_
     refine w_astore X492 hx (dB at_107) 109 rfl rfl #[.val (.int xc), .val (.int xo), .val (.ref a54), .val (.ref a207), .val (.ref a365), .val (.int (1 : Int32)), .val (.int (0 : Int32)), .val (.ref st_FROM), .unset] rfl ?_
     refine w_iload X492 hx (0 : Int32) (dB at_109) 111 rfl rfl ?_
     refine w_iconst X492 hx (dB at_111) 112 rfl (4 : Int32) (by decide) ?_
     refine w_icmp_ge X492 hx 0 4 (by decide) (by decide) (dB at_112) 132 115 (fun c566 => ?_) (fun c566 => ?_)
     ·exfalso; omega
     ·refine w_aload X492 hx (.ref a365) (dB at_115) 117 rfl rfl rfl ?_
      refine w_iload X492 hx (1 : Int32) (dB at_117) 119 rfl rfl ?_
      refine w_iaload X492 hx hZ e492 F523 ⟨by decide, by decide⟩ (j := (1 : Int32)) (v := (.int (2 : Int32))) rfl (dB at_119) 120 rfl ?_
      refine w_iload X492 hx (0 : Int32) (dB at_120) 122 rfl rfl ?_
      refine w_ishr X492 hx (dB at_122) 123 rfl (show (2 : Int32) = (2 : Int32) >>> ((0 : Int32) &&& 31) from by decide) ?_
      refine w_iconst X492 hx (dB at_123) 124 rfl (1 : Int32) (by decide) ?_
      refine w_iand X492 hx (dB at_124) 125 rfl (show (0 : Int32) = (2 : Int32) &&& (1 : Int32) from by decide) ?_
      refine w_if_eq X492 hx 0 (by decide) (dB at_125) 132 128 (fun c567 => ?_) (fun c567 => ?_)
      ·refine w_iconst X492 hx (dB at_132) 133 rfl (0 : Int32) (by decide) ?_
       refine w_istore X492 hx (dB at_133) 135 rfl #[.val (.int xc), .val (.int xo), .val (.ref a54), .val (.ref a207), .val (.ref a365), .val (.int (1 : Int32)), .val (.int (0 : Int32)), .val (.ref st_FROM), .val (.int (0 : Int32))] rfl ?_
       refine w_aloadN X492 hx (.ref a54) (dB at_135) 136 rfl rfl rfl ?_
       refine w_iload X492 hx (1 : Int32) (dB at_136) 138 rfl rfl ?_
       refine w_aaload X492 hx hZ e492 F521 ⟨by decide, by decide⟩ (j := (1 : Int32)) (v := (.ref st_FROM_JSON)) rfl (dB at_138) 139 rfl ?_
       refine w_aload X492 hx (.ref st_FROM) (dB at_139) 141 rfl rfl rfl ?_
       refine w_virt X492 hx hZ hown e492 (rm1l1x l Z a0 hw [] st_FROM_JSON st_FROM oa_FROM_JSON ko_FROM_JSON st_TO h492 n0 Z492 F517 F518 (by exact (Fld.ne F512 F509 (by decide)))) (tw_25 hw) (tw_26 hw) (notFace_of_selects (args := #[]) (mvT hZ (tw_28 hw))) (tw_28 hw) (tw_27 hw) (tw_3 hw) (tw_29 hw) (by decide) st_FROM_JSON F496 (by rw [hml]; rfl) [(.ref st_FROM)] [] (lenOf pd_0 rfl) rfl rfl (by decide) 0 rfl (by decide) (by decide) (by decide) (dB at_141) 144 rfl (fun r568 T568 L568 X568 q568 => ?_)
       obtain ⟨z568, rfl, f568, Nq568, eq568⟩ := q568
       have N568 := Fr.app N492 Nq568
       dsimp only [oD1, oD2, oD3, oD4]
       refine w_iload X568 hx (0 : Int32) (dB at_144) 146 rfl rfl ?_
       refine w_icmp_ne X568 hx z568.toInt 0 rfl (by decide) (dB at_146) 153 149 (fun c569 => ?_) (fun c569 => ?_)
       ·exfalso; omega
       ·refine w_iconst X568 hx (dB at_149) 150 rfl (1 : Int32) (by decide) ?_
        refine w_goto X568 hx (dB at_150) 154 ?_
        refine w_retN X568 hx hlk (t := .boolean) hret (by simp) (dB at_154) (by decide) (by decide) ?_
        rw [eq568]
        exact ⟨rfl, N568⟩
      ·exfalso; omega
   ·obtain rfl : v525 = (1 : Int32) := eqI (s564.trans (by decide))
    have z564 : (1 : Int32).toInt = 1 := by decide
    refine w_iload X492 hx (1 : Int32) (dB at_93) 95 rfl rfl ?_
    refine w_iconst X492 hx (dB at_95) 96 rfl (4 : Int32) (by decide) ?_
    refine w_icmp_ge X492 hx 1 4 (by decide) (by decide) (dB at_96) 106 99 (fun c570 => ?_) (fun c570 => ?_)
    ·exfalso; omega
    ·refine w_aloadN X492 hx (.ref a207) (dB at_99) 100 rfl rfl rfl ?_
     refine w_iload X492 hx (1 : Int32) (dB at_100) 102 rfl rfl ?_
     refine w_aaload X492 hx hZ e492 F522 ⟨by decide, by decide⟩ (j := (1 : Int32)) (v := (.ref st_TO)) rfl (dB at_102) 103 rfl ?_
     refine w_goto X492 hx (dB at_103) 107 ?_
     refine w_astore X492 hx (dB at_107) 109 rfl rfl #[.val (.int xc), .val (.int xo), .val (.ref a54), .val (.ref a207), .val (.ref a365), .val (.int (1 : Int32)), .val (.int (1 : Int32)), .val (.ref st_TO), .unset] rfl ?_
     refine w_iload X492 hx (1 : Int32) (dB at_109) 111 rfl rfl ?_
     refine w_iconst X492 hx (dB at_111) 112 rfl (4 : Int32) (by decide) ?_
     refine w_icmp_ge X492 hx 1 4 (by decide) (by decide) (dB at_112) 132 115 (fun c571 => ?_) (fun c571 => ?_)
     ·exfalso; omega
     ·refine w_aload X492 hx (.ref a365) (dB at_115) 117 rfl rfl rfl ?_
      refine w_iload X492 hx (1 : Int32) (dB at_117) 119 rfl rfl ?_
      refine w_iaload X492 hx hZ e492 F523 ⟨by decide, by decide⟩ (j := (1 : Int32)) (v := (.int (2 : Int32))) rfl (dB at_119) 120 rfl ?_
      refine w_iload X492 hx (1 : Int32) (dB at_120) 122 rfl rfl ?_
      refine w_ishr X492 hx (dB at_122) 123 rfl (show (1 : Int32) = (2 : Int32) >>> ((1 : Int32) &&& 31) from by decide) ?_
      refine w_iconst X492 hx (dB at_123) 124 rfl (1 : Int32) (by decide) ?_
      refine w_iand X492 hx (dB at_124) 125 rfl (show (1 : Int32) = (1 : Int32) &&& (1 : Int32) from by decide) ?_
      refine w_if_eq X492 hx 1 (by decide) (dB at_125) 132 128 (fun c572 => ?_) (fun c572 => ?_)
      ·exfalso; omega
      ·refine w_iconst X492 hx (dB at_128) 129 rfl (1 : Int32) (by decide) ?_
       refine w_goto X492 hx (dB at_129) 133 ?_
       refine w_istore X492 hx (dB at_133) 135 rfl #[.val (.int xc), .val (.int xo), .val (.ref a54), .val (.ref a207), .val (.ref a365), .val (.int (1 : Int32)), .val (.int (1 : Int32)), .val (.ref st_TO), .val (.int (1 : Int32))] rfl ?_
       refine w_aloadN X492 hx (.ref a54) (dB at_135) 136 rfl rfl rfl ?_
       refine w_iload X492 hx (1 : Int32) (dB at_136) 138 rfl rfl ?_
       refine w_aaload X492 hx hZ e492 F521 ⟨by decide, by decide⟩ (j := (1 : Int32)) (v := (.ref st_FROM_JSON)) rfl (dB at_138) 139 rfl ?_
       refine w_aload X492 hx (.ref st_TO) (dB at_139) 141 rfl rfl rfl ?_
       refine w_virt X492 hx hZ hown e492 (rm1l1j0 l Z a0 hw [] st_FROM_JSON st_TO oa_FROM_JSON ko_FROM_JSON h492 n0 Z492 F517 F518) (tw_25 hw) (tw_26 hw) (notFace_of_selects (args := #[]) (mvT hZ (tw_28 hw))) (tw_28 hw) (tw_27 hw) (tw_3 hw) (tw_29 hw) (by decide) st_FROM_JSON F496 (by rw [hml]; rfl) [(.ref st_TO)] [] (lenOf pd_0 rfl) rfl rfl (by decide) 0 rfl (by decide) (by decide) (by decide) (dB at_141) 144 rfl (fun r573 T573 L573 X573 q573 => ?_)
       obtain ⟨z573, rfl, f573, Nq573, eq573⟩ := q573
       have N573 := Fr.app N492 Nq573
       dsimp only [oD1, oD2, oD3, oD4]
       refine w_iload X573 hx (1 : Int32) (dB at_144) 146 rfl rfl ?_
       refine w_icmp_ne X573 hx z573.toInt 1 rfl (by decide) (dB at_146) 153 149 (fun c574 => ?_) (fun c574 => ?_)
       ·exfalso; omega
       ·refine w_iconst X573 hx (dB at_149) 150 rfl (1 : Int32) (by decide) ?_
        refine w_goto X573 hx (dB at_150) 154 ?_
        refine w_retN X573 hx hlk (t := .boolean) hret (by simp) (dB at_154) (by decide) (by decide) ?_
        rw [eq573]
        exact ⟨rfl, N573⟩
   ·obtain rfl : v525 = (2 : Int32) := eqI (s564.trans (by decide))
    have z564 : (2 : Int32).toInt = 2 := by decide
    refine w_iload X492 hx (2 : Int32) (dB at_93) 95 rfl rfl ?_
    refine w_iconst X492 hx (dB at_95) 96 rfl (4 : Int32) (by decide) ?_
    refine w_icmp_ge X492 hx 2 4 (by decide) (by decide) (dB at_96) 106 99 (fun c575 => ?_) (fun c575 => ?_)
    ·exfalso; omega
    ·refine w_aloadN X492 hx (.ref a207) (dB at_99) 100 rfl rfl rfl ?_
     refine w_iload X492 hx (2 : Int32) (dB at_100) 102 rfl rfl ?_
     refine w_aaload X492 hx hZ e492 F522 ⟨by decide, by decide⟩ (j := (2 : Int32)) (v := (.ref st_ALLOW_ENV)) rfl (dB at_102) 103 rfl ?_
     refine w_goto X492 hx (dB at_103) 107 ?_
     refine w_astore X492 hx (dB at_107) 109 rfl rfl #[.val (.int xc), .val (.int xo), .val (.ref a54), .val (.ref a207), .val (.ref a365), .val (.int (1 : Int32)), .val (.int (2 : Int32)), .val (.ref st_ALLOW_ENV), .unset] rfl ?_
     refine w_iload X492 hx (2 : Int32) (dB at_109) 111 rfl rfl ?_
     refine w_iconst X492 hx (dB at_111) 112 rfl (4 : Int32) (by decide) ?_
     refine w_icmp_ge X492 hx 2 4 (by decide) (by decide) (dB at_112) 132 115 (fun c576 => ?_) (fun c576 => ?_)
     ·exfalso; omega
     ·refine w_aload X492 hx (.ref a365) (dB at_115) 117 rfl rfl rfl ?_
      refine w_iload X492 hx (1 : Int32) (dB at_117) 119 rfl rfl ?_
      refine w_iaload X492 hx hZ e492 F523 ⟨by decide, by decide⟩ (j := (1 : Int32)) (v := (.int (2 : Int32))) rfl (dB at_119) 120 rfl ?_
      refine w_iload X492 hx (2 : Int32) (dB at_120) 122 rfl rfl ?_
      refine w_ishr X492 hx (dB at_122) 123 rfl (show (0 : Int32) = (2 : Int32) >>> ((2 : Int32) &&& 31) from by decide) ?_
      refine w_iconst X492 hx (dB at_123) 124 rfl (1 : Int32) (by decide) ?_
      refine w_iand X492 hx (dB at_124) 125 rfl (show (0 : Int32) = (0 : Int32) &&& (1 : Int32) from by decide) ?_
      refine w_if_eq X492 hx 0 (by decide) (dB at_125) 132 128 (fun c577 => ?_) (fun c577 => ?_)
      ·refine w_iconst X492 hx (dB at_132) 133 rfl (0 : Int32) (by decide) ?_
       refine w_istore X492 hx (dB at_133) 135 rfl #[.val (.int xc), .val (.int xo), .val (.ref a54), .val (.ref a207), .val (.ref a365), .val (.int (1 : Int32)), .val (.int (2 : Int32)), .val (.ref st_ALLOW_ENV), .val (.int (0 : Int32))] rfl ?_
       refine w_aloadN X492 hx (.ref a54) (dB at_135) 136 rfl rfl rfl ?_
       refine w_iload X492 hx (1 : Int32) (dB at_136) 138 rfl rfl ?_
       refine w_aaload X492 hx hZ e492 F521 ⟨by decide, by decide⟩ (j := (1 : Int32)) (v := (.ref st_FROM_JSON)) rfl (dB at_138) 139 rfl ?_
       refine w_aload X492 hx (.ref st_ALLOW_ENV) (dB at_139) 141 rfl rfl rfl ?_
       refine w_virt X492 hx hZ hown e492 (rm1l1x l Z a0 hw [] st_FROM_JSON st_ALLOW_ENV oa_FROM_JSON ko_FROM_JSON st_TO h492 n0 Z492 F517 F518 (by exact (Fld.ne F512 F511 (by decide)))) (tw_25 hw) (tw_26 hw) (notFace_of_selects (args := #[]) (mvT hZ (tw_28 hw))) (tw_28 hw) (tw_27 hw) (tw_3 hw) (tw_29 hw) (by decide) st_FROM_JSON F496 (by rw [hml]; rfl) [(.ref st_ALLOW_ENV)] [] (lenOf pd_0 rfl) rfl rfl (by decide) 0 rfl (by decide) (by decide) (by decide) (dB at_141) 144 rfl (fun r578 T578 L578 X578 q578 => ?_)
       obtain ⟨z578, rfl, f578, Nq578, eq578⟩ := q578
       have N578 := Fr.app N492 Nq578
       dsimp only [oD1, oD2, oD3, oD4]
       refine w_iload X578 hx (0 : Int32) (dB at_144) 146 rfl rfl ?_
       refine w_icmp_ne X578 hx z578.toInt 0 rfl (by decide) (dB at_146) 153 149 (fun c579 => ?_) (fun c579 => ?_)
       ·exfalso; omega
       ·refine w_iconst X578 hx (dB at_149) 150 rfl (1 : Int32) (by decide) ?_
        refine w_goto X578 hx (dB at_150) 154 ?_
        refine w_retN X578 hx hlk (t := .boolean) hret (by simp) (dB at_154) (by decide) (by decide) ?_
        rw [eq578]
        exact ⟨rfl, N578⟩
      ·exfalso; omega
   ·obtain rfl : v525 = (3 : Int32) := eqI (s564.trans (by decide))
    have z564 : (3 : Int32).toInt = 3 := by decide
    refine w_iload X492 hx (3 : Int32) (dB at_93) 95 rfl rfl ?_
    refine w_iconst X492 hx (dB at_95) 96 rfl (4 : Int32) (by decide) ?_
    refine w_icmp_ge X492 hx 3 4 (by decide) (by decide) (dB at_96) 106 99 (fun c580 => ?_) (fun c580 => ?_)
    ·exfalso; omega
    ·refine w_aloadN X492 hx (.ref a207) (dB at_99) 100 rfl rfl rfl ?_
     refine w_iload X492 hx (3 : Int32) (dB at_100) 102 rfl rfl ?_
     refine w_aaload X492 hx hZ e492 F522 ⟨by decide, by decide⟩ (j := (3 : Int32)) (v := (.ref st_ALLOW_FILES)) rfl (dB at_102) 103 rfl ?_
     refine w_goto X492 hx (dB at_103) 107 ?_
     refine w_astore X492 hx (dB at_107) 109 rfl rfl #[.val (.int xc), .val (.int xo), .val (.ref a54), .val (.ref a207), .val (.ref a365), .val (.int (1 : Int32)), .val (.int (3 : Int32)), .val (.ref st_ALLOW_FILES), .unset] rfl ?_
     refine w_iload X492 hx (3 : Int32) (dB at_109) 111 rfl rfl ?_
     refine w_iconst X492 hx (dB at_111) 112 rfl (4 : Int32) (by decide) ?_
     refine w_icmp_ge X492 hx 3 4 (by decide) (by decide) (dB at_112) 132 115 (fun c581 => ?_) (fun c581 => ?_)
     ·exfalso; omega
     ·refine w_aload X492 hx (.ref a365) (dB at_115) 117 rfl rfl rfl ?_
      refine w_iload X492 hx (1 : Int32) (dB at_117) 119 rfl rfl ?_
      refine w_iaload X492 hx hZ e492 F523 ⟨by decide, by decide⟩ (j := (1 : Int32)) (v := (.int (2 : Int32))) rfl (dB at_119) 120 rfl ?_
      refine w_iload X492 hx (3 : Int32) (dB at_120) 122 rfl rfl ?_
      refine w_ishr X492 hx (dB at_122) 123 rfl (show (0 : Int32) = (2 : Int32) >>> ((3 : Int32) &&& 31) from by decide) ?_
      refine w_iconst X492 hx (dB at_123) 124 rfl (1 : Int32) (by decide) ?_
      refine w_iand X492 hx (dB at_124) 125 rfl (show (0 : Int32) = (0 : Int32) &&& (1 : Int32) from by decide) ?_
      refine w_if_eq X492 hx 0 (by decide) (dB at_125) 132 128 (fun c582 => ?_) (fun c582 => ?_)
      ·refine w_iconst X492 hx (dB at_132) 133 rfl (0 : Int32) (by decide) ?_
       refine w_istore X492 hx (dB at_133) 135 rfl #[.val (.int xc), .val (.int xo), .val (.ref a54), .val (.ref a207), .val (.ref a365), .val (.int (1 : Int32)), .val (.int (3 : Int32)), .val (.ref st_ALLOW_FILES), .val (.int (0 : Int32))] rfl ?_
       refine w_aloadN X492 hx (.ref a54) (dB at_135) 136 rfl rfl rfl ?_
       refine w_iload X492 hx (1 : Int32) (dB at_136) 138 rfl rfl ?_
       refine w_aaload X492 hx hZ e492 F521 ⟨by decide, by decide⟩ (j := (1 : Int32)) (v := (.ref st_FROM_JSON)) rfl (dB at_138) 139 rfl ?_
       refine w_aload X492 hx (.ref st_ALLOW_FILES) (dB at_139) 141 rfl rfl rfl ?_
       refine w_virt X492 hx hZ hown e492 (rm1l1x l Z a0 hw [] st_FROM_JSON st_ALLOW_FILES oa_FROM_JSON ko_FROM_JSON st_TO h492 n0 Z492 F517 F518 (by exact (Fld.ne F512 F510 (by decide)))) (tw_25 hw) (tw_26 hw) (notFace_of_selects (args := #[]) (mvT hZ (tw_28 hw))) (tw_28 hw) (tw_27 hw) (tw_3 hw) (tw_29 hw) (by decide) st_FROM_JSON F496 (by rw [hml]; rfl) [(.ref st_ALLOW_FILES)] [] (lenOf pd_0 rfl) rfl rfl (by decide) 0 rfl (by decide) (by decide) (by decide) (dB at_141) 144 rfl (fun r583 T583 L583 X583 q583 => ?_)
       obtain ⟨z583, rfl, f583, Nq583, eq583⟩ := q583
       have N583 := Fr.app N492 Nq583
       dsimp only [oD1, oD2, oD3, oD4]
       refine w_iload X583 hx (0 : Int32) (dB at_144) 146 rfl rfl ?_
       refine w_icmp_ne X583 hx z583.toInt 0 rfl (by decide) (dB at_146) 153 149 (fun c584 => ?_) (fun c584 => ?_)
       ·exfalso; omega
       ·refine w_iconst X583 hx (dB at_149) 150 rfl (1 : Int32) (by decide) ?_
        refine w_goto X583 hx (dB at_150) 154 ?_
        refine w_retN X583 hx hlk (t := .boolean) hret (by simp) (dB at_154) (by decide) (by decide) ?_
        rw [eq583]
        exact ⟨rfl, N583⟩
      ·exfalso; omega
   ·obtain rfl : v525 = (4 : Int32) := eqI (s564.trans (by decide))
    have z564 : (4 : Int32).toInt = 4 := by decide
    refine w_iload X492 hx (4 : Int32) (dB at_93) 95 rfl rfl ?_
    refine w_iconst X492 hx (dB at_95) 96 rfl (4 : Int32) (by decide) ?_
    refine w_icmp_ge X492 hx 4 4 (by decide) (by decide) (dB at_96) 106 99 (fun c585 => ?_) (fun c585 => ?_)
    ·refine w_null X492 hx (dB at_106) 107 rfl ?_
     refine w_astore X492 hx (dB at_107) 109 rfl rfl #[.val (.int xc), .val (.int xo), .val (.ref a54), .val (.ref a207), .val (.ref a365), .val (.int (1 : Int32)), .val (.int (4 : Int32)), .val .null, .unset] rfl ?_
     refine w_iload X492 hx (4 : Int32) (dB at_109) 111 rfl rfl ?_
     refine w_iconst X492 hx (dB at_111) 112 rfl (4 : Int32) (by decide) ?_
     refine w_icmp_ge X492 hx 4 4 (by decide) (by decide) (dB at_112) 132 115 (fun c586 => ?_) (fun c586 => ?_)
     ·refine w_iconst X492 hx (dB at_132) 133 rfl (0 : Int32) (by decide) ?_
      refine w_istore X492 hx (dB at_133) 135 rfl #[.val (.int xc), .val (.int xo), .val (.ref a54), .val (.ref a207), .val (.ref a365), .val (.int (1 : Int32)), .val (.int (4 : Int32)), .val .null, .val (.int (0 : Int32))] rfl ?_
      refine w_aloadN X492 hx (.ref a54) (dB at_135) 136 rfl rfl rfl ?_
      refine w_iload X492 hx (1 : Int32) (dB at_136) 138 rfl rfl ?_
      refine w_aaload X492 hx hZ e492 F521 ⟨by decide, by decide⟩ (j := (1 : Int32)) (v := (.ref st_FROM_JSON)) rfl (dB at_138) 139 rfl ?_
      refine w_aload X492 hx .null (dB at_139) 141 rfl rfl rfl ?_
      refine w_virt X492 hx hZ hown e492 (rm1l1n l Z a0 hw [] st_FROM_JSON oa_FROM_JSON ko_FROM_JSON st_TO h492 n0 Z492 F517 F518) (tw_25 hw) (tw_26 hw) (notFace_of_selects (args := #[]) (mvT hZ (tw_28 hw))) (tw_28 hw) (tw_27 hw) (tw_3 hw) (tw_29 hw) (by decide) st_FROM_JSON F496 (by rw [hml]; rfl) [.null] [] (lenOf pd_0 rfl) rfl rfl (by decide) 0 rfl (by decide) (by decide) (by decide) (dB at_141) 144 rfl (fun r587 T587 L587 X587 q587 => ?_)
      obtain ⟨z587, rfl, f587, Nq587, eq587⟩ := q587
      have N587 := Fr.app N492 Nq587
      dsimp only [oD1, oD2, oD3, oD4]
      refine w_iload X587 hx (0 : Int32) (dB at_144) 146 rfl rfl ?_
      refine w_icmp_ne X587 hx z587.toInt 0 rfl (by decide) (dB at_146) 153 149 (fun c588 => ?_) (fun c588 => ?_)
      ·exfalso; omega
      ·refine w_iconst X587 hx (dB at_149) 150 rfl (1 : Int32) (by decide) ?_
       refine w_goto X587 hx (dB at_150) 154 ?_
       refine w_retN X587 hx hlk (t := .boolean) hret (by simp) (dB at_154) (by decide) (by decide) ?_
       rw [eq587]
       exact ⟨rfl, N587⟩
     ·exfalso; omega
    ·exfalso; omega
   ·obtain rfl : v525 = (5 : Int32) := eqI (s564.trans (by decide))
    have z564 : (5 : Int32).toInt = 5 := by decide
    refine w_iload X492 hx (5 : Int32) (dB at_93) 95 rfl rfl ?_
    refine w_iconst X492 hx (dB at_95) 96 rfl (4 : Int32) (by decide) ?_
    refine w_icmp_ge X492 hx 5 4 (by decide) (by decide) (dB at_96) 106 99 (fun c589 => ?_) (fun c589 => ?_)
    ·refine w_null X492 hx (dB at_106) 107 rfl ?_
     refine w_astore X492 hx (dB at_107) 109 rfl rfl #[.val (.int xc), .val (.int xo), .val (.ref a54), .val (.ref a207), .val (.ref a365), .val (.int (1 : Int32)), .val (.int (5 : Int32)), .val .null, .unset] rfl ?_
     refine w_iload X492 hx (5 : Int32) (dB at_109) 111 rfl rfl ?_
     refine w_iconst X492 hx (dB at_111) 112 rfl (4 : Int32) (by decide) ?_
     refine w_icmp_ge X492 hx 5 4 (by decide) (by decide) (dB at_112) 132 115 (fun c590 => ?_) (fun c590 => ?_)
     ·refine w_iconst X492 hx (dB at_132) 133 rfl (0 : Int32) (by decide) ?_
      refine w_istore X492 hx (dB at_133) 135 rfl #[.val (.int xc), .val (.int xo), .val (.ref a54), .val (.ref a207), .val (.ref a365), .val (.int (1 : Int32)), .val (.int (5 : Int32)), .val .null, .val (.int (0 : Int32))] rfl ?_
      refine w_aloadN X492 hx (.ref a54) (dB at_135) 136 rfl rfl rfl ?_
      refine w_iload X492 hx (1 : Int32) (dB at_136) 138 rfl rfl ?_
      refine w_aaload X492 hx hZ e492 F521 ⟨by decide, by decide⟩ (j := (1 : Int32)) (v := (.ref st_FROM_JSON)) rfl (dB at_138) 139 rfl ?_
      refine w_aload X492 hx .null (dB at_139) 141 rfl rfl rfl ?_
      refine w_virt X492 hx hZ hown e492 (rm1l1n l Z a0 hw [] st_FROM_JSON oa_FROM_JSON ko_FROM_JSON st_TO h492 n0 Z492 F517 F518) (tw_25 hw) (tw_26 hw) (notFace_of_selects (args := #[]) (mvT hZ (tw_28 hw))) (tw_28 hw) (tw_27 hw) (tw_3 hw) (tw_29 hw) (by decide) st_FROM_JSON F496 (by rw [hml]; rfl) [.null] [] (lenOf pd_0 rfl) rfl rfl (by decide) 0 rfl (by decide) (by decide) (by decide) (dB at_141) 144 rfl (fun r591 T591 L591 X591 q591 => ?_)
      obtain ⟨z591, rfl, f591, Nq591, eq591⟩ := q591
      have N591 := Fr.app N492 Nq591
      dsimp only [oD1, oD2, oD3, oD4]
      refine w_iload X591 hx (0 : Int32) (dB at_144) 146 rfl rfl ?_
      refine w_icmp_ne X591 hx z591.toInt 0 rfl (by decide) (dB at_146) 153 149 (fun c592 => ?_) (fun c592 => ?_)
      ·exfalso; omega
      ·refine w_iconst X591 hx (dB at_149) 150 rfl (1 : Int32) (by decide) ?_
       refine w_goto X591 hx (dB at_150) 154 ?_
       refine w_retN X591 hx hlk (t := .boolean) hret (by simp) (dB at_154) (by decide) (by decide) ?_
       rw [eq591]
       exact ⟨rfl, N591⟩
     ·exfalso; omega
    ·exfalso; omega
   ·obtain rfl : v525 = (6 : Int32) := eqI (s564.trans (by decide))
    have z564 : (6 : Int32).toInt = 6 := by decide
    refine w_iload X492 hx (6 : Int32) (dB at_93) 95 rfl rfl ?_
    refine w_iconst X492 hx (dB at_95) 96 rfl (4 : Int32) (by decide) ?_
    refine w_icmp_ge X492 hx 6 4 (by decide) (by decide) (dB at_96) 106 99 (fun c593 => ?_) (fun c593 => ?_)
    ·refine w_null X492 hx (dB at_106) 107 rfl ?_
     refine w_astore X492 hx (dB at_107) 109 rfl rfl #[.val (.int xc), .val (.int xo), .val (.ref a54), .val (.ref a207), .val (.ref a365), .val (.int (1 : Int32)), .val (.int (6 : Int32)), .val .null, .unset] rfl ?_
     refine w_iload X492 hx (6 : Int32) (dB at_109) 111 rfl rfl ?_
     refine w_iconst X492 hx (dB at_111) 112 rfl (4 : Int32) (by decide) ?_
     refine w_icmp_ge X492 hx 6 4 (by decide) (by decide) (dB at_112) 132 115 (fun c594 => ?_) (fun c594 => ?_)
     ·refine w_iconst X492 hx (dB at_132) 133 rfl (0 : Int32) (by decide) ?_
      refine w_istore X492 hx (dB at_133) 135 rfl #[.val (.int xc), .val (.int xo), .val (.ref a54), .val (.ref a207), .val (.ref a365), .val (.int (1 : Int32)), .val (.int (6 : Int32)), .val .null, .val (.int (0 : Int32))] rfl ?_
      refine w_aloadN X492 hx (.ref a54) (dB at_135) 136 rfl rfl rfl ?_
      refine w_iload X492 hx (1 : Int32) (dB at_136) 138 rfl rfl ?_
      refine w_aaload X492 hx hZ e492 F521 ⟨by decide, by decide⟩ (j := (1 : Int32)) (v := (.ref st_FROM_JSON)) rfl (dB at_138) 139 rfl ?_
      refine w_aload X492 hx .null (dB at_139) 141 rfl rfl rfl ?_
      refine w_virt X492 hx hZ hown e492 (rm1l1n l Z a0 hw [] st_FROM_JSON oa_FROM_JSON ko_FROM_JSON st_TO h492 n0 Z492 F517 F518) (tw_25 hw) (tw_26 hw) (notFace_of_selects (args := #[]) (mvT hZ (tw_28 hw))) (tw_28 hw) (tw_27 hw) (tw_3 hw) (tw_29 hw) (by decide) st_FROM_JSON F496 (by rw [hml]; rfl) [.null] [] (lenOf pd_0 rfl) rfl rfl (by decide) 0 rfl (by decide) (by decide) (by decide) (dB at_141) 144 rfl (fun r595 T595 L595 X595 q595 => ?_)
      obtain ⟨z595, rfl, f595, Nq595, eq595⟩ := q595
      have N595 := Fr.app N492 Nq595
      dsimp only [oD1, oD2, oD3, oD4]
      refine w_iload X595 hx (0 : Int32) (dB at_144) 146 rfl rfl ?_
      refine w_icmp_ne X595 hx z595.toInt 0 rfl (by decide) (dB at_146) 153 149 (fun c596 => ?_) (fun c596 => ?_)
      ·exfalso; omega
      ·refine w_iconst X595 hx (dB at_149) 150 rfl (1 : Int32) (by decide) ?_
       refine w_goto X595 hx (dB at_150) 154 ?_
       refine w_retN X595 hx hlk (t := .boolean) hret (by simp) (dB at_154) (by decide) (by decide) ?_
       rw [eq595]
       exact ⟨rfl, N595⟩
     ·exfalso; omega
    ·exfalso; omega
   ·obtain rfl : v525 = (7 : Int32) := eqI (s564.trans (by decide))
    have z564 : (7 : Int32).toInt = 7 := by decide
    refine w_iload X492 hx (7 : Int32) (dB at_93) 95 rfl rfl ?_
    refine w_iconst X492 hx (dB at_95) 96 rfl (4 : Int32) (by decide) ?_
    refine w_icmp_ge X492 hx 7 4 (by decide) (by decide) (dB at_96) 106 99 (fun c597 => ?_) (fun c597 => ?_)
    ·refine w_null X492 hx (dB at_106) 107 rfl ?_
     refine w_astore X492 hx (dB at_107) 109 rfl rfl #[.val (.int xc), .val (.int xo), .val (.ref a54), .val (.ref a207), .val (.ref a365), .val (.int (1 : Int32)), .val (.int (7 : Int32)), .val .null, .unset] rfl ?_
     refine w_iload X492 hx (7 : Int32) (dB at_109) 111 rfl rfl ?_
     refine w_iconst X492 hx (dB at_111) 112 rfl (4 : Int32) (by decide) ?_
     refine w_icmp_ge X492 hx 7 4 (by decide) (by decide) (dB at_112) 132 115 (fun c598 => ?_) (fun c598 => ?_)
     ·refine w_iconst X492 hx (dB at_132) 133 rfl (0 : Int32) (by decide) ?_
      refine w_istore X492 hx (dB at_133) 135 rfl #[.val (.int xc), .val (.int xo), .val (.ref a54), .val (.ref a207), .val (.ref a365), .val (.int (1 : Int32)), .val (.int (7 : Int32)), .val .null, .val (.int (0 : Int32))] rfl ?_
      refine w_aloadN X492 hx (.ref a54) (dB at_135) 136 rfl rfl rfl ?_
      refine w_iload X492 hx (1 : Int32) (dB at_136) 138 rfl rfl ?_
      refine w_aaload X492 hx hZ e492 F521 ⟨by decide, by decide⟩ (j := (1 : Int32)) (v := (.ref st_FROM_JSON)) rfl (dB at_138) 139 rfl ?_
      refine w_aload X492 hx .null (dB at_139) 141 rfl rfl rfl ?_
      refine w_virt X492 hx hZ hown e492 (rm1l1n l Z a0 hw [] st_FROM_JSON oa_FROM_JSON ko_FROM_JSON st_TO h492 n0 Z492 F517 F518) (tw_25 hw) (tw_26 hw) (notFace_of_selects (args := #[]) (mvT hZ (tw_28 hw))) (tw_28 hw) (tw_27 hw) (tw_3 hw) (tw_29 hw) (by decide) st_FROM_JSON F496 (by rw [hml]; rfl) [.null] [] (lenOf pd_0 rfl) rfl rfl (by decide) 0 rfl (by decide) (by decide) (by decide) (dB at_141) 144 rfl (fun r599 T599 L599 X599 q599 => ?_)
      obtain ⟨z599, rfl, f599, Nq599, eq599⟩ := q599
      have N599 := Fr.app N492 Nq599
      dsimp only [oD1, oD2, oD3, oD4]
      refine w_iload X599 hx (0 : Int32) (dB at_144) 146 rfl rfl ?_
      refine w_icmp_ne X599 hx z599.toInt 0 rfl (by decide) (dB at_146) 153 149 (fun c600 => ?_) (fun c600 => ?_)
      ·exfalso; omega
      ·refine w_iconst X599 hx (dB at_149) 150 rfl (1 : Int32) (by decide) ?_
       refine w_goto X599 hx (dB at_150) 154 ?_
       refine w_retN X599 hx hlk (t := .boolean) hret (by simp) (dB at_154) (by decide) (by decide) ?_
       rw [eq599]
       exact ⟨rfl, N599⟩
     ·exfalso; omega
    ·exfalso; omega
  ·obtain rfl : v524 = (2 : Int32) := eqI (s526.trans (by decide))
   have z526 : (2 : Int32).toInt = 2 := by decide
   have s601 : v525.toInt = 0 ∨ v525.toInt = 1 ∨ v525.toInt = 2 ∨ v525.toInt = 3 ∨ v525.toInt = 4 ∨ v525.toInt = 5 ∨ v525.toInt = 6 ∨ v525.toInt = 7 := by omega
   rcases s601 with s601 | s601 | s601 | s601 | s601 | s601 | s601 | s601
   ·obtain rfl : v525 = (0 : Int32) := eqI (s601.trans (by decide))
    have z601 : (0 : Int32).toInt = 0 := by decide
    refine w_iload X492 hx (0 : Int32) (dB at_93) 95 rfl rfl ?_
    refine w_iconst X492 hx (dB at_95) 96 rfl (4 : Int32) (by decide) ?_
    refine w_icmp_ge X492 hx 0 4 (by decide) (by decide) (dB at_96) 106 99 (fun c602 => ?_) (fun c602 => ?_)
    ·exfalso; omega
    ·refine w_aloadN X492 hx (.ref a207) (dB at_99) 100 rfl rfl rfl ?_
     refine w_iload X492 hx (0 : Int32) (dB at_100) 102 rfl rfl ?_
     refine w_aaload X492 hx hZ e492 F522 ⟨by decide, by decide⟩ (j := (0 : Int32)) (v := (.ref st_FROM)) rfl (dB at_102) 103 rfl ?_
     refine w_goto X492 hx (dB at_103) 107 ?_
     refine w_astore X492 hx (dB at_107) 109 rfl rfl #[.val (.int xc), .val (.int xo), .val (.ref a54), .val (.ref a207), .val (.ref a365), .val (.int (2 : Int32)), .val (.int (0 : Int32)), .val (.ref st_FROM), .unset] rfl ?_
     refine w_iload X492 hx (0 : Int32) (dB at_109) 111 rfl rfl ?_
     refine w_iconst X492 hx (dB at_111) 112 rfl (4 : Int32) (by decide) ?_
     refine w_icmp_ge X492 hx 0 4 (by decide) (by decide) (dB at_112) 132 115 (fun c603 => ?_) (fun c603 => ?_)
     ·exfalso; omega
     ·refine w_aload X492 hx (.ref a365) (dB at_115) 117 rfl rfl rfl ?_
      refine w_iload X492 hx (2 : Int32) (dB at_117) 119 rfl rfl ?_
      refine w_iaload X492 hx hZ e492 F523 ⟨by decide, by decide⟩ (j := (2 : Int32)) (v := (.int (15 : Int32))) rfl (dB at_119) 120 rfl ?_
      refine w_iload X492 hx (0 : Int32) (dB at_120) 122 rfl rfl ?_
      refine w_ishr X492 hx (dB at_122) 123 rfl (show (15 : Int32) = (15 : Int32) >>> ((0 : Int32) &&& 31) from by decide) ?_
      refine w_iconst X492 hx (dB at_123) 124 rfl (1 : Int32) (by decide) ?_
      refine w_iand X492 hx (dB at_124) 125 rfl (show (1 : Int32) = (15 : Int32) &&& (1 : Int32) from by decide) ?_
      refine w_if_eq X492 hx 1 (by decide) (dB at_125) 132 128 (fun c604 => ?_) (fun c604 => ?_)
      ·exfalso; omega
      ·refine w_iconst X492 hx (dB at_128) 129 rfl (1 : Int32) (by decide) ?_
       refine w_goto X492 hx (dB at_129) 133 ?_
       refine w_istore X492 hx (dB at_133) 135 rfl #[.val (.int xc), .val (.int xo), .val (.ref a54), .val (.ref a207), .val (.ref a365), .val (.int (2 : Int32)), .val (.int (0 : Int32)), .val (.ref st_FROM), .val (.int (1 : Int32))] rfl ?_
       refine w_aloadN X492 hx (.ref a54) (dB at_135) 136 rfl rfl rfl ?_
       refine w_iload X492 hx (2 : Int32) (dB at_136) 138 rfl rfl ?_
       refine w_aaload X492 hx hZ e492 F521 ⟨by decide, by decide⟩ (j := (2 : Int32)) (v := (.ref st_FMT)) rfl (dB at_138) 139 rfl ?_
       refine w_aload X492 hx (.ref st_FROM) (dB at_139) 141 rfl rfl rfl ?_
       refine w_virt X492 hx hZ hown e492 (rm1l4j0 l Z a0 hw [] st_FMT st_FROM oa_FMT ko_FMT st_TO st_ALLOW_ENV st_ALLOW_FILES h492 n0 Z492 F515 F516) (tw_25 hw) (tw_26 hw) (notFace_of_selects (args := #[]) (mvT hZ (tw_28 hw))) (tw_28 hw) (tw_27 hw) (tw_3 hw) (tw_29 hw) (by decide) st_FMT F498 (by rw [hml]; rfl) [(.ref st_FROM)] [] (lenOf pd_0 rfl) rfl rfl (by decide) 0 rfl (by decide) (by decide) (by decide) (dB at_141) 144 rfl (fun r605 T605 L605 X605 q605 => ?_)
       obtain ⟨z605, rfl, f605, Nq605, eq605⟩ := q605
       have N605 := Fr.app N492 Nq605
       dsimp only [oD1, oD2, oD3, oD4]
       refine w_iload X605 hx (1 : Int32) (dB at_144) 146 rfl rfl ?_
       refine w_icmp_ne X605 hx z605.toInt 1 rfl (by decide) (dB at_146) 153 149 (fun c606 => ?_) (fun c606 => ?_)
       ·exfalso; omega
       ·refine w_iconst X605 hx (dB at_149) 150 rfl (1 : Int32) (by decide) ?_
        refine w_goto X605 hx (dB at_150) 154 ?_
        refine w_retN X605 hx hlk (t := .boolean) hret (by simp) (dB at_154) (by decide) (by decide) ?_
        rw [eq605]
        exact ⟨rfl, N605⟩
   ·obtain rfl : v525 = (1 : Int32) := eqI (s601.trans (by decide))
    have z601 : (1 : Int32).toInt = 1 := by decide
    refine w_iload X492 hx (1 : Int32) (dB at_93) 95 rfl rfl ?_
    refine w_iconst X492 hx (dB at_95) 96 rfl (4 : Int32) (by decide) ?_
    refine w_icmp_ge X492 hx 1 4 (by decide) (by decide) (dB at_96) 106 99 (fun c607 => ?_) (fun c607 => ?_)
    ·exfalso; omega
    ·refine w_aloadN X492 hx (.ref a207) (dB at_99) 100 rfl rfl rfl ?_
     refine w_iload X492 hx (1 : Int32) (dB at_100) 102 rfl rfl ?_
     refine w_aaload X492 hx hZ e492 F522 ⟨by decide, by decide⟩ (j := (1 : Int32)) (v := (.ref st_TO)) rfl (dB at_102) 103 rfl ?_
     refine w_goto X492 hx (dB at_103) 107 ?_
     refine w_astore X492 hx (dB at_107) 109 rfl rfl #[.val (.int xc), .val (.int xo), .val (.ref a54), .val (.ref a207), .val (.ref a365), .val (.int (2 : Int32)), .val (.int (1 : Int32)), .val (.ref st_TO), .unset] rfl ?_
     refine w_iload X492 hx (1 : Int32) (dB at_109) 111 rfl rfl ?_
     refine w_iconst X492 hx (dB at_111) 112 rfl (4 : Int32) (by decide) ?_
     refine w_icmp_ge X492 hx 1 4 (by decide) (by decide) (dB at_112) 132 115 (fun c608 => ?_) (fun c608 => ?_)
     ·exfalso; omega
     ·refine w_aload X492 hx (.ref a365) (dB at_115) 117 rfl rfl rfl ?_
      refine w_iload X492 hx (2 : Int32) (dB at_117) 119 rfl rfl ?_
      refine w_iaload X492 hx hZ e492 F523 ⟨by decide, by decide⟩ (j := (2 : Int32)) (v := (.int (15 : Int32))) rfl (dB at_119) 120 rfl ?_
      refine w_iload X492 hx (1 : Int32) (dB at_120) 122 rfl rfl ?_
      refine w_ishr X492 hx (dB at_122) 123 rfl (show (7 : Int32) = (15 : Int32) >>> ((1 : Int32) &&& 31) from by decide) ?_
      refine w_iconst X492 hx (dB at_123) 124 rfl (1 : Int32) (by decide) ?_
      refine w_iand X492 hx (dB at_124) 125 rfl (show (1 : Int32) = (7 : Int32) &&& (1 : Int32) from by decide) ?_
      refine w_if_eq X492 hx 1 (by decide) (dB at_125) 132 128 (fun c609 => ?_) (fun c609 => ?_)
      ·exfalso; omega
      ·refine w_iconst X492 hx (dB at_128) 129 rfl (1 : Int32) (by decide) ?_
       refine w_goto X492 hx (dB at_129) 133 ?_
       refine w_istore X492 hx (dB at_133) 135 rfl #[.val (.int xc), .val (.int xo), .val (.ref a54), .val (.ref a207), .val (.ref a365), .val (.int (2 : Int32)), .val (.int (1 : Int32)), .val (.ref st_TO), .val (.int (1 : Int32))] rfl ?_
       refine w_aloadN X492 hx (.ref a54) (dB at_135) 136 rfl rfl rfl ?_
       refine w_iload X492 hx (2 : Int32) (dB at_136) 138 rfl rfl ?_
       refine w_aaload X492 hx hZ e492 F521 ⟨by decide, by decide⟩ (j := (2 : Int32)) (v := (.ref st_FMT)) rfl (dB at_138) 139 rfl ?_
       refine w_aload X492 hx (.ref st_TO) (dB at_139) 141 rfl rfl rfl ?_
       refine w_virt X492 hx hZ hown e492 (rm1l4j1 l Z a0 hw [] st_FMT st_TO oa_FMT ko_FMT st_FROM st_ALLOW_ENV st_ALLOW_FILES h492 n0 Z492 F515 F516 (by exact (Fld.ne F509 F512 (by decide)))) (tw_25 hw) (tw_26 hw) (notFace_of_selects (args := #[]) (mvT hZ (tw_28 hw))) (tw_28 hw) (tw_27 hw) (tw_3 hw) (tw_29 hw) (by decide) st_FMT F498 (by rw [hml]; rfl) [(.ref st_TO)] [] (lenOf pd_0 rfl) rfl rfl (by decide) 0 rfl (by decide) (by decide) (by decide) (dB at_141) 144 rfl (fun r610 T610 L610 X610 q610 => ?_)
       obtain ⟨z610, rfl, f610, Nq610, eq610⟩ := q610
       have N610 := Fr.app N492 Nq610
       dsimp only [oD1, oD2, oD3, oD4]
       refine w_iload X610 hx (1 : Int32) (dB at_144) 146 rfl rfl ?_
       refine w_icmp_ne X610 hx z610.toInt 1 rfl (by decide) (dB at_146) 153 149 (fun c611 => ?_) (fun c611 => ?_)
       ·exfalso; omega
       ·refine w_iconst X610 hx (dB at_149) 150 rfl (1 : Int32) (by decide) ?_
        refine w_goto X610 hx (dB at_150) 154 ?_
        refine w_retN X610 hx hlk (t := .boolean) hret (by simp) (dB at_154) (by decide) (by decide) ?_
        rw [eq610]
        exact ⟨rfl, N610⟩
   ·obtain rfl : v525 = (2 : Int32) := eqI (s601.trans (by decide))
    have z601 : (2 : Int32).toInt = 2 := by decide
    refine w_iload X492 hx (2 : Int32) (dB at_93) 95 rfl rfl ?_
    refine w_iconst X492 hx (dB at_95) 96 rfl (4 : Int32) (by decide) ?_
    refine w_icmp_ge X492 hx 2 4 (by decide) (by decide) (dB at_96) 106 99 (fun c612 => ?_) (fun c612 => ?_)
    ·exfalso; omega
    ·refine w_aloadN X492 hx (.ref a207) (dB at_99) 100 rfl rfl rfl ?_
     refine w_iload X492 hx (2 : Int32) (dB at_100) 102 rfl rfl ?_
     refine w_aaload X492 hx hZ e492 F522 ⟨by decide, by decide⟩ (j := (2 : Int32)) (v := (.ref st_ALLOW_ENV)) rfl (dB at_102) 103 rfl ?_
     refine w_goto X492 hx (dB at_103) 107 ?_
     refine w_astore X492 hx (dB at_107) 109 rfl rfl #[.val (.int xc), .val (.int xo), .val (.ref a54), .val (.ref a207), .val (.ref a365), .val (.int (2 : Int32)), .val (.int (2 : Int32)), .val (.ref st_ALLOW_ENV), .unset] rfl ?_
     refine w_iload X492 hx (2 : Int32) (dB at_109) 111 rfl rfl ?_
     refine w_iconst X492 hx (dB at_111) 112 rfl (4 : Int32) (by decide) ?_
     refine w_icmp_ge X492 hx 2 4 (by decide) (by decide) (dB at_112) 132 115 (fun c613 => ?_) (fun c613 => ?_)
     ·exfalso; omega
     ·refine w_aload X492 hx (.ref a365) (dB at_115) 117 rfl rfl rfl ?_
      refine w_iload X492 hx (2 : Int32) (dB at_117) 119 rfl rfl ?_
      refine w_iaload X492 hx hZ e492 F523 ⟨by decide, by decide⟩ (j := (2 : Int32)) (v := (.int (15 : Int32))) rfl (dB at_119) 120 rfl ?_
      refine w_iload X492 hx (2 : Int32) (dB at_120) 122 rfl rfl ?_
      refine w_ishr X492 hx (dB at_122) 123 rfl (show (3 : Int32) = (15 : Int32) >>> ((2 : Int32) &&& 31) from by decide) ?_
      refine w_iconst X492 hx (dB at_123) 124 rfl (1 : Int32) (by decide) ?_
      refine w_iand X492 hx (dB at_124) 125 rfl (show (1 : Int32) = (3 : Int32) &&& (1 : Int32) from by decide) ?_
      refine w_if_eq X492 hx 1 (by decide) (dB at_125) 132 128 (fun c614 => ?_) (fun c614 => ?_)
      ·exfalso; omega
      ·refine w_iconst X492 hx (dB at_128) 129 rfl (1 : Int32) (by decide) ?_
       refine w_goto X492 hx (dB at_129) 133 ?_
       refine w_istore X492 hx (dB at_133) 135 rfl #[.val (.int xc), .val (.int xo), .val (.ref a54), .val (.ref a207), .val (.ref a365), .val (.int (2 : Int32)), .val (.int (2 : Int32)), .val (.ref st_ALLOW_ENV), .val (.int (1 : Int32))] rfl ?_
       refine w_aloadN X492 hx (.ref a54) (dB at_135) 136 rfl rfl rfl ?_
       refine w_iload X492 hx (2 : Int32) (dB at_136) 138 rfl rfl ?_
       refine w_aaload X492 hx hZ e492 F521 ⟨by decide, by decide⟩ (j := (2 : Int32)) (v := (.ref st_FMT)) rfl (dB at_138) 139 rfl ?_
       refine w_aload X492 hx (.ref st_ALLOW_ENV) (dB at_139) 141 rfl rfl rfl ?_
       refine w_virt X492 hx hZ hown e492 (rm1l4j2 l Z a0 hw [] st_FMT st_ALLOW_ENV oa_FMT ko_FMT st_FROM st_TO st_ALLOW_FILES h492 n0 Z492 F515 F516 (by exact (Fld.ne F509 F511 (by decide))) (by exact (Fld.ne F512 F511 (by decide)))) (tw_25 hw) (tw_26 hw) (notFace_of_selects (args := #[]) (mvT hZ (tw_28 hw))) (tw_28 hw) (tw_27 hw) (tw_3 hw) (tw_29 hw) (by decide) st_FMT F498 (by rw [hml]; rfl) [(.ref st_ALLOW_ENV)] [] (lenOf pd_0 rfl) rfl rfl (by decide) 0 rfl (by decide) (by decide) (by decide) (dB at_141) 144 rfl (fun r615 T615 L615 X615 q615 => ?_)
       obtain ⟨z615, rfl, f615, Nq615, eq615⟩ := q615
       have N615 := Fr.app N492 Nq615
       dsimp only [oD1, oD2, oD3, oD4]
       refine w_iload X615 hx (1 : Int32) (dB at_144) 146 rfl rfl ?_
       refine w_icmp_ne X615 hx z615.toInt 1 rfl (by decide) (dB at_146) 153 149 (fun c616 => ?_) (fun c616 => ?_)
       ·exfalso; omega
       ·refine w_iconst X615 hx (dB at_149) 150 rfl (1 : Int32) (by decide) ?_
        refine w_goto X615 hx (dB at_150) 154 ?_
        refine w_retN X615 hx hlk (t := .boolean) hret (by simp) (dB at_154) (by decide) (by decide) ?_
        rw [eq615]
        exact ⟨rfl, N615⟩
   ·obtain rfl : v525 = (3 : Int32) := eqI (s601.trans (by decide))
    have z601 : (3 : Int32).toInt = 3 := by decide
    refine w_iload X492 hx (3 : Int32) (dB at_93) 95 rfl rfl ?_
    refine w_iconst X492 hx (dB at_95) 96 rfl (4 : Int32) (by decide) ?_
    refine w_icmp_ge X492 hx 3 4 (by decide) (by decide) (dB at_96) 106 99 (fun c617 => ?_) (fun c617 => ?_)
    ·exfalso; omega
    ·refine w_aloadN X492 hx (.ref a207) (dB at_99) 100 rfl rfl rfl ?_
     refine w_iload X492 hx (3 : Int32) (dB at_100) 102 rfl rfl ?_
     refine w_aaload X492 hx hZ e492 F522 ⟨by decide, by decide⟩ (j := (3 : Int32)) (v := (.ref st_ALLOW_FILES)) rfl (dB at_102) 103 rfl ?_
     refine w_goto X492 hx (dB at_103) 107 ?_
     refine w_astore X492 hx (dB at_107) 109 rfl rfl #[.val (.int xc), .val (.int xo), .val (.ref a54), .val (.ref a207), .val (.ref a365), .val (.int (2 : Int32)), .val (.int (3 : Int32)), .val (.ref st_ALLOW_FILES), .unset] rfl ?_
     refine w_iload X492 hx (3 : Int32) (dB at_109) 111 rfl rfl ?_
     refine w_iconst X492 hx (dB at_111) 112 rfl (4 : Int32) (by decide) ?_
     refine w_icmp_ge X492 hx 3 4 (by decide) (by decide) (dB at_112) 132 115 (fun c618 => ?_) (fun c618 => ?_)
     ·exfalso; omega
     ·refine w_aload X492 hx (.ref a365) (dB at_115) 117 rfl rfl rfl ?_
      refine w_iload X492 hx (2 : Int32) (dB at_117) 119 rfl rfl ?_
      refine w_iaload X492 hx hZ e492 F523 ⟨by decide, by decide⟩ (j := (2 : Int32)) (v := (.int (15 : Int32))) rfl (dB at_119) 120 rfl ?_
      refine w_iload X492 hx (3 : Int32) (dB at_120) 122 rfl rfl ?_
      refine w_ishr X492 hx (dB at_122) 123 rfl (show (1 : Int32) = (15 : Int32) >>> ((3 : Int32) &&& 31) from by decide) ?_
      refine w_iconst X492 hx (dB at_123) 124 rfl (1 : Int32) (by decide) ?_
      refine w_iand X492 hx (dB at_124) 125 rfl (show (1 : Int32) = (1 : Int32) &&& (1 : Int32) from by decide) ?_
      refine w_if_eq X492 hx 1 (by decide) (dB at_125) 132 128 (fun c619 => ?_) (fun c619 => ?_)
      ·exfalso; omega
      ·refine w_iconst X492 hx (dB at_128) 129 rfl (1 : Int32) (by decide) ?_
       refine w_goto X492 hx (dB at_129) 133 ?_
       refine w_istore X492 hx (dB at_133) 135 rfl #[.val (.int xc), .val (.int xo), .val (.ref a54), .val (.ref a207), .val (.ref a365), .val (.int (2 : Int32)), .val (.int (3 : Int32)), .val (.ref st_ALLOW_FILES), .val (.int (1 : Int32))] rfl ?_
       refine w_aloadN X492 hx (.ref a54) (dB at_135) 136 rfl rfl rfl ?_
       refine w_iload X492 hx (2 : Int32) (dB at_136) 138 rfl rfl ?_
       refine w_aaload X492 hx hZ e492 F521 ⟨by decide, by decide⟩ (j := (2 : Int32)) (v := (.ref st_FMT)) rfl (dB at_138) 139 rfl ?_
       refine w_aload X492 hx (.ref st_ALLOW_FILES) (dB at_139) 141 rfl rfl rfl ?_
       refine w_virt X492 hx hZ hown e492 (rm1l4j3 l Z a0 hw [] st_FMT st_ALLOW_FILES oa_FMT ko_FMT st_FROM st_TO st_ALLOW_ENV h492 n0 Z492 F515 F516 (by exact (Fld.ne F509 F510 (by decide))) (by exact (Fld.ne F512 F510 (by decide))) (by exact (Fld.ne F511 F510 (by decide)))) (tw_25 hw) (tw_26 hw) (notFace_of_selects (args := #[]) (mvT hZ (tw_28 hw))) (tw_28 hw) (tw_27 hw) (tw_3 hw) (tw_29 hw) (by decide) st_FMT F498 (by rw [hml]; rfl) [(.ref st_ALLOW_FILES)] [] (lenOf pd_0 rfl) rfl rfl (by decide) 0 rfl (by decide) (by decide) (by decide) (dB at_141) 144 rfl (fun r620 T620 L620 X620 q620 => ?_)
       obtain ⟨z620, rfl, f620, Nq620, eq620⟩ := q620
       have N620 := Fr.app N492 Nq620
       dsimp only [oD1, oD2, oD3, oD4]
       refine w_iload X620 hx (1 : Int32) (dB at_144) 146 rfl rfl ?_
       refine w_icmp_ne X620 hx z620.toInt 1 rfl (by decide) (dB at_146) 153 149 (fun c621 => ?_) (fun c621 => ?_)
       ·exfalso; omega
       ·refine w_iconst X620 hx (dB at_149) 150 rfl (1 : Int32) (by decide) ?_
        refine w_goto X620 hx (dB at_150) 154 ?_
        refine w_retN X620 hx hlk (t := .boolean) hret (by simp) (dB at_154) (by decide) (by decide) ?_
        rw [eq620]
        exact ⟨rfl, N620⟩
   ·obtain rfl : v525 = (4 : Int32) := eqI (s601.trans (by decide))
    have z601 : (4 : Int32).toInt = 4 := by decide
    refine w_iload X492 hx (4 : Int32) (dB at_93) 95 rfl rfl ?_
    refine w_iconst X492 hx (dB at_95) 96 rfl (4 : Int32) (by decide) ?_
    refine w_icmp_ge X492 hx 4 4 (by decide) (by decide) (dB at_96) 106 99 (fun c622 => ?_) (fun c622 => ?_)
    ·refine w_null X492 hx (dB at_106) 107 rfl ?_
     refine w_astore X492 hx (dB at_107) 109 rfl rfl #[.val (.int xc), .val (.int xo), .val (.ref a54), .val (.ref a207), .val (.ref a365), .val (.int (2 : Int32)), .val (.int (4 : Int32)), .val .null, .unset] rfl ?_
     refine w_iload X492 hx (4 : Int32) (dB at_109) 111 rfl rfl ?_
     refine w_iconst X492 hx (dB at_111) 112 rfl (4 : Int32) (by decide) ?_
     refine w_icmp_ge X492 hx 4 4 (by decide) (by decide) (dB at_112) 132 115 (fun c623 => ?_) (fun c623 => ?_)
     ·refine w_iconst X492 hx (dB at_132) 133 rfl (0 : Int32) (by decide) ?_
      refine w_istore X492 hx (dB at_133) 135 rfl #[.val (.int xc), .val (.int xo), .val (.ref a54), .val (.ref a207), .val (.ref a365), .val (.int (2 : Int32)), .val (.int (4 : Int32)), .val .null, .val (.int (0 : Int32))] rfl ?_
      refine w_aloadN X492 hx (.ref a54) (dB at_135) 136 rfl rfl rfl ?_
      refine w_iload X492 hx (2 : Int32) (dB at_136) 138 rfl rfl ?_
      refine w_aaload X492 hx hZ e492 F521 ⟨by decide, by decide⟩ (j := (2 : Int32)) (v := (.ref st_FMT)) rfl (dB at_138) 139 rfl ?_
      refine w_aload X492 hx .null (dB at_139) 141 rfl rfl rfl ?_
      refine w_virt X492 hx hZ hown e492 (rm1l4n l Z a0 hw [] st_FMT oa_FMT ko_FMT st_FROM st_TO st_ALLOW_ENV st_ALLOW_FILES h492 n0 Z492 F515 F516) (tw_25 hw) (tw_26 hw) (notFace_of_selects (args := #[]) (mvT hZ (tw_28 hw))) (tw_28 hw) (tw_27 hw) (tw_3 hw) (tw_29 hw) (by decide) st_FMT F498 (by rw [hml]; rfl) [.null] [] (lenOf pd_0 rfl) rfl rfl (by decide) 0 rfl (by decide) (by decide) (by decide) (dB at_141) 144 rfl (fun r624 T624 L624 X624 q624 => ?_)
      obtain ⟨z624, rfl, f624, Nq624, eq624⟩ := q624
      have N624 := Fr.app N492 Nq624
      dsimp only [oD1, oD2, oD3, oD4]
      refine w_iload X624 hx (0 : Int32) (dB at_144) 146 rfl rfl ?_
      refine w_icmp_ne X624 hx z624.toInt 0 rfl (by decide) (dB at_146) 153 149 (fun c625 => ?_) (fun c625 => ?_)
      ·exfalso; omega
      ·refine w_iconst X624 hx (dB at_149) 150 rfl (1 : Int32) (by decide) ?_
       refine w_goto X624 hx (dB at_150) 154 ?_
       refine w_retN X624 hx hlk (t := .boolean) hret (by simp) (dB at_154) (by decide) (by decide) ?_
       rw [eq624]
       exact ⟨rfl, N624⟩
     ·exfalso; omega
    ·exfalso; omega
   ·obtain rfl : v525 = (5 : Int32) := eqI (s601.trans (by decide))
    have z601 : (5 : Int32).toInt = 5 := by decide
    refine w_iload X492 hx (5 : Int32) (dB at_93) 95 rfl rfl ?_
    refine w_iconst X492 hx (dB at_95) 96 rfl (4 : Int32) (by decide) ?_
    refine w_icmp_ge X492 hx 5 4 (by decide) (by decide) (dB at_96) 106 99 (fun c626 => ?_) (fun c626 => ?_)
    ·refine w_null X492 hx (dB at_106) 107 rfl ?_
     refine w_astore X492 hx (dB at_107) 109 rfl rfl #[.val (.int xc), .val (.int xo), .val (.ref a54), .val (.ref a207), .val (.ref a365), .val (.int (2 : Int32)), .val (.int (5 : Int32)), .val .null, .unset] rfl ?_
     refine w_iload X492 hx (5 : Int32) (dB at_109) 111 rfl rfl ?_
     refine w_iconst X492 hx (dB at_111) 112 rfl (4 : Int32) (by decide) ?_
     refine w_icmp_ge X492 hx 5 4 (by decide) (by decide) (dB at_112) 132 115 (fun c627 => ?_) (fun c627 => ?_)
     ·refine w_iconst X492 hx (dB at_132) 133 rfl (0 : Int32) (by decide) ?_
      refine w_istore X492 hx (dB at_133) 135 rfl #[.val (.int xc), .val (.int xo), .val (.ref a54), .val (.ref a207), .val (.ref a365), .val (.int (2 : Int32)), .val (.int (5 : Int32)), .val .null, .val (.int (0 : Int32))] rfl ?_
      refine w_aloadN X492 hx (.ref a54) (dB at_135) 136 rfl rfl rfl ?_
      refine w_iload X492 hx (2 : Int32) (dB at_136) 138 rfl rfl ?_
      refine w_aaload X492 hx hZ e492 F521 ⟨by decide, by decide⟩ (j := (2 : Int32)) (v := (.ref st_FMT)) rfl (dB at_138) 139 rfl ?_
      refine w_aload X492 hx .null (dB at_139) 141 rfl rfl rfl ?_
      refine w_virt X492 hx hZ hown e492 (rm1l4n l Z a0 hw [] st_FMT oa_FMT ko_FMT st_FROM st_TO st_ALLOW_ENV st_ALLOW_FILES h492 n0 Z492 F515 F516) (tw_25 hw) (tw_26 hw) (notFace_of_selects (args := #[]) (mvT hZ (tw_28 hw))) (tw_28 hw) (tw_27 hw) (tw_3 hw) (tw_29 hw) (by decide) st_FMT F498 (by rw [hml]; rfl) [.null] [] (lenOf pd_0 rfl) rfl rfl (by decide) 0 rfl (by decide) (by decide) (by decide) (dB at_141) 144 rfl (fun r628 T628 L628 X628 q628 => ?_)
      obtain ⟨z628, rfl, f628, Nq628, eq628⟩ := q628
      have N628 := Fr.app N492 Nq628
      dsimp only [oD1, oD2, oD3, oD4]
      refine w_iload X628 hx (0 : Int32) (dB at_144) 146 rfl rfl ?_
      refine w_icmp_ne X628 hx z628.toInt 0 rfl (by decide) (dB at_146) 153 149 (fun c629 => ?_) (fun c629 => ?_)
      ·exfalso; omega
      ·refine w_iconst X628 hx (dB at_149) 150 rfl (1 : Int32) (by decide) ?_
       refine w_goto X628 hx (dB at_150) 154 ?_
       refine w_retN X628 hx hlk (t := .boolean) hret (by simp) (dB at_154) (by decide) (by decide) ?_
       rw [eq628]
       exact ⟨rfl, N628⟩
     ·exfalso; omega
    ·exfalso; omega
   ·obtain rfl : v525 = (6 : Int32) := eqI (s601.trans (by decide))
    have z601 : (6 : Int32).toInt = 6 := by decide
    refine w_iload X492 hx (6 : Int32) (dB at_93) 95 rfl rfl ?_
    refine w_iconst X492 hx (dB at_95) 96 rfl (4 : Int32) (by decide) ?_
    refine w_icmp_ge X492 hx 6 4 (by decide) (by decide) (dB at_96) 106 99 (fun c630 => ?_) (fun c630 => ?_)
    ·refine w_null X492 hx (dB at_106) 107 rfl ?_
     refine w_astore X492 hx (dB at_107) 109 rfl rfl #[.val (.int xc), .val (.int xo), .val (.ref a54), .val (.ref a207), .val (.ref a365), .val (.int (2 : Int32)), .val (.int (6 : Int32)), .val .null, .unset] rfl ?_
     refine w_iload X492 hx (6 : Int32) (dB at_109) 111 rfl rfl ?_
     refine w_iconst X492 hx (dB at_111) 112 rfl (4 : Int32) (by decide) ?_
     refine w_icmp_ge X492 hx 6 4 (by decide) (by decide) (dB at_112) 132 115 (fun c631 => ?_) (fun c631 => ?_)
     ·refine w_iconst X492 hx (dB at_132) 133 rfl (0 : Int32) (by decide) ?_
      refine w_istore X492 hx (dB at_133) 135 rfl #[.val (.int xc), .val (.int xo), .val (.ref a54), .val (.ref a207), .val (.ref a365), .val (.int (2 : Int32)), .val (.int (6 : Int32)), .val .null, .val (.int (0 : Int32))] rfl ?_
      refine w_aloadN X492 hx (.ref a54) (dB at_135) 136 rfl rfl rfl ?_
      refine w_iload X492 hx (2 : Int32) (dB at_136) 138 rfl rfl ?_
      refine w_aaload X492 hx hZ e492 F521 ⟨by decide, by decide⟩ (j := (2 : Int32)) (v := (.ref st_FMT)) rfl (dB at_138) 139 rfl ?_
      refine w_aload X492 hx .null (dB at_139) 141 rfl rfl rfl ?_
      refine w_virt X492 hx hZ hown e492 (rm1l4n l Z a0 hw [] st_FMT oa_FMT ko_FMT st_FROM st_TO st_ALLOW_ENV st_ALLOW_FILES h492 n0 Z492 F515 F516) (tw_25 hw) (tw_26 hw) (notFace_of_selects (args := #[]) (mvT hZ (tw_28 hw))) (tw_28 hw) (tw_27 hw) (tw_3 hw) (tw_29 hw) (by decide) st_FMT F498 (by rw [hml]; rfl) [.null] [] (lenOf pd_0 rfl) rfl rfl (by decide) 0 rfl (by decide) (by decide) (by decide) (dB at_141) 144 rfl (fun r632 T632 L632 X632 q632 => ?_)
      obtain ⟨z632, rfl, f632, Nq632, eq632⟩ := q632
      have N632 := Fr.app N492 Nq632
      dsimp only [oD1, oD2, oD3, oD4]
      refine w_iload X632 hx (0 : Int32) (dB at_144) 146 rfl rfl ?_
      refine w_icmp_ne X632 hx z632.toInt 0 rfl (by decide) (dB at_146) 153 149 (fun c633 => ?_) (fun c633 => ?_)
      ·exfalso; omega
      ·refine w_iconst X632 hx (dB at_149) 150 rfl (1 : Int32) (by decide) ?_
       refine w_goto X632 hx (dB at_150) 154 ?_
       refine w_retN X632 hx hlk (t := .boolean) hret (by simp) (dB at_154) (by decide) (by decide) ?_
       rw [eq632]
       exact ⟨rfl, N632⟩
     ·exfalso; omega
    ·exfalso; omega
   ·obtain rfl : v525 = (7 : Int32) := eqI (s601.trans (by decide))
    have z601 : (7 : Int32).toInt = 7 := by decide
    refine w_iload X492 hx (7 : Int32) (dB at_93) 95 rfl rfl ?_
    refine w_iconst X492 hx (dB at_95) 96 rfl (4 : Int32) (by decide) ?_
    refine w_icmp_ge X492 hx 7 4 (by decide) (by decide) (dB at_96) 106 99 (fun c634 => ?_) (fun c634 => ?_)
    ·refine w_null X492 hx (dB at_106) 107 rfl ?_
     refine w_astore X492 hx (dB at_107) 109 rfl rfl #[.val (.int xc), .val (.int xo), .val (.ref a54), .val (.ref a207), .val (.ref a365), .val (.int (2 : Int32)), .val (.int (7 : Int32)), .val .null, .unset] rfl ?_
     refine w_iload X492 hx (7 : Int32) (dB at_109) 111 rfl rfl ?_
     refine w_iconst X492 hx (dB at_111) 112 rfl (4 : Int32) (by decide) ?_
     refine w_icmp_ge X492 hx 7 4 (by decide) (by decide) (dB at_112) 132 115 (fun c635 => ?_) (fun c635 => ?_)
     ·refine w_iconst X492 hx (dB at_132) 133 rfl (0 : Int32) (by decide) ?_
      refine w_istore X492 hx (dB at_133) 135 rfl #[.val (.int xc), .val (.int xo), .val (.ref a54), .val (.ref a207), .val (.ref a365), .val (.int (2 : Int32)), .val (.int (7 : Int32)), .val .null, .val (.int (0 : Int32))] rfl ?_
      refine w_aloadN X492 hx (.ref a54) (dB at_135) 136 rfl rfl rfl ?_
      refine w_iload X492 hx (2 : Int32) (dB at_136) 138 rfl rfl ?_
      refine w_aaload X492 hx hZ e492 F521 ⟨by decide, by decide⟩ (j := (2 : Int32)) (v := (.ref st_FMT)) rfl (dB at_138) 139 rfl ?_
      refine w_aload X492 hx .null (dB at_139) 141 rfl rfl rfl ?_
      refine w_virt X492 hx hZ hown e492 (rm1l4n l Z a0 hw [] st_FMT oa_FMT ko_FMT st_FROM st_TO st_ALLOW_ENV st_ALLOW_FILES h492 n0 Z492 F515 F516) (tw_25 hw) (tw_26 hw) (notFace_of_selects (args := #[]) (mvT hZ (tw_28 hw))) (tw_28 hw) (tw_27 hw) (tw_3 hw) (tw_29 hw) (by decide) st_FMT F498 (by rw [hml]; rfl) [.null] [] (lenOf pd_0 rfl) rfl rfl (by decide) 0 rfl (by decide) (by decide) (by decide) (dB at_141) 144 rfl (fun r636 T636 L636 X636 q636 => ?_)
      obtain ⟨z636, rfl, f636, Nq636, eq636⟩ := q636
      have N636 := Fr.app N492 Nq636
      dsimp only [oD1, oD2, oD3, oD4]
      refine w_iload X636 hx (0 : Int32) (dB at_144) 146 rfl rfl ?_
      refine w_icmp_ne X636 hx z636.toInt 0 rfl (by decide) (dB at_146) 153 149 (fun c637 => ?_) (fun c637 => ?_)
      ·exfalso; omega
      ·refine w_iconst X636 hx (dB at_149) 150 rfl (1 : Int32) (by decide) ?_
       refine w_goto X636 hx (dB at_150) 154 ?_
       refine w_retN X636 hx hlk (t := .boolean) hret (by simp) (dB at_154) (by decide) (by decide) ?_
       rw [eq636]
       exact ⟨rfl, N636⟩
     ·exfalso; omega
    ·exfalso; omega
  ·obtain rfl : v524 = (3 : Int32) := eqI (s526.trans (by decide))
   have z526 : (3 : Int32).toInt = 3 := by decide
   have s638 : v525.toInt = 0 ∨ v525.toInt = 1 ∨ v525.toInt = 2 ∨ v525.toInt = 3 ∨ v525.toInt = 4 ∨ v525.toInt = 5 ∨ v525.toInt = 6 ∨ v525.toInt = 7 := by omega
   rcases s638 with s638 | s638 | s638 | s638 | s638 | s638 | s638 | s638
   ·obtain rfl : v525 = (0 : Int32) := eqI (s638.trans (by decide))
    have z638 : (0 : Int32).toInt = 0 := by decide
    refine w_iload X492 hx (0 : Int32) (dB at_93) 95 rfl rfl ?_
    refine w_iconst X492 hx (dB at_95) 96 rfl (4 : Int32) (by decide) ?_
    refine w_icmp_ge X492 hx 0 4 (by decide) (by decide) (dB at_96) 106 99 (fun c639 => ?_) (fun c639 => ?_)
    ·exfalso; omega
    ·refine w_aloadN X492 hx (.ref a207) (dB at_99) 100 rfl rfl rfl ?_
     refine w_iload X492 hx (0 : Int32) (dB at_100) 102 rfl rfl ?_
     refine w_aaload X492 hx hZ e492 F522 ⟨by decide, by decide⟩ (j := (0 : Int32)) (v := (.ref st_FROM)) rfl (dB at_102) 103 rfl ?_
     refine w_goto X492 hx (dB at_103) 107 ?_
     refine w_astore X492 hx (dB at_107) 109 rfl rfl #[.val (.int xc), .val (.int xo), .val (.ref a54), .val (.ref a207), .val (.ref a365), .val (.int (3 : Int32)), .val (.int (0 : Int32)), .val (.ref st_FROM), .unset] rfl ?_
     refine w_iload X492 hx (0 : Int32) (dB at_109) 111 rfl rfl ?_
     refine w_iconst X492 hx (dB at_111) 112 rfl (4 : Int32) (by decide) ?_
     refine w_icmp_ge X492 hx 0 4 (by decide) (by decide) (dB at_112) 132 115 (fun c640 => ?_) (fun c640 => ?_)
     ·exfalso; omega
     ·refine w_aload X492 hx (.ref a365) (dB at_115) 117 rfl rfl rfl ?_
      refine w_iload X492 hx (3 : Int32) (dB at_117) 119 rfl rfl ?_
      refine w_iaload X492 hx hZ e492 F523 ⟨by decide, by decide⟩ (j := (3 : Int32)) (v := (.int (13 : Int32))) rfl (dB at_119) 120 rfl ?_
      refine w_iload X492 hx (0 : Int32) (dB at_120) 122 rfl rfl ?_
      refine w_ishr X492 hx (dB at_122) 123 rfl (show (13 : Int32) = (13 : Int32) >>> ((0 : Int32) &&& 31) from by decide) ?_
      refine w_iconst X492 hx (dB at_123) 124 rfl (1 : Int32) (by decide) ?_
      refine w_iand X492 hx (dB at_124) 125 rfl (show (1 : Int32) = (13 : Int32) &&& (1 : Int32) from by decide) ?_
      refine w_if_eq X492 hx 1 (by decide) (dB at_125) 132 128 (fun c641 => ?_) (fun c641 => ?_)
      ·exfalso; omega
      ·refine w_iconst X492 hx (dB at_128) 129 rfl (1 : Int32) (by decide) ?_
       refine w_goto X492 hx (dB at_129) 133 ?_
       refine w_istore X492 hx (dB at_133) 135 rfl #[.val (.int xc), .val (.int xo), .val (.ref a54), .val (.ref a207), .val (.ref a365), .val (.int (3 : Int32)), .val (.int (0 : Int32)), .val (.ref st_FROM), .val (.int (1 : Int32))] rfl ?_
       refine w_aloadN X492 hx (.ref a54) (dB at_135) 136 rfl rfl rfl ?_
       refine w_iload X492 hx (3 : Int32) (dB at_136) 138 rfl rfl ?_
       refine w_aaload X492 hx hZ e492 F521 ⟨by decide, by decide⟩ (j := (3 : Int32)) (v := (.ref st_CHECK)) rfl (dB at_138) 139 rfl ?_
       refine w_aload X492 hx (.ref st_FROM) (dB at_139) 141 rfl rfl rfl ?_
       refine w_virt X492 hx hZ hown e492 (rm1l3j0 l Z a0 hw [] st_CHECK st_FROM oa_CHECK ko_CHECK st_ALLOW_ENV st_ALLOW_FILES h492 n0 Z492 F519 F520) (tw_25 hw) (tw_26 hw) (notFace_of_selects (args := #[]) (mvT hZ (tw_28 hw))) (tw_28 hw) (tw_27 hw) (tw_3 hw) (tw_29 hw) (by decide) st_CHECK F500 (by rw [hml]; rfl) [(.ref st_FROM)] [] (lenOf pd_0 rfl) rfl rfl (by decide) 0 rfl (by decide) (by decide) (by decide) (dB at_141) 144 rfl (fun r642 T642 L642 X642 q642 => ?_)
       obtain ⟨z642, rfl, f642, Nq642, eq642⟩ := q642
       have N642 := Fr.app N492 Nq642
       dsimp only [oD1, oD2, oD3, oD4]
       refine w_iload X642 hx (1 : Int32) (dB at_144) 146 rfl rfl ?_
       refine w_icmp_ne X642 hx z642.toInt 1 rfl (by decide) (dB at_146) 153 149 (fun c643 => ?_) (fun c643 => ?_)
       ·exfalso; omega
       ·refine w_iconst X642 hx (dB at_149) 150 rfl (1 : Int32) (by decide) ?_
        refine w_goto X642 hx (dB at_150) 154 ?_
        refine w_retN X642 hx hlk (t := .boolean) hret (by simp) (dB at_154) (by decide) (by decide) ?_
        rw [eq642]
        exact ⟨rfl, N642⟩
   ·obtain rfl : v525 = (1 : Int32) := eqI (s638.trans (by decide))
    have z638 : (1 : Int32).toInt = 1 := by decide
    refine w_iload X492 hx (1 : Int32) (dB at_93) 95 rfl rfl ?_
    refine w_iconst X492 hx (dB at_95) 96 rfl (4 : Int32) (by decide) ?_
    refine w_icmp_ge X492 hx 1 4 (by decide) (by decide) (dB at_96) 106 99 (fun c644 => ?_) (fun c644 => ?_)
    ·exfalso; omega
    ·refine w_aloadN X492 hx (.ref a207) (dB at_99) 100 rfl rfl rfl ?_
     refine w_iload X492 hx (1 : Int32) (dB at_100) 102 rfl rfl ?_
     refine w_aaload X492 hx hZ e492 F522 ⟨by decide, by decide⟩ (j := (1 : Int32)) (v := (.ref st_TO)) rfl (dB at_102) 103 rfl ?_
     refine w_goto X492 hx (dB at_103) 107 ?_
     refine w_astore X492 hx (dB at_107) 109 rfl rfl #[.val (.int xc), .val (.int xo), .val (.ref a54), .val (.ref a207), .val (.ref a365), .val (.int (3 : Int32)), .val (.int (1 : Int32)), .val (.ref st_TO), .unset] rfl ?_
     refine w_iload X492 hx (1 : Int32) (dB at_109) 111 rfl rfl ?_
     refine w_iconst X492 hx (dB at_111) 112 rfl (4 : Int32) (by decide) ?_
     refine w_icmp_ge X492 hx 1 4 (by decide) (by decide) (dB at_112) 132 115 (fun c645 => ?_) (fun c645 => ?_)
     ·exfalso; omega
     ·refine w_aload X492 hx (.ref a365) (dB at_115) 117 rfl rfl rfl ?_
      refine w_iload X492 hx (3 : Int32) (dB at_117) 119 rfl rfl ?_
      refine w_iaload X492 hx hZ e492 F523 ⟨by decide, by decide⟩ (j := (3 : Int32)) (v := (.int (13 : Int32))) rfl (dB at_119) 120 rfl ?_
      refine w_iload X492 hx (1 : Int32) (dB at_120) 122 rfl rfl ?_
      refine w_ishr X492 hx (dB at_122) 123 rfl (show (6 : Int32) = (13 : Int32) >>> ((1 : Int32) &&& 31) from by decide) ?_
      refine w_iconst X492 hx (dB at_123) 124 rfl (1 : Int32) (by decide) ?_
      refine w_iand X492 hx (dB at_124) 125 rfl (show (0 : Int32) = (6 : Int32) &&& (1 : Int32) from by decide) ?_
      refine w_if_eq X492 hx 0 (by decide) (dB at_125) 132 128 (fun c646 => ?_) (fun c646 => ?_)
      ·refine w_iconst X492 hx (dB at_132) 133 rfl (0 : Int32) (by decide) ?_
       refine w_istore X492 hx (dB at_133) 135 rfl #[.val (.int xc), .val (.int xo), .val (.ref a54), .val (.ref a207), .val (.ref a365), .val (.int (3 : Int32)), .val (.int (1 : Int32)), .val (.ref st_TO), .val (.int (0 : Int32))] rfl ?_
       refine w_aloadN X492 hx (.ref a54) (dB at_135) 136 rfl rfl rfl ?_
       refine w_iload X492 hx (3 : Int32) (dB at_136) 138 rfl rfl ?_
       refine w_aaload X492 hx hZ e492 F521 ⟨by decide, by decide⟩ (j := (3 : Int32)) (v := (.ref st_CHECK)) rfl (dB at_138) 139 rfl ?_
       refine w_aload X492 hx (.ref st_TO) (dB at_139) 141 rfl rfl rfl ?_
       refine w_virt X492 hx hZ hown e492 (rm1l3x l Z a0 hw [] st_CHECK st_TO oa_CHECK ko_CHECK st_FROM st_ALLOW_ENV st_ALLOW_FILES h492 n0 Z492 F519 F520 (by exact (Fld.ne F509 F512 (by decide))) (by exact (Fld.ne F511 F512 (by decide))) (by exact (Fld.ne F510 F512 (by decide)))) (tw_25 hw) (tw_26 hw) (notFace_of_selects (args := #[]) (mvT hZ (tw_28 hw))) (tw_28 hw) (tw_27 hw) (tw_3 hw) (tw_29 hw) (by decide) st_CHECK F500 (by rw [hml]; rfl) [(.ref st_TO)] [] (lenOf pd_0 rfl) rfl rfl (by decide) 0 rfl (by decide) (by decide) (by decide) (dB at_141) 144 rfl (fun r647 T647 L647 X647 q647 => ?_)
       obtain ⟨z647, rfl, f647, Nq647, eq647⟩ := q647
       have N647 := Fr.app N492 Nq647
       dsimp only [oD1, oD2, oD3, oD4]
       refine w_iload X647 hx (0 : Int32) (dB at_144) 146 rfl rfl ?_
       refine w_icmp_ne X647 hx z647.toInt 0 rfl (by decide) (dB at_146) 153 149 (fun c648 => ?_) (fun c648 => ?_)
       ·exfalso; omega
       ·refine w_iconst X647 hx (dB at_149) 150 rfl (1 : Int32) (by decide) ?_
        refine w_goto X647 hx (dB at_150) 154 ?_
        refine w_retN X647 hx hlk (t := .boolean) hret (by simp) (dB at_154) (by decide) (by decide) ?_
        rw [eq647]
        exact ⟨rfl, N647⟩
      ·exfalso; omega
   ·obtain rfl : v525 = (2 : Int32) := eqI (s638.trans (by decide))
    have z638 : (2 : Int32).toInt = 2 := by decide
    refine w_iload X492 hx (2 : Int32) (dB at_93) 95 rfl rfl ?_
    refine w_iconst X492 hx (dB at_95) 96 rfl (4 : Int32) (by decide) ?_
    refine w_icmp_ge X492 hx 2 4 (by decide) (by decide) (dB at_96) 106 99 (fun c649 => ?_) (fun c649 => ?_)
    ·exfalso; omega
    ·refine w_aloadN X492 hx (.ref a207) (dB at_99) 100 rfl rfl rfl ?_
     refine w_iload X492 hx (2 : Int32) (dB at_100) 102 rfl rfl ?_
     refine w_aaload X492 hx hZ e492 F522 ⟨by decide, by decide⟩ (j := (2 : Int32)) (v := (.ref st_ALLOW_ENV)) rfl (dB at_102) 103 rfl ?_
     refine w_goto X492 hx (dB at_103) 107 ?_
     refine w_astore X492 hx (dB at_107) 109 rfl rfl #[.val (.int xc), .val (.int xo), .val (.ref a54), .val (.ref a207), .val (.ref a365), .val (.int (3 : Int32)), .val (.int (2 : Int32)), .val (.ref st_ALLOW_ENV), .unset] rfl ?_
     refine w_iload X492 hx (2 : Int32) (dB at_109) 111 rfl rfl ?_
     refine w_iconst X492 hx (dB at_111) 112 rfl (4 : Int32) (by decide) ?_
     refine w_icmp_ge X492 hx 2 4 (by decide) (by decide) (dB at_112) 132 115 (fun c650 => ?_) (fun c650 => ?_)
     ·exfalso; omega
     ·refine w_aload X492 hx (.ref a365) (dB at_115) 117 rfl rfl rfl ?_
      refine w_iload X492 hx (3 : Int32) (dB at_117) 119 rfl rfl ?_
      refine w_iaload X492 hx hZ e492 F523 ⟨by decide, by decide⟩ (j := (3 : Int32)) (v := (.int (13 : Int32))) rfl (dB at_119) 120 rfl ?_
      refine w_iload X492 hx (2 : Int32) (dB at_120) 122 rfl rfl ?_
      refine w_ishr X492 hx (dB at_122) 123 rfl (show (3 : Int32) = (13 : Int32) >>> ((2 : Int32) &&& 31) from by decide) ?_
      refine w_iconst X492 hx (dB at_123) 124 rfl (1 : Int32) (by decide) ?_
      refine w_iand X492 hx (dB at_124) 125 rfl (show (1 : Int32) = (3 : Int32) &&& (1 : Int32) from by decide) ?_
      refine w_if_eq X492 hx 1 (by decide) (dB at_125) 132 128 (fun c651 => ?_) (fun c651 => ?_)
      ·exfalso; omega
      ·refine w_iconst X492 hx (dB at_128) 129 rfl (1 : Int32) (by decide) ?_
       refine w_goto X492 hx (dB at_129) 133 ?_
       refine w_istore X492 hx (dB at_133) 135 rfl #[.val (.int xc), .val (.int xo), .val (.ref a54), .val (.ref a207), .val (.ref a365), .val (.int (3 : Int32)), .val (.int (2 : Int32)), .val (.ref st_ALLOW_ENV), .val (.int (1 : Int32))] rfl ?_
       refine w_aloadN X492 hx (.ref a54) (dB at_135) 136 rfl rfl rfl ?_
       refine w_iload X492 hx (3 : Int32) (dB at_136) 138 rfl rfl ?_
       refine w_aaload X492 hx hZ e492 F521 ⟨by decide, by decide⟩ (j := (3 : Int32)) (v := (.ref st_CHECK)) rfl (dB at_138) 139 rfl ?_
       refine w_aload X492 hx (.ref st_ALLOW_ENV) (dB at_139) 141 rfl rfl rfl ?_
       refine w_virt X492 hx hZ hown e492 (rm1l3j1 l Z a0 hw [] st_CHECK st_ALLOW_ENV oa_CHECK ko_CHECK st_FROM st_ALLOW_FILES h492 n0 Z492 F519 F520 (by exact (Fld.ne F509 F511 (by decide)))) (tw_25 hw) (tw_26 hw) (notFace_of_selects (args := #[]) (mvT hZ (tw_28 hw))) (tw_28 hw) (tw_27 hw) (tw_3 hw) (tw_29 hw) (by decide) st_CHECK F500 (by rw [hml]; rfl) [(.ref st_ALLOW_ENV)] [] (lenOf pd_0 rfl) rfl rfl (by decide) 0 rfl (by decide) (by decide) (by decide) (dB at_141) 144 rfl (fun r652 T652 L652 X652 q652 => ?_)
       obtain ⟨z652, rfl, f652, Nq652, eq652⟩ := q652
       have N652 := Fr.app N492 Nq652
       dsimp only [oD1, oD2, oD3, oD4]
       refine w_iload X652 hx (1 : Int32) (dB at_144) 146 rfl rfl ?_
       refine w_icmp_ne X652 hx z652.toInt 1 rfl (by decide) (dB at_146) 153 149 (fun c653 => ?_) (fun c653 => ?_)
       ·exfalso; omega
       ·refine w_iconst X652 hx (dB at_149) 150 rfl (1 : Int32) (by decide) ?_
        refine w_goto X652 hx (dB at_150) 154 ?_
        refine w_retN X652 hx hlk (t := .boolean) hret (by simp) (dB at_154) (by decide) (by decide) ?_
        rw [eq652]
        exact ⟨rfl, N652⟩
   ·obtain rfl : v525 = (3 : Int32) := eqI (s638.trans (by decide))
    have z638 : (3 : Int32).toInt = 3 := by decide
    refine w_iload X492 hx (3 : Int32) (dB at_93) 95 rfl rfl ?_
    refine w_iconst X492 hx (dB at_95) 96 rfl (4 : Int32) (by decide) ?_
    refine w_icmp_ge X492 hx 3 4 (by decide) (by decide) (dB at_96) 106 99 (fun c654 => ?_) (fun c654 => ?_)
    ·exfalso; omega
    ·refine w_aloadN X492 hx (.ref a207) (dB at_99) 100 rfl rfl rfl ?_
     refine w_iload X492 hx (3 : Int32) (dB at_100) 102 rfl rfl ?_
     refine w_aaload X492 hx hZ e492 F522 ⟨by decide, by decide⟩ (j := (3 : Int32)) (v := (.ref st_ALLOW_FILES)) rfl (dB at_102) 103 rfl ?_
     refine w_goto X492 hx (dB at_103) 107 ?_
     refine w_astore X492 hx (dB at_107) 109 rfl rfl #[.val (.int xc), .val (.int xo), .val (.ref a54), .val (.ref a207), .val (.ref a365), .val (.int (3 : Int32)), .val (.int (3 : Int32)), .val (.ref st_ALLOW_FILES), .unset] rfl ?_
     refine w_iload X492 hx (3 : Int32) (dB at_109) 111 rfl rfl ?_
     refine w_iconst X492 hx (dB at_111) 112 rfl (4 : Int32) (by decide) ?_
     refine w_icmp_ge X492 hx 3 4 (by decide) (by decide) (dB at_112) 132 115 (fun c655 => ?_) (fun c655 => ?_)
     ·exfalso; omega
     ·refine w_aload X492 hx (.ref a365) (dB at_115) 117 rfl rfl rfl ?_
      refine w_iload X492 hx (3 : Int32) (dB at_117) 119 rfl rfl ?_
      refine w_iaload X492 hx hZ e492 F523 ⟨by decide, by decide⟩ (j := (3 : Int32)) (v := (.int (13 : Int32))) rfl (dB at_119) 120 rfl ?_
      refine w_iload X492 hx (3 : Int32) (dB at_120) 122 rfl rfl ?_
      refine w_ishr X492 hx (dB at_122) 123 rfl (show (1 : Int32) = (13 : Int32) >>> ((3 : Int32) &&& 31) from by decide) ?_
      refine w_iconst X492 hx (dB at_123) 124 rfl (1 : Int32) (by decide) ?_
      refine w_iand X492 hx (dB at_124) 125 rfl (show (1 : Int32) = (1 : Int32) &&& (1 : Int32) from by decide) ?_
      refine w_if_eq X492 hx 1 (by decide) (dB at_125) 132 128 (fun c656 => ?_) (fun c656 => ?_)
      ·exfalso; omega
      ·refine w_iconst X492 hx (dB at_128) 129 rfl (1 : Int32) (by decide) ?_
       refine w_goto X492 hx (dB at_129) 133 ?_
       refine w_istore X492 hx (dB at_133) 135 rfl #[.val (.int xc), .val (.int xo), .val (.ref a54), .val (.ref a207), .val (.ref a365), .val (.int (3 : Int32)), .val (.int (3 : Int32)), .val (.ref st_ALLOW_FILES), .val (.int (1 : Int32))] rfl ?_
       refine w_aloadN X492 hx (.ref a54) (dB at_135) 136 rfl rfl rfl ?_
       refine w_iload X492 hx (3 : Int32) (dB at_136) 138 rfl rfl ?_
       refine w_aaload X492 hx hZ e492 F521 ⟨by decide, by decide⟩ (j := (3 : Int32)) (v := (.ref st_CHECK)) rfl (dB at_138) 139 rfl ?_
       refine w_aload X492 hx (.ref st_ALLOW_FILES) (dB at_139) 141 rfl rfl rfl ?_
       refine w_virt X492 hx hZ hown e492 (rm1l3j2 l Z a0 hw [] st_CHECK st_ALLOW_FILES oa_CHECK ko_CHECK st_FROM st_ALLOW_ENV h492 n0 Z492 F519 F520 (by exact (Fld.ne F509 F510 (by decide))) (by exact (Fld.ne F511 F510 (by decide)))) (tw_25 hw) (tw_26 hw) (notFace_of_selects (args := #[]) (mvT hZ (tw_28 hw))) (tw_28 hw) (tw_27 hw) (tw_3 hw) (tw_29 hw) (by decide) st_CHECK F500 (by rw [hml]; rfl) [(.ref st_ALLOW_FILES)] [] (lenOf pd_0 rfl) rfl rfl (by decide) 0 rfl (by decide) (by decide) (by decide) (dB at_141) 144 rfl (fun r657 T657 L657 X657 q657 => ?_)
       obtain ⟨z657, rfl, f657, Nq657, eq657⟩ := q657
       have N657 := Fr.app N492 Nq657
       dsimp only [oD1, oD2, oD3, oD4]
       refine w_iload X657 hx (1 : Int32) (dB at_144) 146 rfl rfl ?_
       refine w_icmp_ne X657 hx z657.toInt 1 rfl (by decide) (dB at_146) 153 149 (fun c658 => ?_) (fun c658 => ?_)
       ·exfalso; omega
       ·refine w_iconst X657 hx (dB at_149) 150 rfl (1 : Int32) (by decide) ?_
        refine w_goto X657 hx (dB at_150) 154 ?_
        refine w_retN X657 hx hlk (t := .boolean) hret (by simp) (dB at_154) (by decide) (by decide) ?_
        rw [eq657]
        exact ⟨rfl, N657⟩
   ·obtain rfl : v525 = (4 : Int32) := eqI (s638.trans (by decide))
    have z638 : (4 : Int32).toInt = 4 := by decide
    refine w_iload X492 hx (4 : Int32) (dB at_93) 95 rfl rfl ?_
    refine w_iconst X492 hx (dB at_95) 96 rfl (4 : Int32) (by decide) ?_
    refine w_icmp_ge X492 hx 4 4 (by decide) (by decide) (dB at_96) 106 99 (fun c659 => ?_) (fun c659 => ?_)
    ·refine w_null X492 hx (dB at_106) 107 rfl ?_
     refine w_astore X492 hx (dB at_107) 109 rfl rfl #[.val (.int xc), .val (.int xo), .val (.ref a54), .val (.ref a207), .val (.ref a365), .val (.int (3 : Int32)), .val (.int (4 : Int32)), .val .null, .unset] rfl ?_
     refine w_iload X492 hx (4 : Int32) (dB at_109) 111 rfl rfl ?_
     refine w_iconst X492 hx (dB at_111) 112 rfl (4 : Int32) (by decide) ?_
     refine w_icmp_ge X492 hx 4 4 (by decide) (by decide) (dB at_112) 132 115 (fun c660 => ?_) (fun c660 => ?_)
     ·refine w_iconst X492 hx (dB at_132) 133 rfl (0 : Int32) (by decide) ?_
      refine w_istore X492 hx (dB at_133) 135 rfl #[.val (.int xc), .val (.int xo), .val (.ref a54), .val (.ref a207), .val (.ref a365), .val (.int (3 : Int32)), .val (.int (4 : Int32)), .val .null, .val (.int (0 : Int32))] rfl ?_
      refine w_aloadN X492 hx (.ref a54) (dB at_135) 136 rfl rfl rfl ?_
      refine w_iload X492 hx (3 : Int32) (dB at_136) 138 rfl rfl ?_
      refine w_aaload X492 hx hZ e492 F521 ⟨by decide, by decide⟩ (j := (3 : Int32)) (v := (.ref st_CHECK)) rfl (dB at_138) 139 rfl ?_
      refine w_aload X492 hx .null (dB at_139) 141 rfl rfl rfl ?_
      refine w_virt X492 hx hZ hown e492 (rm1l3n l Z a0 hw [] st_CHECK oa_CHECK ko_CHECK st_FROM st_ALLOW_ENV st_ALLOW_FILES h492 n0 Z492 F519 F520) (tw_25 hw) (tw_26 hw) (notFace_of_selects (args := #[]) (mvT hZ (tw_28 hw))) (tw_28 hw) (tw_27 hw) (tw_3 hw) (tw_29 hw) (by decide) st_CHECK F500 (by rw [hml]; rfl) [.null] [] (lenOf pd_0 rfl) rfl rfl (by decide) 0 rfl (by decide) (by decide) (by decide) (dB at_141) 144 rfl (fun r661 T661 L661 X661 q661 => ?_)
      obtain ⟨z661, rfl, f661, Nq661, eq661⟩ := q661
      have N661 := Fr.app N492 Nq661
      dsimp only [oD1, oD2, oD3, oD4]
      refine w_iload X661 hx (0 : Int32) (dB at_144) 146 rfl rfl ?_
      refine w_icmp_ne X661 hx z661.toInt 0 rfl (by decide) (dB at_146) 153 149 (fun c662 => ?_) (fun c662 => ?_)
      ·exfalso; omega
      ·refine w_iconst X661 hx (dB at_149) 150 rfl (1 : Int32) (by decide) ?_
       refine w_goto X661 hx (dB at_150) 154 ?_
       refine w_retN X661 hx hlk (t := .boolean) hret (by simp) (dB at_154) (by decide) (by decide) ?_
       rw [eq661]
       exact ⟨rfl, N661⟩
     ·exfalso; omega
    ·exfalso; omega
   ·obtain rfl : v525 = (5 : Int32) := eqI (s638.trans (by decide))
    have z638 : (5 : Int32).toInt = 5 := by decide
    refine w_iload X492 hx (5 : Int32) (dB at_93) 95 rfl rfl ?_
    refine w_iconst X492 hx (dB at_95) 96 rfl (4 : Int32) (by decide) ?_
    refine w_icmp_ge X492 hx 5 4 (by decide) (by decide) (dB at_96) 106 99 (fun c663 => ?_) (fun c663 => ?_)
    ·refine w_null X492 hx (dB at_106) 107 rfl ?_
     refine w_astore X492 hx (dB at_107) 109 rfl rfl #[.val (.int xc), .val (.int xo), .val (.ref a54), .val (.ref a207), .val (.ref a365), .val (.int (3 : Int32)), .val (.int (5 : Int32)), .val .null, .unset] rfl ?_
     refine w_iload X492 hx (5 : Int32) (dB at_109) 111 rfl rfl ?_
     refine w_iconst X492 hx (dB at_111) 112 rfl (4 : Int32) (by decide) ?_
     refine w_icmp_ge X492 hx 5 4 (by decide) (by decide) (dB at_112) 132 115 (fun c664 => ?_) (fun c664 => ?_)
     ·refine w_iconst X492 hx (dB at_132) 133 rfl (0 : Int32) (by decide) ?_
      refine w_istore X492 hx (dB at_133) 135 rfl #[.val (.int xc), .val (.int xo), .val (.ref a54), .val (.ref a207), .val (.ref a365), .val (.int (3 : Int32)), .val (.int (5 : Int32)), .val .null, .val (.int (0 : Int32))] rfl ?_
      refine w_aloadN X492 hx (.ref a54) (dB at_135) 136 rfl rfl rfl ?_
      refine w_iload X492 hx (3 : Int32) (dB at_136) 138 rfl rfl ?_
      refine w_aaload X492 hx hZ e492 F521 ⟨by decide, by decide⟩ (j := (3 : Int32)) (v := (.ref st_CHECK)) rfl (dB at_138) 139 rfl ?_
      refine w_aload X492 hx .null (dB at_139) 141 rfl rfl rfl ?_
      refine w_virt X492 hx hZ hown e492 (rm1l3n l Z a0 hw [] st_CHECK oa_CHECK ko_CHECK st_FROM st_ALLOW_ENV st_ALLOW_FILES h492 n0 Z492 F519 F520) (tw_25 hw) (tw_26 hw) (notFace_of_selects (args := #[]) (mvT hZ (tw_28 hw))) (tw_28 hw) (tw_27 hw) (tw_3 hw) (tw_29 hw) (by decide) st_CHECK F500 (by rw [hml]; rfl) [.null] [] (lenOf pd_0 rfl) rfl rfl (by decide) 0 rfl (by decide) (by decide) (by decide) (dB at_141) 144 rfl (fun r665 T665 L665 X665 q665 => ?_)
      obtain ⟨z665, rfl, f665, Nq665, eq665⟩ := q665
      have N665 := Fr.app N492 Nq665
      dsimp only [oD1, oD2, oD3, oD4]
      refine w_iload X665 hx (0 : Int32) (dB at_144) 146 rfl rfl ?_
      refine w_icmp_ne X665 hx z665.toInt 0 rfl (by decide) (dB at_146) 153 149 (fun c666 => ?_) (fun c666 => ?_)
      ·exfalso; omega
      ·refine w_iconst X665 hx (dB at_149) 150 rfl (1 : Int32) (by decide) ?_
       refine w_goto X665 hx (dB at_150) 154 ?_
       refine w_retN X665 hx hlk (t := .boolean) hret (by simp) (dB at_154) (by decide) (by decide) ?_
       rw [eq665]
       exact ⟨rfl, N665⟩
     ·exfalso; omega
    ·exfalso; omega
   ·obtain rfl : v525 = (6 : Int32) := eqI (s638.trans (by decide))
    have z638 : (6 : Int32).toInt = 6 := by decide
    refine w_iload X492 hx (6 : Int32) (dB at_93) 95 rfl rfl ?_
    refine w_iconst X492 hx (dB at_95) 96 rfl (4 : Int32) (by decide) ?_
    refine w_icmp_ge X492 hx 6 4 (by decide) (by decide) (dB at_96) 106 99 (fun c667 => ?_) (fun c667 => ?_)
    ·refine w_null X492 hx (dB at_106) 107 rfl ?_
     refine w_astore X492 hx (dB at_107) 109 rfl rfl #[.val (.int xc), .val (.int xo), .val (.ref a54), .val (.ref a207), .val (.ref a365), .val (.int (3 : Int32)), .val (.int (6 : Int32)), .val .null, .unset] rfl ?_
     refine w_iload X492 hx (6 : Int32) (dB at_109) 111 rfl rfl ?_
     refine w_iconst X492 hx (dB at_111) 112 rfl (4 : Int32) (by decide) ?_
     refine w_icmp_ge X492 hx 6 4 (by decide) (by decide) (dB at_112) 132 115 (fun c668 => ?_) (fun c668 => ?_)
     ·refine w_iconst X492 hx (dB at_132) 133 rfl (0 : Int32) (by decide) ?_
      refine w_istore X492 hx (dB at_133) 135 rfl #[.val (.int xc), .val (.int xo), .val (.ref a54), .val (.ref a207), .val (.ref a365), .val (.int (3 : Int32)), .val (.int (6 : Int32)), .val .null, .val (.int (0 : Int32))] rfl ?_
      refine w_aloadN X492 hx (.ref a54) (dB at_135) 136 rfl rfl rfl ?_
      refine w_iload X492 hx (3 : Int32) (dB at_136) 138 rfl rfl ?_
      refine w_aaload X492 hx hZ e492 F521 ⟨by decide, by decide⟩ (j := (3 : Int32)) (v := (.ref st_CHECK)) rfl (dB at_138) 139 rfl ?_
      refine w_aload X492 hx .null (dB at_139) 141 rfl rfl rfl ?_
      refine w_virt X492 hx hZ hown e492 (rm1l3n l Z a0 hw [] st_CHECK oa_CHECK ko_CHECK st_FROM st_ALLOW_ENV st_ALLOW_FILES h492 n0 Z492 F519 F520) (tw_25 hw) (tw_26 hw) (notFace_of_selects (args := #[]) (mvT hZ (tw_28 hw))) (tw_28 hw) (tw_27 hw) (tw_3 hw) (tw_29 hw) (by decide) st_CHECK F500 (by rw [hml]; rfl) [.null] [] (lenOf pd_0 rfl) rfl rfl (by decide) 0 rfl (by decide) (by decide) (by decide) (dB at_141) 144 rfl (fun r669 T669 L669 X669 q669 => ?_)
      obtain ⟨z669, rfl, f669, Nq669, eq669⟩ := q669
      have N669 := Fr.app N492 Nq669
      dsimp only [oD1, oD2, oD3, oD4]
      refine w_iload X669 hx (0 : Int32) (dB at_144) 146 rfl rfl ?_
      refine w_icmp_ne X669 hx z669.toInt 0 rfl (by decide) (dB at_146) 153 149 (fun c670 => ?_) (fun c670 => ?_)
      ·exfalso; omega
      ·refine w_iconst X669 hx (dB at_149) 150 rfl (1 : Int32) (by decide) ?_
       refine w_goto X669 hx (dB at_150) 154 ?_
       refine w_retN X669 hx hlk (t := .boolean) hret (by simp) (dB at_154) (by decide) (by decide) ?_
       rw [eq669]
       exact ⟨rfl, N669⟩
     ·exfalso; omega
    ·exfalso; omega
   ·obtain rfl : v525 = (7 : Int32) := eqI (s638.trans (by decide))
    have z638 : (7 : Int32).toInt = 7 := by decide
    refine w_iload X492 hx (7 : Int32) (dB at_93) 95 rfl rfl ?_
    refine w_iconst X492 hx (dB at_95) 96 rfl (4 : Int32) (by decide) ?_
    refine w_icmp_ge X492 hx 7 4 (by decide) (by decide) (dB at_96) 106 99 (fun c671 => ?_) (fun c671 => ?_)
    ·refine w_null X492 hx (dB at_106) 107 rfl ?_
     refine w_astore X492 hx (dB at_107) 109 rfl rfl #[.val (.int xc), .val (.int xo), .val (.ref a54), .val (.ref a207), .val (.ref a365), .val (.int (3 : Int32)), .val (.int (7 : Int32)), .val .null, .unset] rfl ?_
     refine w_iload X492 hx (7 : Int32) (dB at_109) 111 rfl rfl ?_
     refine w_iconst X492 hx (dB at_111) 112 rfl (4 : Int32) (by decide) ?_
     refine w_icmp_ge X492 hx 7 4 (by decide) (by decide) (dB at_112) 132 115 (fun c672 => ?_) (fun c672 => ?_)
     ·refine w_iconst X492 hx (dB at_132) 133 rfl (0 : Int32) (by decide) ?_
      refine w_istore X492 hx (dB at_133) 135 rfl #[.val (.int xc), .val (.int xo), .val (.ref a54), .val (.ref a207), .val (.ref a365), .val (.int (3 : Int32)), .val (.int (7 : Int32)), .val .null, .val (.int (0 : Int32))] rfl ?_
      refine w_aloadN X492 hx (.ref a54) (dB at_135) 136 rfl rfl rfl ?_
      refine w_iload X492 hx (3 : Int32) (dB at_136) 138 rfl rfl ?_
      refine w_aaload X492 hx hZ e492 F521 ⟨by decide, by decide⟩ (j := (3 : Int32)) (v := (.ref st_CHECK)) rfl (dB at_138) 139 rfl ?_
      refine w_aload X492 hx .null (dB at_139) 141 rfl rfl rfl ?_
      refine w_virt X492 hx hZ hown e492 (rm1l3n l Z a0 hw [] st_CHECK oa_CHECK ko_CHECK st_FROM st_ALLOW_ENV st_ALLOW_FILES h492 n0 Z492 F519 F520) (tw_25 hw) (tw_26 hw) (notFace_of_selects (args := #[]) (mvT hZ (tw_28 hw))) (tw_28 hw) (tw_27 hw) (tw_3 hw) (tw_29 hw) (by decide) st_CHECK F500 (by rw [hml]; rfl) [.null] [] (lenOf pd_0 rfl) rfl rfl (by decide) 0 rfl (by decide) (by decide) (by decide) (dB at_141) 144 rfl (fun r673 T673 L673 X673 q673 => ?_)
      obtain ⟨z673, rfl, f673, Nq673, eq673⟩ := q673
      have N673 := Fr.app N492 Nq673
      dsimp only [oD1, oD2, oD3, oD4]
      refine w_iload X673 hx (0 : Int32) (dB at_144) 146 rfl rfl ?_
      refine w_icmp_ne X673 hx z673.toInt 0 rfl (by decide) (dB at_146) 153 149 (fun c674 => ?_) (fun c674 => ?_)
      ·exfalso; omega
      ·refine w_iconst X673 hx (dB at_149) 150 rfl (1 : Int32) (by decide) ?_
       refine w_goto X673 hx (dB at_150) 154 ?_
       refine w_retN X673 hx hlk (t := .boolean) hret (by simp) (dB at_154) (by decide) (by decide) ?_
       rw [eq673]
       exact ⟨rfl, N673⟩
     ·exfalso; omega
    ·exfalso; omega
set_option maxRecDepth 65536 in
set_option maxHeartbeats 40000000 in
theorem comes_1 {Post : Tables → Env → Array Value → State → Outcome → State → Prop} (hpost : ∀ tb e args s v u, (limb_1_1.after args s (.returned v) u = true ∧ limb_1_2.after args s (.returned v) u = true ∧ True) → FrameEnd s (.returned v) u (Jvm.fieldLocs frame_1_writes args s ++ Jvm.arrayLocs frame_1_arrays args s ++ Jvm.staticLocs frame_1_statics s) 16 128 → Post tb e args s (.returned v) u) :
    ArmFor flags0 classFile x code maxLocals ret World_1 tables_1 room_1 Calls_1 rest_1 Pre_1 Post := by
  intro l hfl _ _ p e ha hc hk s m args below hf hA hF happ hP
  obtain ⟨hcalls, hrest, hpre⟩ := hP
  obtain ⟨-, -, -, hnamed, -, -, -, hat⟩ := (Spec.applies_iff hf).mp happ
  obtain ⟨hg, hn⟩ := and_e (Cond.before_iff.mp (show (Jvm.Cond.and given_1 narrow_1).before args s = true from hpre))
  obtain ⟨gg1, gg2⟩ := and_e hg
  obtain ⟨gg3, gg4⟩ := and_e gg2
  obtain ⟨w0, w1, rfl⟩ : ∃ w0 w1 : Value, args = #[w0, w1] := by
    have hs : args.size = 2 := by simpa [Cond.value, given_1] using gg1
    obtain ⟨L⟩ := args
    match L, hs with
    | [w0, w1], _ => exact ⟨w0, w1, rfl⟩
  have hw := fun d (hd : d ∈ tables_1) => atoms_spec (ws := Jvm.Cond.code x code maxLocals ret :: tables_1) hat d (List.mem_cons_of_mem _ hd)
  have hfit : Fit s := fun {y c} hc i hi => by
    obtain ⟨ha, rfl⟩ := Array.getElem?_eq_some_iff.mp hc
    have q := List.all_eq_true.mp ((Array.all_eq_true_iff_forall_mem.mp hF) _ (Array.getElem_mem ha)) i (List.mem_range.mpr hi)
    simpa [Array.getElem?_eq_getElem hi] using q
  obtain ⟨i0, ei0⟩ := is_v gg3
  obtain rfl : w0 = (.int i0) := Option.some.inj ei0
  obtain ⟨i1, ei1⟩ := is_v gg4
  obtain rfl : w1 = (.int i1) := Option.some.inj ei1
  obtain ⟨ns1, ns2⟩ := and_e hn
  obtain ⟨ns3, ns4⟩ := and_e ns2
  obtain ⟨ns5, ns6⟩ := and_e ns4
  obtain ⟨ns7, ns8⟩ := and_e ns6
  obtain ⟨ns9, ns10⟩ := and_e ns8
  obtain ⟨ns11, ns12⟩ := and_e ns10
  obtain ⟨ns13, ns14⟩ := and_e ns12
  obtain ⟨ns15, ns16⟩ := and_e ns14
  obtain ⟨ns17, ns18⟩ := and_e ns16
  obtain ⟨ns19, ns20⟩ := and_e ns18
  obtain ⟨ns21, ns22⟩ := and_e ns20
  obtain ⟨ns23, ns24⟩ := and_e ns22
  obtain ⟨ns25, ns26⟩ := and_e ns24
  obtain ⟨ns27, ns28⟩ := and_e ns26
  obtain ⟨ns29, ns30⟩ := and_e ns28
  obtain ⟨ns31, ns32⟩ := and_e ns30
  obtain ⟨ns33, ns34⟩ := and_e ns32
  obtain ⟨ns35, ns36⟩ := and_e ns34
  obtain ⟨ns37, ns38⟩ := and_e ns36
  obtain ⟨ns39, ns40⟩ := and_e ns38
  obtain ⟨ns41, ns42⟩ := and_e ns40
  obtain ⟨ns43, ns44⟩ := and_e ns42
  obtain ⟨ns45, ns46⟩ := and_e ns44
  obtain ⟨ns47, ns48⟩ := and_e ns46
  obtain ⟨ns49, ns50⟩ := and_e ns48
  obtain ⟨ns51, ns52⟩ := and_e ns50
  obtain ⟨ns53, ns54⟩ := and_e ns52
  obtain ⟨ns55, ns56⟩ := and_e ns54
  obtain ⟨ns57, ns58⟩ := and_e ns56
  obtain ⟨ns59, ns60⟩ := and_e ns58
  obtain ⟨st_TO_JSON, ev_st_TO_JSON⟩ := exa_v ns1
  have S_st_TO_JSON : Sta s s.heap "com/example/dryope/dryope/cli/Command" "TO_JSON" "Lcom/example/dryope/dryope/cli/Command;" (.ref st_TO_JSON) := Sta.start ev_st_TO_JSON (Or.inr ⟨(tw_3 hw), (tw_4 hw)⟩)
  have E_st_TO_JSON : Exa s s.heap st_TO_JSON "com/example/dryope/dryope/cli/Command" := Exa.start ev_st_TO_JSON ns1
  obtain ⟨st_FROM_JSON, ev_st_FROM_JSON⟩ := exa_v ns3
  have S_st_FROM_JSON : Sta s s.heap "com/example/dryope/dryope/cli/Command" "FROM_JSON" "Lcom/example/dryope/dryope/cli/Command;" (.ref st_FROM_JSON) := Sta.start ev_st_FROM_JSON (Or.inr ⟨(tw_3 hw), (tw_7 hw)⟩)
  have E_st_FROM_JSON : Exa s s.heap st_FROM_JSON "com/example/dryope/dryope/cli/Command" := Exa.start ev_st_FROM_JSON ns3
  obtain ⟨st_FMT, ev_st_FMT⟩ := exa_v ns5
  have S_st_FMT : Sta s s.heap "com/example/dryope/dryope/cli/Command" "FMT" "Lcom/example/dryope/dryope/cli/Command;" (.ref st_FMT) := Sta.start ev_st_FMT (Or.inr ⟨(tw_3 hw), (tw_9 hw)⟩)
  have E_st_FMT : Exa s s.heap st_FMT "com/example/dryope/dryope/cli/Command" := Exa.start ev_st_FMT ns5
  obtain ⟨st_CHECK, ev_st_CHECK⟩ := exa_v ns7
  have S_st_CHECK : Sta s s.heap "com/example/dryope/dryope/cli/Command" "CHECK" "Lcom/example/dryope/dryope/cli/Command;" (.ref st_CHECK) := Sta.start ev_st_CHECK (Or.inr ⟨(tw_3 hw), (tw_11 hw)⟩)
  have E_st_CHECK : Exa s s.heap st_CHECK "com/example/dryope/dryope/cli/Command" := Exa.start ev_st_CHECK ns7
  obtain ⟨st_FROM, ev_st_FROM⟩ := exa_v ns9
  have S_st_FROM : Sta s s.heap "com/example/dryope/dryope/cli/Command$Option" "FROM" "Lcom/example/dryope/dryope/cli/Command$Option;" (.ref st_FROM) := Sta.start ev_st_FROM (Or.inr ⟨(tw_15 hw), (tw_16 hw)⟩)
  have E_st_FROM : Exa s s.heap st_FROM "com/example/dryope/dryope/cli/Command$Option" := Exa.start ev_st_FROM ns9
  obtain ⟨st_TO, ev_st_TO⟩ := exa_v ns11
  have S_st_TO : Sta s s.heap "com/example/dryope/dryope/cli/Command$Option" "TO" "Lcom/example/dryope/dryope/cli/Command$Option;" (.ref st_TO) := Sta.start ev_st_TO (Or.inr ⟨(tw_15 hw), (tw_19 hw)⟩)
  have E_st_TO : Exa s s.heap st_TO "com/example/dryope/dryope/cli/Command$Option" := Exa.start ev_st_TO ns11
  obtain ⟨st_ALLOW_ENV, ev_st_ALLOW_ENV⟩ := exa_v ns13
  have S_st_ALLOW_ENV : Sta s s.heap "com/example/dryope/dryope/cli/Command$Option" "ALLOW_ENV" "Lcom/example/dryope/dryope/cli/Command$Option;" (.ref st_ALLOW_ENV) := Sta.start ev_st_ALLOW_ENV (Or.inr ⟨(tw_15 hw), (tw_21 hw)⟩)
  have E_st_ALLOW_ENV : Exa s s.heap st_ALLOW_ENV "com/example/dryope/dryope/cli/Command$Option" := Exa.start ev_st_ALLOW_ENV ns13
  obtain ⟨st_ALLOW_FILES, ev_st_ALLOW_FILES⟩ := exa_v ns15
  have S_st_ALLOW_FILES : Sta s s.heap "com/example/dryope/dryope/cli/Command$Option" "ALLOW_FILES" "Lcom/example/dryope/dryope/cli/Command$Option;" (.ref st_ALLOW_FILES) := Sta.start ev_st_ALLOW_FILES (Or.inr ⟨(tw_15 hw), (tw_23 hw)⟩)
  have E_st_ALLOW_FILES : Exa s s.heap st_ALLOW_FILES "com/example/dryope/dryope/cli/Command$Option" := Exa.start ev_st_ALLOW_FILES ns15
  have F_ordinal_st_FROM : Fld s s.heap st_FROM cN_3 "ordinal" "I" (.int (0 : Int32)) := Fld.start ((fld_at ev_st_FROM).symm.trans (eqInt_v ns23))
  have F_ordinal_st_ALLOW_FILES : Fld s s.heap st_ALLOW_FILES cN_3 "ordinal" "I" (.int (3 : Int32)) := Fld.start ((fld_at ev_st_ALLOW_FILES).symm.trans (eqInt_v ns25))
  have F_ordinal_st_ALLOW_ENV : Fld s s.heap st_ALLOW_ENV cN_3 "ordinal" "I" (.int (2 : Int32)) := Fld.start ((fld_at ev_st_ALLOW_ENV).symm.trans (eqInt_v ns29))
  have F_ordinal_st_TO : Fld s s.heap st_TO cN_3 "ordinal" "I" (.int (1 : Int32)) := Fld.start ((fld_at ev_st_TO).symm.trans (eqInt_v ns39))
  obtain ⟨oa_TO_JSON, eo_TO_JSON⟩ := arr_v ns17
  have F_options_st_TO_JSON : Fld s s.heap st_TO_JSON cN_0 "options" cN_1 (.ref oa_TO_JSON) := Fld.start ((fld_at ev_st_TO_JSON).symm.trans eo_TO_JSON)
  obtain ⟨ko_TO_JSON, V_oa_TO_JSON⟩ : ∃ k, Arv s s.heap oa_TO_JSON k (.object cN_2) (3 : Int32) [(.ref st_FROM), (.ref st_ALLOW_ENV), (.ref st_ALLOW_FILES)] .null := arr_of hfit eo_TO_JSON ns17 ns19 (by decide) (show Int32.toNatClampNeg (3 : Int32) = 3 from by decide) (fun cl hc => ⟨elem_of eo_TO_JSON ns21 ev_st_FROM hc, elem_of eo_TO_JSON ns27 ev_st_ALLOW_ENV hc, elem_of eo_TO_JSON ns31 ev_st_ALLOW_FILES hc, trivial⟩)
  obtain ⟨oa_FMT, eo_FMT⟩ := arr_v ns33
  have F_options_st_FMT : Fld s s.heap st_FMT cN_0 "options" cN_1 (.ref oa_FMT) := Fld.start ((fld_at ev_st_FMT).symm.trans eo_FMT)
  obtain ⟨ko_FMT, V_oa_FMT⟩ : ∃ k, Arv s s.heap oa_FMT k (.object cN_2) (4 : Int32) [(.ref st_FROM), (.ref st_TO), (.ref st_ALLOW_ENV), (.ref st_ALLOW_FILES)] .null := arr_of hfit eo_FMT ns33 ns35 (by decide) (show Int32.toNatClampNeg (4 : Int32) = 4 from by decide) (fun cl hc => ⟨elem_of eo_FMT ns37 ev_st_FROM hc, elem_of eo_FMT ns41 ev_st_TO hc, elem_of eo_FMT ns59 ev_st_ALLOW_ENV hc, elem_of eo_FMT ns60 ev_st_ALLOW_FILES hc, trivial⟩)
  obtain ⟨oa_FROM_JSON, eo_FROM_JSON⟩ := arr_v ns43
  have F_options_st_FROM_JSON : Fld s s.heap st_FROM_JSON cN_0 "options" cN_1 (.ref oa_FROM_JSON) := Fld.start ((fld_at ev_st_FROM_JSON).symm.trans eo_FROM_JSON)
  obtain ⟨ko_FROM_JSON, V_oa_FROM_JSON⟩ : ∃ k, Arv s s.heap oa_FROM_JSON k (.object cN_2) (1 : Int32) [(.ref st_TO)] .null := arr_of hfit eo_FROM_JSON ns43 ns45 (by decide) (show Int32.toNatClampNeg (1 : Int32) = 1 from by decide) (fun cl hc => ⟨elem_of eo_FROM_JSON ns47 ev_st_TO hc, trivial⟩)
  obtain ⟨oa_CHECK, eo_CHECK⟩ := arr_v ns49
  have F_options_st_CHECK : Fld s s.heap st_CHECK cN_0 "options" cN_1 (.ref oa_CHECK) := Fld.start ((fld_at ev_st_CHECK).symm.trans eo_CHECK)
  obtain ⟨ko_CHECK, V_oa_CHECK⟩ : ∃ k, Arv s s.heap oa_CHECK k (.object cN_2) (3 : Int32) [(.ref st_FROM), (.ref st_ALLOW_ENV), (.ref st_ALLOW_FILES)] .null := arr_of hfit eo_CHECK ns49 ns51 (by decide) (show Int32.toNatClampNeg (3 : Int32) = 3 from by decide) (fun cl hc => ⟨elem_of eo_CHECK ns53 ev_st_FROM hc, elem_of eo_CHECK ns55 ev_st_ALLOW_ENV hc, elem_of eo_CHECK ns57 ev_st_ALLOW_FILES hc, trivial⟩)
  obtain ⟨n, o, h1, h2, h3, _, L, rfl, ⟨rfl, N⟩, hq⟩ := rm0 l s _ hw tables_1 i0 i1 st_TO_JSON st_FROM_JSON st_FMT st_CHECK st_FROM st_TO st_ALLOW_ENV st_ALLOW_FILES oa_TO_JSON ko_TO_JSON oa_FMT ko_FMT oa_FROM_JSON ko_FROM_JSON oa_CHECK ko_CHECK s.heap s.heap.size (Nat.le_refl _) S_st_TO_JSON E_st_TO_JSON S_st_FROM_JSON E_st_FROM_JSON S_st_FMT E_st_FMT S_st_CHECK E_st_CHECK S_st_FROM E_st_FROM S_st_TO E_st_TO S_st_ALLOW_ENV E_st_ALLOW_ENV S_st_ALLOW_FILES E_st_ALLOW_FILES F_ordinal_st_FROM F_ordinal_st_ALLOW_FILES F_ordinal_st_ALLOW_ENV F_ordinal_st_TO F_options_st_TO_JSON V_oa_TO_JSON F_options_st_FMT V_oa_FMT F_options_st_FROM_JSON V_oa_FROM_JSON F_options_st_CHECK V_oa_CHECK p e ha hc hk s m _ below hf ((Spec.applies_iff_loose hf).mp happ).1 ⟨rfl, State.Warmed39.refl s, rfl⟩ trivial
  refine ⟨n, _, h1, h2, h3, hpost _ _ _ _ _ _ ⟨Cond.after_iff.mpr rfl, Cond.after_iff.mpr (eq_i res_at (Term.int_eval (1)) rfl), trivial⟩ ⟨hq.1, hq.2.1, (hq.2.2.sift fun y hy => Or.inr (N y hy)).mono (by decide) (by decide)⟩⟩
theorem main_1_1 : Claimed_1_1 := comes_1 fun _ _ _ _ _ _ h hF => ⟨h.1, hF⟩
theorem main_1_2 : Claimed_1_2 := comes_1 fun _ _ _ _ _ _ h hF => ⟨h.2.1, hF⟩
end Jvm.Pilot.@@N@@
namespace Jvm.Pilot.@@N@@
open Jvm Jvm.ClassFile Sem Op Lib Jvm.Free Jvm.Stand Jvm.Pilot.@@N@@.Jvm.D
/-! MADE BY PROGRAM (witnessworld.py) out of the Statement's table words and the real class files: 15 classes; the members and pool entries that the words name. The judged class is class 1, her method 1. -/
namespace start1
open Jvm.ClassFile
def u (s : String) : CpInfo := .utf8 (stringToUtf16 s)
/-- a pool by its gaps: so many unusable entries, then the entry; so many at the end -/
def gap : Nat → List CpInfo → List CpInfo
  | 0, r => r
  | n + 1, r => .unusable :: gap n r
def poolList (es : List (Nat × CpInfo)) (last : Nat) : List CpInfo := es.foldr (fun e r => gap e.1 (e.2 :: r)) (gap last [])
def pool (es : List (Nat × CpInfo)) (last : Nat) : Array CpInfo := ⟨poolList es last⟩
def fileOf (pool : Array CpInfo) (this : Nat) (attrs : Array Attribute := #[]) (ms : Array MethodInfo := #[]) (fl : Nat := 33) (sup : Nat := 0) (ifs : Array Nat := #[]) (fds : Array FieldInfo := #[]) : ClassFile where
  minorVersion := 0
  majorVersion := 65
  constantPool := pool
  accessFlags := fl
  thisClass := this
  superClass := sup
  interfaces := ifs
  fields := fds
  methods := ms
  attributes := attrs
def plain (name : String) (sup : Option ClassId) : Class where
  name := name
  kind := .ordinary
  loader := none
  accessFlags := 33
  super := sup
  interfaces := #[]
  cf := none
  fields := #[]
  methods := #[]
  instanceTypes := #[]
  staticTypes := #[]
  resolved := #[]
  callSites := []
  init := .initialized
  statics := none
  mirror := none

def pool0 : Array CpInfo := pool [(5, u "<init>"), (0, u "()V"), (1, .class_ 10), (1, u "java/lang/Object")] 113

def k0m0 : Method := { name := "<init>", desc := "()V", sig := { parameters := [], returnType := none }, accessFlags := 1, code := none }
/-- java/lang/Object -/
def k0 : Class := { plain "java/lang/Object" none with
  accessFlags := 33
  interfaces := #[]
  cf := some (fileOf pool0 8 #[] #[{ accessFlags := 1, nameIndex := 5, descriptorIndex := 6, attributes := #[] }] 33 0 #[] #[])
  fields := #[]
  methods := #[k0m0]
  instanceTypes := #[]
  staticTypes := #[]
  resolved := Array.replicate 124 none
  statics := none }

def pool1 : Array CpInfo := pool [(2, .class_ 4), (1, u "java/lang/Object"), (0, u "<init>"), (0, u "()V"), (0, .class_ 8), (0, u "com/example/dryope/dryope/cli/Command"), (0, .fieldref 7 10), (0, .nameAndType 11 12), (0, u "TO_JSON"), (0, u "Lcom/example/dryope/dryope/cli/Command;"), (0, .fieldref 7 14), (0, .nameAndType 15 12), (0, u "FROM_JSON"), (0, .fieldref 7 17), (0, .nameAndType 18 12), (0, u "FMT"), (0, .fieldref 7 20), (0, .nameAndType 21 12), (0, u "CHECK"), (0, .class_ 23), (0, u "com/example/dryope/dryope/cli/Command$Option"), (0, .fieldref 22 25), (0, .nameAndType 26 27), (0, u "FROM"), (0, u "Lcom/example/dryope/dryope/cli/Command$Option;"), (0, .fieldref 22 29), (0, .nameAndType 30 27), (0, u "TO"), (0, .fieldref 22 32), (0, .nameAndType 33 27), (0, u "ALLOW_ENV"), (0, .fieldref 22 35), (0, .nameAndType 36 27), (0, u "ALLOW_FILES"), (0, .methodref 7 38), (0, .nameAndType 39 40), (0, u "takes"), (0, u "(Lcom/example/dryope/dryope/cli/Command$Option;)Z"), (0, .class_ 42), (0, u "com/example/dryope/dryope/cli/CommandTakesPinLaw"), (2, u "law"), (0, u "(II)Z")] 11

def k1m0 : Method := { name := "<init>", desc := "()V", sig := { parameters := [], returnType := none }, accessFlags := 1, code := none }
def k1c1 : Code := { maxStack := 4, maxLocals := 9, code := code, exceptionTable := #[], attributes := #[] }
def k1m1 : Method := { name := "law", desc := "(II)Z", sig := { parameters := [.int, .int], returnType := some .boolean }, accessFlags := 9, code := some k1c1 }
/-- com/example/dryope/dryope/cli/CommandTakesPinLaw -/
def k1 : Class := { plain "com/example/dryope/dryope/cli/CommandTakesPinLaw" (some 0) with
  accessFlags := 49
  interfaces := #[]
  cf := some (fileOf pool1 41 #[] #[{ accessFlags := 1, nameIndex := 5, descriptorIndex := 6, attributes := #[] }, { accessFlags := 9, nameIndex := 45, descriptorIndex := 46, attributes := #[] }] 49 2 #[] #[])
  fields := #[]
  methods := #[k1m0, k1m1]
  instanceTypes := #[]
  staticTypes := #[]
  resolved := Array.replicate 58 none
  statics := none }

def pool2 : Array CpInfo := pool [(1, .class_ 2), (0, u "java/lang/constant/Constable"), (0, .class_ 4), (0, u "java/lang/Object")] 6

/-- java/lang/constant/Constable -/
def k2 : Class := { plain "java/lang/constant/Constable" (some 0) with
  accessFlags := 1537
  interfaces := #[]
  cf := some (fileOf pool2 1 #[] #[] 1537 3 #[] #[])
  fields := #[]
  methods := #[]
  instanceTypes := #[]
  staticTypes := #[]
  resolved := Array.replicate 11 none
  statics := none }

def pool3 : Array CpInfo := pool [(1, .class_ 2), (0, u "java/lang/Comparable"), (0, .class_ 4), (0, u "java/lang/Object")] 7

/-- java/lang/Comparable -/
def k3 : Class := { plain "java/lang/Comparable" (some 0) with
  accessFlags := 1537
  interfaces := #[]
  cf := some (fileOf pool3 1 #[] #[] 1537 3 #[] #[])
  fields := #[]
  methods := #[]
  instanceTypes := #[]
  staticTypes := #[]
  resolved := Array.replicate 12 none
  statics := none }

def pool4 : Array CpInfo := pool [(1, .class_ 2), (0, u "java/io/Serializable"), (0, .class_ 4), (0, u "java/lang/Object")] 2

/-- java/io/Serializable -/
def k4 : Class := { plain "java/io/Serializable" (some 0) with
  accessFlags := 1537
  interfaces := #[]
  cf := some (fileOf pool4 1 #[] #[] 1537 3 #[] #[])
  fields := #[]
  methods := #[]
  instanceTypes := #[]
  staticTypes := #[]
  resolved := Array.replicate 7 none
  statics := none }

def pool5 : Array CpInfo := pool [(2, .class_ 4), (1, u "java/lang/Enum"), (0, u "name"), (0, u "Ljava/lang/String;"), (2, u "ordinal"), (0, u "I"), (1, .class_ 14), (1, u "java/lang/Object"), (4, u "hash"), (86, .class_ 108), (1, u "java/lang/Enum$EnumDesc"), (2, .class_ 112), (0, u "java/lang/constant/Constable"), (0, .class_ 114), (0, u "java/lang/Comparable"), (0, .class_ 116), (0, u "java/io/Serializable")] 87

/-- java/lang/Enum -/
def k5 : Class := { plain "java/lang/Enum" (some 0) with
  accessFlags := 1057
  interfaces := #[2, 3, 4]
  cf := some (fileOf pool5 2 #[.nestMembers #[106]] #[] 1057 12 #[111, 113, 115] #[{ accessFlags := 18, nameIndex := 5, descriptorIndex := 6, attributes := #[] }, { accessFlags := 18, nameIndex := 9, descriptorIndex := 10, attributes := #[] }, { accessFlags := 2, nameIndex := 19, descriptorIndex := 10, attributes := #[] }])
  fields := #[{ name := "name", type := (.object "java/lang/String"), accessFlags := 18, slot := 0, constantValue := 0 }, { name := "ordinal", type := .int, accessFlags := 18, slot := 1, constantValue := 0 }, { name := "hash", type := .int, accessFlags := 2, slot := 2, constantValue := 0 }]
  methods := #[]
  instanceTypes := #[(.object "java/lang/String"), .int, .int]
  staticTypes := #[]
  resolved := Array.replicate 204 none
  statics := none }

def pool6 : Array CpInfo := pool [(1, .class_ 2), (0, u "com/example/dryope/dryope/cli/Command"), (2, u "TO_JSON"), (0, u "Lcom/example/dryope/dryope/cli/Command;"), (2, u "FROM_JSON"), (2, u "FMT"), (2, u "CHECK"), (2, u "$VALUES"), (0, u "[Lcom/example/dryope/dryope/cli/Command;"), (6, .class_ 28), (1, u "java/lang/Enum"), (8, u "word"), (0, u "Ljava/lang/String;"), (2, u "manyFiles"), (0, u "Z"), (2, u "summary"), (0, .fieldref 1 47), (0, .nameAndType 48 49), (0, u "options"), (0, u "[Lcom/example/dryope/dryope/cli/Command$Option;"), (24, .class_ 76), (1, u "com/example/dryope/dryope/cli/Command$Option"), (61, u "takes"), (0, u "(Lcom/example/dryope/dryope/cli/Command$Option;)Z")] 10

def k6c0 : Code := { maxStack := 2, maxLocals := 6, code := prog_7_method_5_code, exceptionTable := #[], attributes := #[] }
def k6m0 : Method := { name := "takes", desc := "(Lcom/example/dryope/dryope/cli/Command$Option;)Z", sig := { parameters := [(.object "com/example/dryope/dryope/cli/Command$Option")], returnType := some .boolean }, accessFlags := 0, code := some k6c0 }
/-- com/example/dryope/dryope/cli/Command -/
def k6 : Class := { plain "com/example/dryope/dryope/cli/Command" (some 5) with
  accessFlags := 16432
  interfaces := #[]
  cf := some (fileOf pool6 1 #[.nestMembers #[74]] #[{ accessFlags := 0, nameIndex := 138, descriptorIndex := 139, attributes := #[] }] 16432 26 #[] #[{ accessFlags := 16409, nameIndex := 5, descriptorIndex := 6, attributes := #[] }, { accessFlags := 16409, nameIndex := 9, descriptorIndex := 6, attributes := #[] }, { accessFlags := 16409, nameIndex := 12, descriptorIndex := 6, attributes := #[] }, { accessFlags := 16409, nameIndex := 15, descriptorIndex := 6, attributes := #[] }, { accessFlags := 16, nameIndex := 37, descriptorIndex := 38, attributes := #[] }, { accessFlags := 16, nameIndex := 41, descriptorIndex := 42, attributes := #[] }, { accessFlags := 18, nameIndex := 45, descriptorIndex := 38, attributes := #[] }, { accessFlags := 18, nameIndex := 48, descriptorIndex := 49, attributes := #[] }, { accessFlags := 4122, nameIndex := 18, descriptorIndex := 19, attributes := #[] }])
  fields := #[{ name := "TO_JSON", type := (.object "com/example/dryope/dryope/cli/Command"), accessFlags := 16409, slot := 0, constantValue := 0 }, { name := "FROM_JSON", type := (.object "com/example/dryope/dryope/cli/Command"), accessFlags := 16409, slot := 1, constantValue := 0 }, { name := "FMT", type := (.object "com/example/dryope/dryope/cli/Command"), accessFlags := 16409, slot := 2, constantValue := 0 }, { name := "CHECK", type := (.object "com/example/dryope/dryope/cli/Command"), accessFlags := 16409, slot := 3, constantValue := 0 }, { name := "word", type := (.object "java/lang/String"), accessFlags := 16, slot := 3, constantValue := 0 }, { name := "manyFiles", type := .boolean, accessFlags := 16, slot := 4, constantValue := 0 }, { name := "summary", type := (.object "java/lang/String"), accessFlags := 18, slot := 5, constantValue := 0 }, { name := "options", type := (.array (.object "com/example/dryope/dryope/cli/Command$Option")), accessFlags := 18, slot := 6, constantValue := 0 }, { name := "$VALUES", type := (.array (.object "com/example/dryope/dryope/cli/Command")), accessFlags := 4122, slot := 4, constantValue := 0 }]
  methods := #[k6m0]
  instanceTypes := #[(.object "java/lang/String"), .int, .int, (.object "java/lang/String"), .boolean, (.object "java/lang/String"), (.array (.object "com/example/dryope/dryope/cli/Command$Option"))]
  staticTypes := #[(.object "com/example/dryope/dryope/cli/Command"), (.object "com/example/dryope/dryope/cli/Command"), (.object "com/example/dryope/dryope/cli/Command"), (.object "com/example/dryope/dryope/cli/Command"), (.array (.object "com/example/dryope/dryope/cli/Command"))]
  resolved := Array.replicate 150 none
  statics := some 0 }

def pool7 : Array CpInfo := pool [(1, .class_ 2), (0, u "com/example/dryope/dryope/cli/Command$Option"), (2, u "FROM"), (0, u "Lcom/example/dryope/dryope/cli/Command$Option;"), (2, u "TO"), (2, u "ALLOW_ENV"), (2, u "ALLOW_FILES"), (2, u "$VALUES"), (0, u "[Lcom/example/dryope/dryope/cli/Command$Option;"), (6, .class_ 28), (1, u "java/lang/Enum"), (8, u "word"), (0, u "Ljava/lang/String;"), (2, u "argument"), (2, u "help"), (60, .class_ 106), (0, u "com/example/dryope/dryope/cli/Command")] 16

/-- com/example/dryope/dryope/cli/Command$Option -/
def k7 : Class := { plain "com/example/dryope/dryope/cli/Command$Option" (some 5) with
  accessFlags := 16432
  interfaces := #[]
  cf := some (fileOf pool7 1 #[.nestHost 105] #[] 16432 26 #[] #[{ accessFlags := 16409, nameIndex := 5, descriptorIndex := 6, attributes := #[] }, { accessFlags := 16409, nameIndex := 9, descriptorIndex := 6, attributes := #[] }, { accessFlags := 16409, nameIndex := 12, descriptorIndex := 6, attributes := #[] }, { accessFlags := 16409, nameIndex := 15, descriptorIndex := 6, attributes := #[] }, { accessFlags := 16, nameIndex := 37, descriptorIndex := 38, attributes := #[] }, { accessFlags := 16, nameIndex := 41, descriptorIndex := 38, attributes := #[] }, { accessFlags := 16, nameIndex := 44, descriptorIndex := 38, attributes := #[] }, { accessFlags := 4122, nameIndex := 18, descriptorIndex := 19, attributes := #[] }])
  fields := #[{ name := "FROM", type := (.object "com/example/dryope/dryope/cli/Command$Option"), accessFlags := 16409, slot := 0, constantValue := 0 }, { name := "TO", type := (.object "com/example/dryope/dryope/cli/Command$Option"), accessFlags := 16409, slot := 1, constantValue := 0 }, { name := "ALLOW_ENV", type := (.object "com/example/dryope/dryope/cli/Command$Option"), accessFlags := 16409, slot := 2, constantValue := 0 }, { name := "ALLOW_FILES", type := (.object "com/example/dryope/dryope/cli/Command$Option"), accessFlags := 16409, slot := 3, constantValue := 0 }, { name := "word", type := (.object "java/lang/String"), accessFlags := 16, slot := 3, constantValue := 0 }, { name := "argument", type := (.object "java/lang/String"), accessFlags := 16, slot := 4, constantValue := 0 }, { name := "help", type := (.object "java/lang/String"), accessFlags := 16, slot := 5, constantValue := 0 }, { name := "$VALUES", type := (.array (.object "com/example/dryope/dryope/cli/Command$Option")), accessFlags := 4122, slot := 4, constantValue := 0 }]
  methods := #[]
  instanceTypes := #[(.object "java/lang/String"), .int, .int, (.object "java/lang/String"), (.object "java/lang/String"), (.object "java/lang/String")]
  staticTypes := #[(.object "com/example/dryope/dryope/cli/Command$Option"), (.object "com/example/dryope/dryope/cli/Command$Option"), (.object "com/example/dryope/dryope/cli/Command$Option"), (.object "com/example/dryope/dryope/cli/Command$Option"), (.array (.object "com/example/dryope/dryope/cli/Command$Option"))]
  resolved := Array.replicate 123 none
  statics := some 1 }

def pool8 : Array CpInfo := pool [(1, u "java/lang/Cloneable"), (0, .class_ 1), (0, u "java/lang/Object"), (0, .class_ 3)] 3

/-- java/lang/Cloneable -/
def k8 : Class := { plain "java/lang/Cloneable" (some 0) with
  accessFlags := 1537
  interfaces := #[]
  cf := some (fileOf pool8 2 #[] #[] 1537 4 #[] #[])
  fields := #[]
  methods := #[]
  instanceTypes := #[]
  staticTypes := #[]
  resolved := Array.replicate 8 none
  statics := none }

/-- the primitive byte -/
def k9 : Class := { plain "byte" none with kind := .primitive 'B', accessFlags := 0x411 }
/-- [B -/
def k10 : Class := { plain "[B" (some 0) with kind := .array 9 .byte, interfaces := #[8, 4], accessFlags := 1041 }

/-- the primitive int -/
def k11 : Class := { plain "int" none with kind := .primitive 'I', accessFlags := 0x411 }
/-- [I -/
def k12 : Class := { plain "[I" (some 0) with kind := .array 11 .int, interfaces := #[8, 4], accessFlags := 1041 }

/-- [Lcom/example/dryope/dryope/cli/Command; -/
def k13 : Class := { plain "[Lcom/example/dryope/dryope/cli/Command;" (some 0) with kind := .array 6 (.object "com/example/dryope/dryope/cli/Command"), interfaces := #[8, 4], accessFlags := 1041 }

/-- [Lcom/example/dryope/dryope/cli/Command$Option; -/
def k14 : Class := { plain "[Lcom/example/dryope/dryope/cli/Command$Option;" (some 0) with kind := .array 7 (.object "com/example/dryope/dryope/cli/Command$Option"), interfaces := #[8, 4], accessFlags := 1041 }

def heap : Heap := #[{ cls := 6, slots := #[.ref 10, .ref 11, .ref 12, .ref 13, .null], vm := .statics 6 },
  { cls := 7, slots := #[.ref 6, .ref 7, .ref 8, .ref 9, .null], vm := .statics 7 },
  { cls := 14, slots := #[.ref 6, .ref 8, .ref 9], vm := .none },
  { cls := 14, slots := #[.ref 7], vm := .none },
  { cls := 14, slots := #[.ref 6, .ref 7, .ref 8, .ref 9], vm := .none },
  { cls := 14, slots := #[.ref 6, .ref 8, .ref 9], vm := .none },
  { cls := 7, slots := #[.null, .int 0, .int 0, .null, .null, .null], vm := .none },
  { cls := 7, slots := #[.null, .int 1, .int 0, .null, .null, .null], vm := .none },
  { cls := 7, slots := #[.null, .int 2, .int 0, .null, .null, .null], vm := .none },
  { cls := 7, slots := #[.null, .int 3, .int 0, .null, .null, .null], vm := .none },
  { cls := 6, slots := #[.null, .int 0, .int 0, .null, .int 0, .null, .ref 2], vm := .none },
  { cls := 6, slots := #[.null, .int 1, .int 0, .null, .int 0, .null, .ref 3], vm := .none },
  { cls := 6, slots := #[.null, .int 2, .int 0, .null, .int 0, .null, .ref 4], vm := .none },
  { cls := 6, slots := #[.null, .int 3, .int 0, .null, .int 0, .null, .ref 5], vm := .none }]
def classes : Array Class := #[k0, k1, k2, k3, k4, k5, k6, k7, k8, k9, k10, k11, k12, k13, k14]
def interned : List (Array UInt16 × Addr) := []
def slotsUsed : Nat := 73
def theMethod : MethodId := ⟨1, 1⟩
def args0 : Array Value := #[.int 5, .int 7]
def aboutOver (below : List Frame) : State where
  vm := { classes := classes, interned := interned.toArray }
  heap := heap
  slotsUsed := slotsUsed
  threads := #[{ frames := .invoking theMethod args0 :: below }]
def below0 : List Frame := [.native { method := ⟨0, 0⟩, args := #[] }]
def about1 : State := aboutOver below0
def p0 : Program := .bare "" "" ""
def e0 : Env := launch0.env 0 0 0
theorem w_frames : about1.frames = Frame.invoking theMethod args0 :: below0 := rfl
set_option maxRecDepth 65536 in
theorem w_args : argsFit about1.vm theMethod args0 = true := by decide +kernel
set_option maxRecDepth 65536 in
theorem w_heap : heapFits about1 = true := by decide +kernel
set_option maxRecDepth 65536 in
theorem w_runnable : about1.curStatus? = some .runnable := by decide +kernel
set_option maxRecDepth 65536 in
theorem w_alone : about1.alone = true := by decide +kernel
set_option maxRecDepth 65536 in
theorem w_named : about1.methodNamed? x = some theMethod := by decide +kernel
set_option maxRecDepth 65536 in
theorem w_hears : about1.hears theMethod below0 = true := by decide +kernel
set_option maxRecDepth 65536 in
theorem w_ripe : about1.ripe theMethod args0 below0 = true := by decide +kernel
theorem w_running : about1.status = .running := rfl
set_option maxRecDepth 65536 in
theorem w_room : about1.hasRoom e0.platform room_1 = true :=
  launch0.hasRoom_least _ room_1 (by decide +kernel) (by decide +kernel) (by decide +kernel) (by decide +kernel) (by decide +kernel) (by decide +kernel)
theorem allAtoms_all (ts : List Jvm.Cond) (a : Array Jvm.Value) (st : Jvm.State) : (allAtoms ts).before a st = ts.all (fun c => c.before a st) := by
  induction ts with
  | nil => rfl
  | cons c t ih =>
    show (Jvm.Cond.and c (allAtoms t)).before a st = _
    rw [Jvm.Cond.before_and, ih, List.all_cons]
def words1 : List Jvm.Cond := Jvm.Cond.code x code maxLocals ret :: tables_1
/-- a 'code' word, met by the world's own term for the bytes: nothing is compared byte by byte -/
theorem code_word {y : MethodName} {bytes : ByteArray} {mx : Nat} {rt : Option FieldType} {a : Array Value} {s : State} {m : MethodId} {meth : Method} {c : Code} (h1 : s.methodNamed? y = some m) (h2 : s.vm.method? m = some meth) (h3 : meth.code = some c) (h4 : c.code = bytes)
    (h5 : (c.maxLocals == mx && c.exceptionTable.isEmpty && decide (c.maxStack ≤ mostOperands) && decide (meth.sig.returnType = rt) && !meth.locks && decide (parseMethodDescriptor y.desc = some meth.sig)) = true) : (Jvm.Cond.code y bytes mx rt).before a s = true := by
  simp only [Bool.and_eq_true, beq_iff_eq, Bool.not_eq_true', decide_eq_true_eq] at h5
  obtain ⟨⟨⟨⟨⟨g1, g2⟩, g3⟩, g4⟩, g5⟩, g6⟩ := h5
  simp [Cond.before, Cond.holds, Cond.value, h1, h2, h3, h4, g1, g2, g3, g4, g5, g6]
def isCode : Jvm.Cond → Bool
  | .code _ _ _ _ => true
  | _ => false
theorem all_split {L : List Jvm.Cond} {P : Jvm.Cond → Bool} (h1 : L.all (fun c => isCode c || P c) = true) (h2 : ∀ c ∈ L.filter isCode, P c = true) : L.all P = true := by
  refine List.all_eq_true.mpr fun c hc => ?_
  have h := List.all_eq_true.mp h1 c hc
  rcases Bool.eq_false_or_eq_true (isCode c) with hi | hi
  · exact h2 c (List.mem_filter.mpr ⟨hc, hi⟩)
  · simpa [hi] using h
set_option maxRecDepth 65536 in
theorem w_c0 : (Jvm.Cond.code x code maxLocals ret).before args0 about1 = true := code_word (m := ⟨1, 1⟩) (meth := k1m1) (c := k1c1) (by decide +kernel) rfl rfl rfl (by decide +kernel)
set_option maxRecDepth 65536 in
theorem w_c1 : (Jvm.Cond.code ({ cls := "com/example/dryope/dryope/cli/Command", name := "takes", desc := "(Lcom/example/dryope/dryope/cli/Command$Option;)Z" } : Jvm.MethodName) prog_7_method_5_code (6 : Nat) (Option.some Jvm.ClassFile.FieldType.boolean)).before args0 about1 = true := code_word (m := ⟨6, 0⟩) (meth := k6m0) (c := k6c0) (by decide +kernel) rfl rfl rfl (by decide +kernel)
def codes1 : List Jvm.Cond := [Jvm.Cond.code x code maxLocals ret, Jvm.Cond.code ({ cls := "com/example/dryope/dryope/cli/Command", name := "takes", desc := "(Lcom/example/dryope/dryope/cli/Command$Option;)Z" } : Jvm.MethodName) prog_7_method_5_code (6 : Nat) (Option.some Jvm.ClassFile.FieldType.boolean)]
set_option maxRecDepth 65536 in
theorem codes_eq : words1.filter isCode = codes1 := rfl
theorem w_codes : ∀ c ∈ words1.filter isCode, c.before args0 about1 = true := by
  rw [codes_eq]
  intro c hc
  simp only [codes1, List.mem_cons, List.not_mem_nil, or_false] at hc
  rcases hc with rfl | rfl
  · exact w_c0
  · exact w_c1
set_option maxRecDepth 65536 in
theorem w_t1 : (words1.take 24).all (fun c => isCode c || c.before args0 about1) = true := by decide +kernel
set_option maxRecDepth 65536 in
theorem w_t2 : (words1.drop 24).all (fun c => isCode c || c.before args0 about1) = true := by decide +kernel
theorem w_tables : (allAtoms (Jvm.Cond.code x code maxLocals ret :: tables_1)).before args0 about1 = true := by
  rw [allAtoms_all]
  show words1.all (fun c => c.before args0 about1) = true
  refine all_split ?_ w_codes
  rw [← List.take_append_drop 24 words1, List.all_append, w_t1, w_t2]
  rfl
set_option maxRecDepth 65536 in
theorem w_case : (Jvm.Cond.and given_1 narrow_1).before args0 about1 = true := by decide +kernel
theorem w_applies : (headSpec (Jvm.Cond.code x code maxLocals ret :: tables_1) room_1).applies x e0.platform about1 = true :=
  (Spec.applies_iff w_frames).mpr ⟨w_running, w_runnable, w_alone, w_named, w_hears, w_ripe, w_room, w_tables⟩
theorem atStart : AtStart classFile x code maxLocals ret World_1 tables_1 room_1 Calls_1 rest_1 Pre_1 launch0 p0 e0 about1 theMethod args0 below0 :=
  ⟨lists_1, trivial, launch0.admits_env _ _ _, launch0.least_env, fairChoices_fair.cas, fairChoices_fair.clock, w_frames, w_args, w_heap, w_applies, trivial, trivial, w_case⟩
end start1
theorem witness_1 : WitnessClaimed_1 := ⟨start1.p0, start1.e0, start1.about1, start1.theMethod, start1.args0, start1.below0, start1.atStart⟩
end Jvm.Pilot.@@N@@
