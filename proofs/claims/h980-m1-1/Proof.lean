import JvmDerived
import JvmDerived.Pilot.@@N@@Statement
import JvmDerived.Pilot.@@N@@Code
set_option linter.unusedVariables false
set_option linter.unusedSimpArgs false
namespace Jvm.Own
open Sem ClassFile Op Lib Jvm.Stand Jvm.Free Jvm.LawKit Jvm.RoadKit
/-- from here the run goes on to a return that the contract allows -/
def Wk (p : Program) (e : Env) (below : List Frame) (F : Outcome → State → Prop) (T : State) (g : JFrame) : Prop :=
  ∃ s₂ o, Steps p.tables e below (T.setTop g) s₂ ∧ s₂.status = .running ∧ Ended s₂ below o ∧ F o s₂
abbrev FN (s : State) (Q : Option Value → Heap → List Loc → Prop) (kc ks : Nat) : Outcome → State → Prop := fun o s₂ => ∃ v L, o = .returned v ∧ Q v s₂.heap L ∧ FrameEnd s o s₂ L kc ks
section Walk
variable {p : Program} {l : Launch} {e : Env} {R : Room} {s : State} {m : MethodId} {args : Array Value} {below : List Frame} {meth : Method} {c : Code} {T : State} {locs : List Loc} {cells slots : Nat} {Q : Option Value → Heap → List Loc → Prop} {Fe : Outcome → State → Prop} {kc ks pc : Nat} {Ls : Array Slot} {S : List Value} {Z : State} {a0 : Array Value} {h : Heap}
theorem Wk.step {T' : State} {g g' : JFrame} (h : Wk p e below Fe T' g') (st : ∀ t, Steps p.tables e below (T'.setTop g') t → Steps p.tables e below (T.setTop g) t) : Wk p e below Fe T g := by
  obtain ⟨s₂, o, h1, h2⟩ := h
  exact ⟨s₂, o, st _ h1, h2⟩
theorem Wk.come {T' : State} {g g' : JFrame} (h : Wk p e below Fe T' g') (st : Steps p.tables e below (T.setTop g) (T'.setTop g')) : Wk p e below Fe T g := h.step fun _ k => st.trans k
theorem w_iload (X : Stand p l e R s m args below meth c T locs cells slots) (hx : p.tables.exec = Jvm.exec) {k : Nat} (v : Int32) (hd : decode c.code pc = .ok (.iload k, 2)) (pc' : Nat) (hp : pc + 2 = pc') (hl : Ls[k]? = some (.val (.int v))) (h : Wk p e below Fe T (mkF m pc' Ls (.int v :: S))) : Wk p e below Fe T (mkF m pc Ls S) := by
  subst hp; exact h.step fun _ k => XS.iload X.here hx rfl hd hl k
theorem w_iloadN (X : Stand p l e R s m args below meth c T locs cells slots) (hx : p.tables.exec = Jvm.exec) {k : Fin 4} (v : Int32) (hd : decode c.code pc = .ok (.iload_n k, 1)) (pc' : Nat) (hp : pc + 1 = pc') (hl : Ls[k.val]? = some (.val (.int v))) (h : Wk p e below Fe T (mkF m pc' Ls (.int v :: S))) : Wk p e below Fe T (mkF m pc Ls S) := by
  subst hp; exact h.step fun _ k => XS.iloadN X.here hx rfl hd hl k
theorem w_lload (X : Stand p l e R s m args below meth c T locs cells slots) (hx : p.tables.exec = Jvm.exec) {k : Nat} (v : Int64) (hd : decode c.code pc = .ok (.lload k, 2)) (pc' : Nat) (hp : pc + 2 = pc') (hl : Ls[k]? = some (.val (.long v))) (h : Wk p e below Fe T (mkF m pc' Ls (.long v :: S))) : Wk p e below Fe T (mkF m pc Ls S) := by
  subst hp; exact h.step fun _ k => XS.lload X.here hx rfl hd hl k
theorem w_lloadN (X : Stand p l e R s m args below meth c T locs cells slots) (hx : p.tables.exec = Jvm.exec) {k : Fin 4} (v : Int64) (hd : decode c.code pc = .ok (.lload_n k, 1)) (pc' : Nat) (hp : pc + 1 = pc') (hl : Ls[k.val]? = some (.val (.long v))) (h : Wk p e below Fe T (mkF m pc' Ls (.long v :: S))) : Wk p e below Fe T (mkF m pc Ls S) := by
  subst hp; exact h.step fun _ k => XS.lloadN X.here hx rfl hd hl k
theorem w_aload (X : Stand p l e R s m args below meth c T locs cells slots) (hx : p.tables.exec = Jvm.exec) {k : Nat} (v : Value) (hd : decode c.code pc = .ok (.aload k, 2)) (pc' : Nat) (hp : pc + 2 = pc') (hl : Ls[k]? = some (.val v)) (hv : v.isRef = true) (h : Wk p e below Fe T (mkF m pc' Ls (v :: S))) : Wk p e below Fe T (mkF m pc Ls S) := by
  subst hp; exact h.step fun _ k => XS.aload X.here hx rfl hd hl hv k
theorem w_aloadN (X : Stand p l e R s m args below meth c T locs cells slots) (hx : p.tables.exec = Jvm.exec) {k : Fin 4} (v : Value) (hd : decode c.code pc = .ok (.aload_n k, 1)) (pc' : Nat) (hp : pc + 1 = pc') (hl : Ls[k.val]? = some (.val v)) (hv : v.isRef = true) (h : Wk p e below Fe T (mkF m pc' Ls (v :: S))) : Wk p e below Fe T (mkF m pc Ls S) := by
  subst hp; exact h.step fun _ k => XS.aloadN X.here hx rfl hd hl hv k
theorem w_istore (X : Stand p l e R s m args below meth c T locs cells slots) (hx : p.tables.exec = Jvm.exec) {k : Nat} {x : Int32} (hd : decode c.code pc = .ok (.istore k, 2)) (pc' : Nat) (hp : pc + 2 = pc') (l' : Array Slot) (hl : storeLocals Ls k (.int x) = some l') (h : Wk p e below Fe T (mkF m pc' l' S)) : Wk p e below Fe T (mkF m pc Ls (.int x :: S)) := by
  subst hp; exact h.step fun _ k => XS.istore X.here hx rfl hd rfl hl k
theorem w_istoreN (X : Stand p l e R s m args below meth c T locs cells slots) (hx : p.tables.exec = Jvm.exec) {k : Fin 4} {x : Int32} (hd : decode c.code pc = .ok (.istore_n k, 1)) (pc' : Nat) (hp : pc + 1 = pc') (l' : Array Slot) (hl : storeLocals Ls k.val (.int x) = some l') (h : Wk p e below Fe T (mkF m pc' l' S)) : Wk p e below Fe T (mkF m pc Ls (.int x :: S)) := by
  subst hp; exact h.step fun _ k => XS.istoreN X.here hx rfl hd rfl hl k
theorem w_lstore (X : Stand p l e R s m args below meth c T locs cells slots) (hx : p.tables.exec = Jvm.exec) {k : Nat} {x : Int64} (hd : decode c.code pc = .ok (.lstore k, 2)) (pc' : Nat) (hp : pc + 2 = pc') (l' : Array Slot) (hl : storeLocals Ls k (.long x) = some l') (h : Wk p e below Fe T (mkF m pc' l' S)) : Wk p e below Fe T (mkF m pc Ls (.long x :: S)) := by
  subst hp; exact h.step fun _ k => XS.lstore X.here hx rfl hd rfl hl k
theorem w_astore (X : Stand p l e R s m args below meth c T locs cells slots) (hx : p.tables.exec = Jvm.exec) {k : Nat} {x : Value} (hd : decode c.code pc = .ok (.astore k, 2)) (pc' : Nat) (hp : pc + 2 = pc') (hv : x.isRef = true) (l' : Array Slot) (hl : storeLocals Ls k x = some l') (h : Wk p e below Fe T (mkF m pc' l' S)) : Wk p e below Fe T (mkF m pc Ls (x :: S)) := by
  subst hp; exact h.step fun _ k => XS.astore X.here hx rfl hd rfl hv hl k
theorem w_iconst (X : Stand p l e R s m args below meth c T locs cells slots) (hx : p.tables.exec = Jvm.exec) {i : Int} (hd : decode c.code pc = .ok (.iconst i, 1)) (pc' : Nat) (hp : pc + 1 = pc') (z : Int32) (hz : Int32.ofInt i = z) (h : Wk p e below Fe T (mkF m pc' Ls (.int z :: S))) : Wk p e below Fe T (mkF m pc Ls S) := by
  subst hp hz; exact h.step fun _ k => XS.iconst X.here hx rfl hd k
theorem w_bipush (X : Stand p l e R s m args below meth c T locs cells slots) (hx : p.tables.exec = Jvm.exec) {i : Int} (hd : decode c.code pc = .ok (.bipush i, 2)) (pc' : Nat) (hp : pc + 2 = pc') (z : Int32) (hz : (Int8.ofInt i).toInt32 = z) (h : Wk p e below Fe T (mkF m pc' Ls (.int z :: S))) : Wk p e below Fe T (mkF m pc Ls S) := by
  subst hp hz; exact h.step fun _ k => XS.bipush X.here hx rfl hd k
theorem w_ldc (X : Stand p l e R s m args below meth c T locs cells slots) (hx : p.tables.exec = Jvm.exec) (hZ : Z.Warmed39 s.vm) {own : String} {index : Nat} {v : Int32} (hown : s.vm.findClass own = some m.cls) (w : (Cond.constant own index v).before a0 Z = true) (hd : decode c.code pc = .ok (.ldc index, 2)) (pc' : Nat) (hp : pc + 2 = pc') (h : Wk p e below Fe T (mkF m pc' Ls (.int v :: S))) : Wk p e below Fe T (mkF m pc Ls S) := by
  subst hp; exact h.step fun _ k => X.ldcInt hx hown (mvT hZ w) (g := mkF m pc Ls S) rfl hd _ k
theorem w_iadd (X : Stand p l e R s m args below meth c T locs cells slots) (hx : p.tables.exec = Jvm.exec) {x y : Int32} (hd : decode c.code pc = .ok (.iadd, 1)) (pc' : Nat) (hp : pc + 1 = pc') {z : Int32} (hz : z = x + y) (h : Wk p e below Fe T (mkF m pc' Ls (.int z :: S))) : Wk p e below Fe T (mkF m pc Ls (.int y :: .int x :: S)) := by
  subst hp hz; exact h.step fun _ k => XS.iadd X.here hx rfl hd rfl k
theorem w_imul (X : Stand p l e R s m args below meth c T locs cells slots) (hx : p.tables.exec = Jvm.exec) {x y : Int32} (hd : decode c.code pc = .ok (.imul, 1)) (pc' : Nat) (hp : pc + 1 = pc') {z : Int32} (hz : z = x * y) (h : Wk p e below Fe T (mkF m pc' Ls (.int z :: S))) : Wk p e below Fe T (mkF m pc Ls (.int y :: .int x :: S)) := by
  subst hp hz; exact h.step fun _ k => XS.imul X.here hx rfl hd rfl k
theorem w_iand (X : Stand p l e R s m args below meth c T locs cells slots) (hx : p.tables.exec = Jvm.exec) {x y : Int32} (hd : decode c.code pc = .ok (.iand, 1)) (pc' : Nat) (hp : pc + 1 = pc') {z : Int32} (hz : z = x &&& y) (h : Wk p e below Fe T (mkF m pc' Ls (.int z :: S))) : Wk p e below Fe T (mkF m pc Ls (.int y :: .int x :: S)) := by
  subst hp hz; exact h.step fun _ k => XS.iand X.here hx rfl hd rfl k
theorem w_ixor (X : Stand p l e R s m args below meth c T locs cells slots) (hx : p.tables.exec = Jvm.exec) {x y : Int32} (hd : decode c.code pc = .ok (.ixor, 1)) (pc' : Nat) (hp : pc + 1 = pc') {z : Int32} (hz : z = x ^^^ y) (h : Wk p e below Fe T (mkF m pc' Ls (.int z :: S))) : Wk p e below Fe T (mkF m pc Ls (.int y :: .int x :: S)) := by
  subst hp hz; exact h.step fun _ k => XS.ixor X.here hx rfl hd rfl k
theorem w_iushr (X : Stand p l e R s m args below meth c T locs cells slots) (hx : p.tables.exec = Jvm.exec) {x y : Int32} (hd : decode c.code pc = .ok (.iushr, 1)) (pc' : Nat) (hp : pc + 1 = pc') {z : Int32} (hz : z = (x.toUInt32 >>> (y &&& 31).toUInt32).toInt32) (h : Wk p e below Fe T (mkF m pc' Ls (.int z :: S))) : Wk p e below Fe T (mkF m pc Ls (.int y :: .int x :: S)) := by
  subst hp hz; exact h.step fun _ k => XS.iushr X.here hx rfl hd rfl k
theorem w_lushr (X : Stand p l e R s m args below meth c T locs cells slots) (hx : p.tables.exec = Jvm.exec) {x : Int64} {y : Int32} (hd : decode c.code pc = .ok (.lushr, 1)) (pc' : Nat) (hp : pc + 1 = pc') {z : Int64} (hz : z = (x.toUInt64 >>> (y &&& 0x3f).toInt64.toUInt64).toInt64) (h : Wk p e below Fe T (mkF m pc' Ls (.long z :: S))) : Wk p e below Fe T (mkF m pc Ls (.int y :: .long x :: S)) := by
  subst hp hz; exact h.step fun _ k => XS.lushr X.here hx rfl hd rfl k
theorem w_irem (X : Stand p l e R s m args below meth c T locs cells slots) (hx : p.tables.exec = Jvm.exec) {x y : Int32} (hd : decode c.code pc = .ok (.irem, 1)) (pc' : Nat) (hp : pc + 1 = pc') (hy : y ≠ 0) {z : Int32} (hz : z = x % y) (h : Wk p e below Fe T (mkF m pc' Ls (.int z :: S))) : Wk p e below Fe T (mkF m pc Ls (.int y :: .int x :: S)) := by
  subst hp hz; exact h.step fun _ k => iremM (g := mkF m pc Ls (.int y :: .int x :: S)) X hx rfl hd rfl hy k
theorem w_i2l (X : Stand p l e R s m args below meth c T locs cells slots) (hx : p.tables.exec = Jvm.exec) {x : Int32} (hd : decode c.code pc = .ok (.i2l, 1)) (pc' : Nat) (hp : pc + 1 = pc') {z : Int64} (hz : z = x.toInt64) (h : Wk p e below Fe T (mkF m pc' Ls (.long z :: S))) : Wk p e below Fe T (mkF m pc Ls (.int x :: S)) := by
  subst hp hz; exact h.step fun _ k => XS.i2l X.here hx rfl hd rfl k
theorem w_l2i (X : Stand p l e R s m args below meth c T locs cells slots) (hx : p.tables.exec = Jvm.exec) {x : Int64} (hd : decode c.code pc = .ok (.l2i, 1)) (pc' : Nat) (hp : pc + 1 = pc') {z : Int32} (hz : z = x.toInt32) (h : Wk p e below Fe T (mkF m pc' Ls (.int z :: S))) : Wk p e below Fe T (mkF m pc Ls (.long x :: S)) := by
  subst hp hz; exact h.step fun _ k => XS.l2i X.here hx rfl hd rfl k
theorem w_i2b (X : Stand p l e R s m args below meth c T locs cells slots) (hx : p.tables.exec = Jvm.exec) {x : Int32} (hd : decode c.code pc = .ok (.i2b, 1)) (pc' : Nat) (hp : pc + 1 = pc') {z : Int32} (hz : z = x.toInt8.toInt32) (h : Wk p e below Fe T (mkF m pc' Ls (.int z :: S))) : Wk p e below Fe T (mkF m pc Ls (.int x :: S)) := by
  subst hp hz; exact h.step fun _ k => XS.i2b X.here hx rfl hd rfl k
theorem w_iinc (X : Stand p l e R s m args below meth c T locs cells slots) (hx : p.tables.exec = Jvm.exec) {k : Nat} {cst : Int} {x : Int32} (hd : decode c.code pc = .ok (.iinc k cst, 3)) (pc' : Nat) (hp : pc + 3 = pc') (hl : Ls[k]? = some (.val (.int x))) (z : Int32) (hz : z = x + Int32.ofInt cst) (l' : Array Slot) (hl' : storeLocals Ls k (.int z) = some l') (h : Wk p e below Fe T (mkF m pc' l' S)) : Wk p e below Fe T (mkF m pc Ls S) := by
  subst hp hz; exact h.step fun _ k => XS.iinc X.here hx rfl hd hl hl' k
theorem w_dup (X : Stand p l e R s m args below meth c T locs cells slots) (hx : p.tables.exec = Jvm.exec) {x : Value} (hd : decode c.code pc = .ok (.dup, 1)) (pc' : Nat) (hp : pc + 1 = pc') (hc : x.category = 1) (h : Wk p e below Fe T (mkF m pc' Ls (x :: x :: S))) : Wk p e below Fe T (mkF m pc Ls (x :: S)) := by
  subst hp; exact h.step fun _ k => XS.dup X.here hx rfl hd rfl hc k
theorem w_dup2 (X : Stand p l e R s m args below meth c T locs cells slots) (hx : p.tables.exec = Jvm.exec) {x y : Value} (hd : decode c.code pc = .ok (.dup2, 1)) (pc' : Nat) (hp : pc + 1 = pc') (hc : x.category = 1) (hc' : y.category = 1) (h : Wk p e below Fe T (mkF m pc' Ls (x :: y :: x :: y :: S))) : Wk p e below Fe T (mkF m pc Ls (x :: y :: S)) := by
  subst hp; exact h.step fun _ k => XT.dup2 X.here hx rfl hd rfl hc hc' k
theorem w_goto (X : Stand p l e R s m args below meth c T locs cells slots) (hx : p.tables.exec = Jvm.exec) {o : Int} (hd : decode c.code pc = .ok (.goto o, 3)) (pc' : Nat) (h : Wk p e below Fe T (mkF m pc' Ls S)) (ho : 0 ≤ (pc : Int) + o := by decide) (hp : ((pc : Int) + o).toNat = pc' := by decide) : Wk p e below Fe T (mkF m pc Ls S) := by
  exact h.step fun _ k => XS.goto X.here hx rfl rfl hd ho hp k
theorem holds_eq {x y : Int32} {A B : Int} (ha : x.toInt = A) (hb : y.toInt = B) : ((A = B) → if_icmp.holds .eq x y = true) ∧ ((¬ A = B) → if_icmp.holds .eq x y = false) := by
  subst ha hb
  constructor
  · intro q
    first
    | exact (tlt (x := x) (y := y) (Int32.lt_iff_toInt_lt.mpr (by omega))).1
    | exact (flt (x := x) (y := y) (fun r => by have := Int32.lt_iff_toInt_lt.mp r; omega)).2.1
    | exact (tlt (x := y) (y := x) (Int32.lt_iff_toInt_lt.mpr (by omega))).2.2.1
    | exact (flt (x := y) (y := x) (fun r => by have := Int32.lt_iff_toInt_lt.mp r; omega)).2.2.2
    | exact (teq (x := x) (y := y) (Int32.toInt_inj.mp (by omega))).1
    | exact (feq (x := x) (y := y) (fun r => q (by rw [r]))).2
  · intro q
    first
    | exact (flt (x := x) (y := y) (fun r => by have := Int32.lt_iff_toInt_lt.mp r; omega)).1
    | exact (tlt (x := x) (y := y) (Int32.lt_iff_toInt_lt.mpr (by omega))).2.1
    | exact (flt (x := y) (y := x) (fun r => by have := Int32.lt_iff_toInt_lt.mp r; omega)).2.2.1
    | exact (tlt (x := y) (y := x) (Int32.lt_iff_toInt_lt.mpr (by omega))).2.2.2
    | exact (feq (x := x) (y := y) (fun r => q (by rw [r]))).1
    | exact (teq (x := x) (y := y) (Int32.toInt_inj.mp (by omega))).2
theorem w_if_eq (X : Stand p l e R s m args below meth c T locs cells slots) (hx : p.tables.exec = Jvm.exec) {x : Int32} {o : Int} (A : Int) (ha : x.toInt = A) (hd : decode c.code pc = .ok (.ifCond .eq o, 3)) (pt pn : Nat) (h1 : A = 0 → Wk p e below Fe T (mkF m pt Ls S)) (h2 : ¬ A = 0 → Wk p e below Fe T (mkF m pn Ls S)) (ho : 0 ≤ (pc : Int) + o := by decide) (hp : ((pc : Int) + o).toNat = pt := by decide) (hn : pc + 3 = pn := by rfl) : Wk p e below Fe T (mkF m pc Ls (.int x :: S)) := by
  subst hn
  have hb : (0 : Int32).toInt = 0 := rfl
  by_cases q : A = 0
  · exact (h1 q).step fun _ k => XS.ifYes X.here hx rfl rfl hd rfl ((if0 _ _).trans ((holds_eq ha hb).1 q)) ho hp k
  · have q' : ¬ A = 0 := by omega
    exact (h2 q').step fun _ k => XS.ifNo X.here hx rfl hd rfl ((if0 _ _).trans ((holds_eq ha hb).2 q')) k
theorem holds_ne {x y : Int32} {A B : Int} (ha : x.toInt = A) (hb : y.toInt = B) : ((¬ A = B) → if_icmp.holds .ne x y = true) ∧ ((A = B) → if_icmp.holds .ne x y = false) := by
  subst ha hb
  constructor
  · intro q
    first
    | exact (tlt (x := x) (y := y) (Int32.lt_iff_toInt_lt.mpr (by omega))).1
    | exact (flt (x := x) (y := y) (fun r => by have := Int32.lt_iff_toInt_lt.mp r; omega)).2.1
    | exact (tlt (x := y) (y := x) (Int32.lt_iff_toInt_lt.mpr (by omega))).2.2.1
    | exact (flt (x := y) (y := x) (fun r => by have := Int32.lt_iff_toInt_lt.mp r; omega)).2.2.2
    | exact (teq (x := x) (y := y) (Int32.toInt_inj.mp (by omega))).1
    | exact (feq (x := x) (y := y) (fun r => q (by rw [r]))).2
  · intro q
    first
    | exact (flt (x := x) (y := y) (fun r => by have := Int32.lt_iff_toInt_lt.mp r; omega)).1
    | exact (tlt (x := x) (y := y) (Int32.lt_iff_toInt_lt.mpr (by omega))).2.1
    | exact (flt (x := y) (y := x) (fun r => by have := Int32.lt_iff_toInt_lt.mp r; omega)).2.2.1
    | exact (tlt (x := y) (y := x) (Int32.lt_iff_toInt_lt.mpr (by omega))).2.2.2
    | exact (feq (x := x) (y := y) (fun r => q (by rw [r]))).1
    | exact (teq (x := x) (y := y) (Int32.toInt_inj.mp (by omega))).2
theorem w_icmp_ne (X : Stand p l e R s m args below meth c T locs cells slots) (hx : p.tables.exec = Jvm.exec) {x y : Int32} {o : Int} (A B : Int) (ha : x.toInt = A) (hb : y.toInt = B) (hd : decode c.code pc = .ok (.if_icmp .ne o, 3)) (pt pn : Nat) (h1 : ¬ A = B → Wk p e below Fe T (mkF m pt Ls S)) (h2 : A = B → Wk p e below Fe T (mkF m pn Ls S)) (ho : 0 ≤ (pc : Int) + o := by decide) (hp : ((pc : Int) + o).toNat = pt := by decide) (hn : pc + 3 = pn := by rfl) : Wk p e below Fe T (mkF m pc Ls (.int y :: .int x :: S)) := by
  subst hn
  by_cases q : ¬ A = B
  · exact (h1 q).step fun _ k => XS.icmpYes X.here hx rfl rfl hd rfl ((holds_ne ha hb).1 q) ho hp k
  · have q' : A = B := by omega
    exact (h2 q').step fun _ k => XS.icmpNo X.here hx rfl hd rfl ((holds_ne ha hb).2 q') k
theorem w_if_ne (X : Stand p l e R s m args below meth c T locs cells slots) (hx : p.tables.exec = Jvm.exec) {x : Int32} {o : Int} (A : Int) (ha : x.toInt = A) (hd : decode c.code pc = .ok (.ifCond .ne o, 3)) (pt pn : Nat) (h1 : ¬ A = 0 → Wk p e below Fe T (mkF m pt Ls S)) (h2 : A = 0 → Wk p e below Fe T (mkF m pn Ls S)) (ho : 0 ≤ (pc : Int) + o := by decide) (hp : ((pc : Int) + o).toNat = pt := by decide) (hn : pc + 3 = pn := by rfl) : Wk p e below Fe T (mkF m pc Ls (.int x :: S)) := by
  subst hn
  have hb : (0 : Int32).toInt = 0 := rfl
  by_cases q : ¬ A = 0
  · exact (h1 q).step fun _ k => XS.ifYes X.here hx rfl rfl hd rfl ((if0 _ _).trans ((holds_ne ha hb).1 q)) ho hp k
  · have q' : A = 0 := by omega
    exact (h2 q').step fun _ k => XS.ifNo X.here hx rfl hd rfl ((if0 _ _).trans ((holds_ne ha hb).2 q')) k
theorem holds_lt {x y : Int32} {A B : Int} (ha : x.toInt = A) (hb : y.toInt = B) : ((A < B) → if_icmp.holds .lt x y = true) ∧ ((B ≤ A) → if_icmp.holds .lt x y = false) := by
  subst ha hb
  constructor
  · intro q
    first
    | exact (tlt (x := x) (y := y) (Int32.lt_iff_toInt_lt.mpr (by omega))).1
    | exact (flt (x := x) (y := y) (fun r => by have := Int32.lt_iff_toInt_lt.mp r; omega)).2.1
    | exact (tlt (x := y) (y := x) (Int32.lt_iff_toInt_lt.mpr (by omega))).2.2.1
    | exact (flt (x := y) (y := x) (fun r => by have := Int32.lt_iff_toInt_lt.mp r; omega)).2.2.2
    | exact (teq (x := x) (y := y) (Int32.toInt_inj.mp (by omega))).1
    | exact (feq (x := x) (y := y) (fun r => q (by rw [r]))).2
  · intro q
    first
    | exact (flt (x := x) (y := y) (fun r => by have := Int32.lt_iff_toInt_lt.mp r; omega)).1
    | exact (tlt (x := x) (y := y) (Int32.lt_iff_toInt_lt.mpr (by omega))).2.1
    | exact (flt (x := y) (y := x) (fun r => by have := Int32.lt_iff_toInt_lt.mp r; omega)).2.2.1
    | exact (tlt (x := y) (y := x) (Int32.lt_iff_toInt_lt.mpr (by omega))).2.2.2
    | exact (feq (x := x) (y := y) (fun r => q (by rw [r]))).1
    | exact (teq (x := x) (y := y) (Int32.toInt_inj.mp (by omega))).2
theorem w_icmp_lt (X : Stand p l e R s m args below meth c T locs cells slots) (hx : p.tables.exec = Jvm.exec) {x y : Int32} {o : Int} (A B : Int) (ha : x.toInt = A) (hb : y.toInt = B) (hd : decode c.code pc = .ok (.if_icmp .lt o, 3)) (pt pn : Nat) (h1 : A < B → Wk p e below Fe T (mkF m pt Ls S)) (h2 : B ≤ A → Wk p e below Fe T (mkF m pn Ls S)) (ho : 0 ≤ (pc : Int) + o := by decide) (hp : ((pc : Int) + o).toNat = pt := by decide) (hn : pc + 3 = pn := by rfl) : Wk p e below Fe T (mkF m pc Ls (.int y :: .int x :: S)) := by
  subst hn
  by_cases q : A < B
  · exact (h1 q).step fun _ k => XS.icmpYes X.here hx rfl rfl hd rfl ((holds_lt ha hb).1 q) ho hp k
  · have q' : B ≤ A := by omega
    exact (h2 q').step fun _ k => XS.icmpNo X.here hx rfl hd rfl ((holds_lt ha hb).2 q') k
theorem holds_ge {x y : Int32} {A B : Int} (ha : x.toInt = A) (hb : y.toInt = B) : ((B ≤ A) → if_icmp.holds .ge x y = true) ∧ ((A < B) → if_icmp.holds .ge x y = false) := by
  subst ha hb
  constructor
  · intro q
    first
    | exact (tlt (x := x) (y := y) (Int32.lt_iff_toInt_lt.mpr (by omega))).1
    | exact (flt (x := x) (y := y) (fun r => by have := Int32.lt_iff_toInt_lt.mp r; omega)).2.1
    | exact (tlt (x := y) (y := x) (Int32.lt_iff_toInt_lt.mpr (by omega))).2.2.1
    | exact (flt (x := y) (y := x) (fun r => by have := Int32.lt_iff_toInt_lt.mp r; omega)).2.2.2
    | exact (teq (x := x) (y := y) (Int32.toInt_inj.mp (by omega))).1
    | exact (feq (x := x) (y := y) (fun r => q (by rw [r]))).2
  · intro q
    first
    | exact (flt (x := x) (y := y) (fun r => by have := Int32.lt_iff_toInt_lt.mp r; omega)).1
    | exact (tlt (x := x) (y := y) (Int32.lt_iff_toInt_lt.mpr (by omega))).2.1
    | exact (flt (x := y) (y := x) (fun r => by have := Int32.lt_iff_toInt_lt.mp r; omega)).2.2.1
    | exact (tlt (x := y) (y := x) (Int32.lt_iff_toInt_lt.mpr (by omega))).2.2.2
    | exact (feq (x := x) (y := y) (fun r => q (by rw [r]))).1
    | exact (teq (x := x) (y := y) (Int32.toInt_inj.mp (by omega))).2
theorem w_icmp_ge (X : Stand p l e R s m args below meth c T locs cells slots) (hx : p.tables.exec = Jvm.exec) {x y : Int32} {o : Int} (A B : Int) (ha : x.toInt = A) (hb : y.toInt = B) (hd : decode c.code pc = .ok (.if_icmp .ge o, 3)) (pt pn : Nat) (h1 : B ≤ A → Wk p e below Fe T (mkF m pt Ls S)) (h2 : A < B → Wk p e below Fe T (mkF m pn Ls S)) (ho : 0 ≤ (pc : Int) + o := by decide) (hp : ((pc : Int) + o).toNat = pt := by decide) (hn : pc + 3 = pn := by rfl) : Wk p e below Fe T (mkF m pc Ls (.int y :: .int x :: S)) := by
  subst hn
  by_cases q : B ≤ A
  · exact (h1 q).step fun _ k => XS.icmpYes X.here hx rfl rfl hd rfl ((holds_ge ha hb).1 q) ho hp k
  · have q' : A < B := by omega
    exact (h2 q').step fun _ k => XS.icmpNo X.here hx rfl hd rfl ((holds_ge ha hb).2 q') k
theorem w_retN (X : Stand p l e R s m args below meth c T locs cells slots) (hx : p.tables.exec = Jvm.exec) (hlocks : meth.locks = false) {t : FieldType} {z : Int32} (hret : meth.sig.returnType = some t) (ht : t = .boolean ∨ t = .byte ∨ t = .char ∨ t = .short) (hd : decode c.code pc = .ok (.ireturn, 1)) (hc : cells ≤ kc) (hs : slots ≤ ks) (hQ : Q (some (.int (nar t z))) T.heap locs) : Wk p e below (FN s Q kc ks) T (mkF m pc Ls (.int z :: S)) := by
  obtain ⟨fs, hr, hrun, hended, hW, hsame⟩ := X.leave (v := some (.int (nar t z))) (fun h => by rw [hret] at h; cases h) hlocks
  exact ⟨_, _, retN X hx hret ht hd hr, hrun, hended, _, _, rfl, hQ, ⟨_, rfl⟩, hW, hsame.mono hc hs⟩
theorem w_retO (X : Stand p l e R s m args below meth c T locs cells slots) (hx : p.tables.exec = Jvm.exec) (hlocks : meth.locks = false) {t : FieldType} {w : Value} {i : Instr} (hret : meth.sig.returnType = some t) (hn : narrow t w = w)
    (hi : (i = .ireturn ∧ (t = .int ∨ t = .boolean ∨ t = .byte ∨ t = .char ∨ t = .short) ∧ ∃ z, w = .int z) ∨ (i = .lreturn ∧ t = .long ∧ ∃ z, w = .long z) ∨ (i = .dreturn ∧ t = .double ∧ ∃ z, w = .double z) ∨ (i = .freturn ∧ t = .float ∧ ∃ z, w = .float z) ∨ (i = .areturn ∧ t.isReference = true ∧ w.isRef = true))
    (hd : decode c.code pc = .ok (i, 1)) (hc : cells ≤ kc) (hs : slots ≤ ks) (hQ : Q (some w) T.heap locs) : Wk p e below (FN s Q kc ks) T (mkF m pc Ls (w :: S)) := by
  obtain ⟨fs, hr, hrun, hended, hW, hsame⟩ := X.leave (v := some w) (fun h => by rw [hret] at h; cases h) hlocks
  exact ⟨_, _, retOut X hx hret hn hi hd hr, hrun, hended, _, _, rfl, hQ, ⟨_, rfl⟩, hW, hsame.mono hc hs⟩
theorem w_retA (X : Stand p l e R s m args below meth c T locs cells slots) (hx : p.tables.exec = Jvm.exec) (hlocks : meth.locks = false) {t : FieldType} {w : Value} (hret : meth.sig.returnType = some t) (ht : t.isReference = true) (hw : w.isRef = true) (hd : decode c.code pc = .ok (.areturn, 1)) (hc : cells ≤ kc) (hs : slots ≤ ks) (hQ : Q (some w) T.heap locs) : Wk p e below (FN s Q kc ks) T (mkF m pc Ls (w :: S)) :=
  w_retO X hx hlocks hret (by cases t <;> first | (cases ht; done) | (cases w <;> first | rfl | (cases hw; done))) (Or.inr (Or.inr (Or.inr (Or.inr ⟨rfl, ht, hw⟩)))) hd hc hs hQ
theorem w_ret0 (X : Stand p l e R s m args below meth c T locs cells slots) (hx : p.tables.exec = Jvm.exec) (hlocks : meth.locks = false) (hret : meth.sig.returnType = none) (hd : decode c.code pc = .ok (.return_, 1)) (hc : cells ≤ kc) (hs : slots ≤ ks) (hQ : Q none T.heap locs) : Wk p e below (FN s Q kc ks) T (mkF m pc Ls []) := by
  obtain ⟨fs, hr, hrun, hended, hW, hsame⟩ := X.leave (v := none) (fun _ => rfl) hlocks
  exact ⟨_, _, X.returnOut hx hret hd hr, hrun, hended, _, _, rfl, hQ, ⟨_, rfl⟩, hW, hsame.mono hc hs⟩
theorem w_callS (X : Stand p l e R s m args below meth c T locs cells slots) (hx : p.tables.exec = Jvm.exec) (hZ : Z.Warmed39 s.vm) {own : String} {index : Nat} {y : MethodName} {bytes : ByteArray} {maxL : Nat} {ret : Option FieldType} {rm : Room} {as' : Array Value} {Qc : Option Value → Heap → List Loc → Prop} (hown : s.vm.findClass own = some m.cls) (eT : T.heap = h)
    (hM : MetFree l y (head1 [Cond.code y bytes maxL ret] rm) (fun a U => a = as' ∧ Z.Warmed39 U.vm ∧ U.heap = h) (fun _ _ _ _ _ => True) (fun _ U o U' => ∃ v L, o = .returned v ∧ Qc v U'.heap L ∧ FrameEnd U o U' L rm.cells rm.slots))
    (w1 : (Cond.methodLink own index y).before a0 Z = true) (w2 : (Cond.static y).before a0 Z = true) (w3 : (Cond.initialized y.cls).before a0 Z = true) (w4 : (Cond.code y bytes maxL ret).before a0 Z = true) (hy : y.cls ≠ "java/lang/invoke/MethodHandle" ∧ y.cls ≠ "java/lang/invoke/VarHandle")
    (hsize : Ls.size = c.maxLocals) (argsL rest : List Value) (hlen : ∀ sig, parseMethodDescriptor y.desc = some sig → argsL.length = sig.parameters.length) (hst : S = argsL.reverse ++ rest) (has : argsL.toArray = as')
    (hf : rm.frames + 1 ≤ R.frames) (W : Nat) (hW : (rest.map fun v => v.category).sum = W) (hl : W + (maxL + 11) + rm.locals ≤ R.locals) (hc : cells + rm.cells ≤ R.cells) (hs : slots + rm.slots ≤ R.slots) (hd : decode c.code pc = .ok (.invokestatic index, 3)) (pc' : Nat) (hp : pc + 3 = pc')
    (k : ∀ (v : Option Value) (T' : State) (L : List Loc), Stand p l e R s m args below meth c T' (locs ++ L) (cells + rm.cells) (slots + rm.slots) → Qc v T'.heap L → Wk p e below Fe T' (mkF m pc' Ls (v.toList ++ rest))) : Wk p e below Fe T (mkF m pc Ls S) := by
  subst hp hst has hW
  obtain ⟨v, _, ⟨T', L', k', n'⟩, -, X', ⟨Lc, q1, q2, q3, q4⟩, st⟩ := Jvm.LawKit.callS X hx hown (mvT hZ w1) (mvT hZ w2) (mvT hZ w3) (mvT hZ w4) hy (backOf hM hZ w4 w3 hf hl) (g := mkF m pc Ls (argsL.reverse ++ rest)) rfl hsize hlen rfl (by show 2 * 0 + _ ≤ _; rw [Nat.mul_zero, Nat.zero_add]; exact Nat.le_refl _) hd (fun _ _ => ⟨rfl, eT, hc, hs⟩)
  dsimp only [Pt.U, Pt.locs, Pt.cells, Pt.slots] at X' q2 q3 q4 st q1
  subst q2 q3 q4
  exact (k v T' Lc X' q1).step st
theorem w_newP (X : Stand p l e R s m args below meth c T locs cells slots) (hx : p.tables.exec = Jvm.exec) (hZ : Z.Warmed39 s.vm) (eT : T.heap = h) {aty : ArrayType} (w : (Cond.arrayClass (newarray.typeOf aty)).before a0 Z = true) {n : Int32} (hn : ¬ n < 0) (cap : Nat) (hcap : n.toNatClampNeg ≤ cap) (hb : cap * 8 ≤ 536870912) (hc : cells + 1 ≤ R.cells) (hl : slots + cap ≤ R.slots) (hd : decode c.code pc = .ok (.newarray aty, 2)) (pc' : Nat) (hp : pc + 2 = pc')
    (k : ∀ (T' : State) (h' : Heap) (a : Addr) (cA : ClassId), Stand p l e R s m args below meth c T' locs (cells + 1) (slots + cap) → T'.heap = h' → a = h.size → Ext h h' → Arv Z h' a cA (newarray.typeOf aty) n [] (defaultValue (newarray.typeOf aty)) → Wk p e below Fe T' (mkF m pc' Ls (.ref a :: S))) : Wk p e below Fe T (mkF m pc Ls (.int n :: S)) := by
  subst hp
  obtain ⟨T', h', cA, X', e', E', A', st⟩ := newP X hx hZ w eT (g := mkF m pc Ls (.int n :: S)) rfl hd rfl hn hcap hb hc hl
  exact (k T' h' _ cA X' e' rfl E' (Arv.new A' hn)).step st
theorem w_length (X : Stand p l e R s m args below meth c T locs cells slots) (hx : p.tables.exec = Jvm.exec) (hZ : Z.Warmed39 s.vm) (eT : T.heap = h) {a : Addr} {kA : ClassId} {ty : FieldType} {z : Int32} {vs : List Value} {dv : Value} (A : Arv Z h a kA ty z vs dv) (hd : decode c.code pc = .ok (.arraylength, 1)) (pc' : Nat) (hp : pc + 1 = pc')
    (k : Wk p e below Fe T (mkF m pc' Ls (.int z :: S))) : Wk p e below Fe T (mkF m pc Ls (.ref a :: S)) := by
  subst hp
  obtain ⟨cl, Ar, -, Sz, Nz, -, -⟩ := A
  refine k.step fun t q => X.arraylength hx (by rw [eT]; exact Ar.1) (State.isArrayOf_alike hZ.alike Ar.2.1) (g := mkF m pc Ls (.ref a :: S)) rfl rfl hd t ?_
  rw [len_of Sz Nz]; exact q
theorem w_bastore (X : Stand p l e R s m args below meth c T locs cells slots) (hx : p.tables.exec = Jvm.exec) (hZ : Z.Warmed39 s.vm) (eT : T.heap = h) {a : Addr} {kA : ClassId} {z : Int32} {vs : List Value} {dv : Value} (A : Arv Z h a kA .byte z vs dv) {j x : Int32} (hj : 0 ≤ j.toInt ∧ j.toInt < z.toInt) (i : Nat) (hi : j.toNatClampNeg = i) (hv : i < vs.length) (hd : decode c.code pc = .ok (.bastore, 1)) (pc' : Nat) (hp : pc + 1 = pc')
    (k : ∀ (T' : State) (h' : Heap), Stand p l e R s m args below meth c T' (locs ++ [⟨a, j.toNatClampNeg⟩]) cells slots → T'.heap = h' → Wr h h' a j.toNatClampNeg (.int x.toInt8.toInt32) → Arv Z h' a kA .byte z (vs.set i (.int x.toInt8.toInt32)) dv → Wk p e below Fe T' (mkF m pc' Ls S)) : Wk p e below Fe T (mkF m pc Ls (.int x :: .int j :: .ref a :: S)) := by
  subst hp
  obtain ⟨cl, Ar, q, Sz, Nz, H, G⟩ := A
  have hin : ¬ (j < 0 ∨ cl.slots.size ≤ j.toNatClampNeg) := inb_of Sz ⟨fun r => by have := Int32.lt_iff_toInt_lt.mp r; have h0 : (0 : Int32).toInt = 0 := rfl; omega, Int32.lt_iff_toInt_lt.mpr hj.2⟩
  obtain ⟨T', h', X', e', W', st⟩ := stB X hx hZ eT Ar hin (g := mkF m pc Ls (.int x :: .int j :: .ref a :: S)) rfl rfl hd
  exact (k T' h' X' e' W' (Arv.set Ar q Sz Nz H G (fits_nar_byte _) W' i hi hv)).step st
theorem w_baload (X : Stand p l e R s m args below meth c T locs cells slots) (hx : p.tables.exec = Jvm.exec) (hZ : Z.Warmed39 s.vm) (eT : T.heap = h) {a : Addr} {kA : ClassId} {z : Int32} {vs : List Value} {dv : Value} (A : Arv Z h a kA .byte z vs dv) {j : Int32} (hj : 0 ≤ j.toInt ∧ j.toInt < z.toInt) {v : Value} (hv : vs.getD j.toNatClampNeg dv = v) (hd : decode c.code pc = .ok (.baload, 1)) (pc' : Nat) (hp : pc + 1 = pc')
    (k : Wk p e below Fe T (mkF m pc' Ls (v :: S))) : Wk p e below Fe T (mkF m pc Ls (.int j :: .ref a :: S)) := by
  subst hp
  obtain ⟨cl, Ar, q, Sz, Nz, H, G⟩ := A
  have hin : ¬ (j < 0 ∨ cl.slots.size ≤ j.toNatClampNeg) := inb_of Sz ⟨fun r => by have := Int32.lt_iff_toInt_lt.mp r; have h0 : (0 : Int32).toInt = 0 := rfl; omega, Int32.lt_iff_toInt_lt.mpr hj.2⟩
  exact k.step fun t r => X.baloadBytes hx (by rw [eT]; exact Ar.1) (State.isArrayOf_alike hZ.alike Ar.2.1) Ar.2.2 hin (Has.at H hin hv) (g := mkF m pc Ls (.int j :: .ref a :: S)) rfl rfl hd t r
abbrev CT (l : Launch) (y : MethodName) (bytes : ByteArray) (maxL : Nat) (ret : Option FieldType) (ws : List Cond) (rm : Room) (as' : Array Value) (Z : State) (h0 : Heap) (Q : Option Value → Heap → List Loc → Prop) : Prop :=
  MetFree l y (head1 (Cond.code y bytes maxL ret :: ws) rm) (fun a U => a = as' ∧ Z.Warmed39 U.vm ∧ U.heap = h0) (fun _ _ _ _ _ => True) (fun _ U o U' => ∃ v L, o = .returned v ∧ Q v U'.heap L ∧ FrameEnd U o U' L rm.cells rm.slots)
theorem body_of {y : MethodName} {bytes : ByteArray} {maxL : Nat} {ret : Option FieldType} {ws : List Cond} {rm : Room} {as' : Array Value} {h0 : Heap} (hpl : plainFor y = true)
    (k : ∀ (p : Program) (e : Env) (s : State) (m : MethodId) (below : List Frame) (meth : Method) (c : Code) (s₁ : State), p.tables.exec = Jvm.exec → (∀ {pc : Nat} {r : Except DecodeError (Instr × Nat)}, decode bytes pc = r → decode c.code pc = r) → meth.sig.returnType = ret → meth.locks = false → c.maxLocals = maxL → s.vm.findClass y.cls = some m.cls → meth.name = y.name → Stand p l e rm s m as' below meth c s₁ [] 0 0 → s₁.heap = h0 → Z.Warmed39 s.vm → Wk p e below (FN s Q kc ks) s₁ (entryFrame m as' maxL)) :
    MetFree l y (head1 (Cond.code y bytes maxL ret :: ws) rm) (fun a U => a = as' ∧ Z.Warmed39 U.vm ∧ U.heap = h0) (fun _ _ _ _ _ => True) (fun _ U o U' => ∃ v L, o = .returned v ∧ Q v U'.heap L ∧ FrameEnd U o U' L kc ks) := by
  refine MetFree.of_bodySF hpl hisR ?_
  intro p e s m args below meth c s₁ Bd hml0 hP hK
  obtain ⟨rfl, hZ, hh⟩ := hP
  obtain ⟨s₂, o, h1, h2⟩ := k p e s m below meth c s₁ Bd.exec (fun q => hb Bd.bytes q) Bd.returns Bd.notSynchronized hml0 (findClass_of_methodNamed Bd.named) (name_of_methodNamed Bd.named Bd.method).1 (Stand.of_body Bd) (by rw [← hh, Bd.state]; rfl) hZ
  exact ⟨s₂, o, h1, h2⟩
end Walk
/-! plain facts on Int32 and Int64, in Ints -/
theorem eqI {x y : Int32} (h : x.toInt = y.toInt) : x = y := Int32.toInt_inj.mp h
theorem addX {x y : Int32} {A B : Int} (ha : x.toInt = A) (hb : y.toInt = B) (h1 : -2147483648 ≤ A + B) (h2 : A + B < 2147483648) : (x + y).toInt = A + B := by
  have := c_iadd x y; have := rng32 (x + y); omega
theorem maskX {x m : Int32} {A : Int} (k : Nat) (ha : x.toInt = A) (hk : k ≤ 31) (hm : m.toBitVec.toNat = 2 ^ k - 1) : (x &&& m).toInt = A % (2 ^ k : Nat) := by subst ha; exact c_mask x m k hk hm
theorem iushrX {x q : Int32} {A : Int} (k : Nat) (ha : x.toInt = A) (hk : q.toBitVec.toNat % 32 = k) (h0 : 0 < k) : ((x.toUInt32 >>> (q &&& 31).toUInt32).toInt32).toInt = (A % 4294967296) / (2 ^ k : Nat) := by subst ha; exact c_iushr x q k hk h0
theorem iremX {x y : Int32} {A d : Int} (ha : x.toInt = A) (hy : y.toInt = d) (h0 : 0 ≤ A) : (x % y).toInt = A % d := by subst ha; exact (c_irem x y d hy).1 h0
theorem i2bX {x : Int32} {A : Int} (ha : x.toInt = A) : (x.toInt8.toInt32.toInt - A) % 256 = 0 ∧ -128 ≤ x.toInt8.toInt32.toInt ∧ x.toInt8.toInt32.toInt < 128 := by
  subst ha; exact c_i2b x
theorem byteE {x : Int32} {A : Int} (ha : x.toInt = A) (h0 : -128 ≤ A) (h1 : A < 128) : x.toInt8.toInt32.toInt = x.toInt := by
  have := c_i2b x; omega
theorem i2lX {x : Int32} {A : Int} (ha : x.toInt = A) : x.toInt64.toInt = A := by subst ha; exact c_i2l x
theorem narB {x : Int32} {A : Int} (ha : x.toInt = A) (h0 : -128 ≤ A) (h1 : A < 128) : nar .byte x = x := eqI (byteE ha h0 h1)
end Jvm.Own
namespace Jvm.Pilot.@@N@@
open Jvm Jvm.ClassFile Sem Op Lib Jvm.Free Jvm.Stand Jvm.LawKit Jvm.RoadKit Bundle Jvm.Own Jvm.Pilot.@@N@@.Jvm.D
abbrev cN_0 : String := "com/example/nodecard/nodecard/aka/MilenageXorIntoPinLaw"
abbrev cN_1 : String := "com/example/nodecard/nodecard/aka/Milenage"
theorem tw_0 {Z : State} {a0 : Array Value} (hw : ∀ d ∈ tables_1, d.before a0 Z = true) : (Jvm.Cond.constant "com/example/nodecard/nodecard/aka/MilenageXorIntoPinLaw" (13 : Nat) (2147483647 : Int32)).before a0 Z = true := hw _ (List.mem_of_getElem? (i := 0) rfl)
theorem tw_1 {Z : State} {a0 : Array Value} (hw : ∀ d ∈ tables_1, d.before a0 Z = true) : (Jvm.Cond.methodLink "com/example/nodecard/nodecard/aka/MilenageXorIntoPinLaw" (14 : Nat) ({ cls := "com/example/nodecard/nodecard/aka/MilenageXorIntoPinLaw", name := "make", desc := "(IJ)[B" } : Jvm.MethodName)).before a0 Z = true := hw _ (List.mem_of_getElem? (i := 1) rfl)
theorem tw_2 {Z : State} {a0 : Array Value} (hw : ∀ d ∈ tables_1, d.before a0 Z = true) : (Jvm.Cond.static ({ cls := "com/example/nodecard/nodecard/aka/MilenageXorIntoPinLaw", name := "make", desc := "(IJ)[B" } : Jvm.MethodName)).before a0 Z = true := hw _ (List.mem_of_getElem? (i := 2) rfl)
theorem tw_3 {Z : State} {a0 : Array Value} (hw : ∀ d ∈ tables_1, d.before a0 Z = true) : (Jvm.Cond.initialized "com/example/nodecard/nodecard/aka/MilenageXorIntoPinLaw").before a0 Z = true := hw _ (List.mem_of_getElem? (i := 3) rfl)
theorem tw_4 {Z : State} {a0 : Array Value} (hw : ∀ d ∈ tables_1, d.before a0 Z = true) : (Jvm.Cond.code ({ cls := "com/example/nodecard/nodecard/aka/MilenageXorIntoPinLaw", name := "make", desc := "(IJ)[B" } : Jvm.MethodName) method_3_code (3 : Nat) (Option.some (Jvm.ClassFile.FieldType.array Jvm.ClassFile.FieldType.byte))).before a0 Z = true := hw _ (List.mem_of_getElem? (i := 4) rfl)
theorem tw_5 {Z : State} {a0 : Array Value} (hw : ∀ d ∈ tables_1, d.before a0 Z = true) : (Jvm.Cond.arrayClass Jvm.ClassFile.FieldType.byte).before a0 Z = true := hw _ (List.mem_of_getElem? (i := 5) rfl)
theorem tw_6 {Z : State} {a0 : Array Value} (hw : ∀ d ∈ tables_1, d.before a0 Z = true) : (Jvm.Cond.methodLink "com/example/nodecard/nodecard/aka/MilenageXorIntoPinLaw" (7 : Nat) ({ cls := "com/example/nodecard/nodecard/aka/MilenageXorIntoPinLaw", name := "bt", desc := "(JI)B" } : Jvm.MethodName)).before a0 Z = true := hw _ (List.mem_of_getElem? (i := 6) rfl)
theorem tw_7 {Z : State} {a0 : Array Value} (hw : ∀ d ∈ tables_1, d.before a0 Z = true) : (Jvm.Cond.static ({ cls := "com/example/nodecard/nodecard/aka/MilenageXorIntoPinLaw", name := "bt", desc := "(JI)B" } : Jvm.MethodName)).before a0 Z = true := hw _ (List.mem_of_getElem? (i := 7) rfl)
theorem tw_8 {Z : State} {a0 : Array Value} (hw : ∀ d ∈ tables_1, d.before a0 Z = true) : (Jvm.Cond.code ({ cls := "com/example/nodecard/nodecard/aka/MilenageXorIntoPinLaw", name := "bt", desc := "(JI)B" } : Jvm.MethodName) method_2_code (3 : Nat) (Option.some Jvm.ClassFile.FieldType.byte)).before a0 Z = true := hw _ (List.mem_of_getElem? (i := 8) rfl)
theorem tw_9 {Z : State} {a0 : Array Value} (hw : ∀ d ∈ tables_1, d.before a0 Z = true) : (Jvm.Cond.methodLink "com/example/nodecard/nodecard/aka/MilenageXorIntoPinLaw" (18 : Nat) ({ cls := "com/example/nodecard/nodecard/aka/Milenage", name := "xorInto", desc := "([B[B)V" } : Jvm.MethodName)).before a0 Z = true := hw _ (List.mem_of_getElem? (i := 9) rfl)
theorem tw_10 {Z : State} {a0 : Array Value} (hw : ∀ d ∈ tables_1, d.before a0 Z = true) : (Jvm.Cond.static ({ cls := "com/example/nodecard/nodecard/aka/Milenage", name := "xorInto", desc := "([B[B)V" } : Jvm.MethodName)).before a0 Z = true := hw _ (List.mem_of_getElem? (i := 10) rfl)
theorem tw_11 {Z : State} {a0 : Array Value} (hw : ∀ d ∈ tables_1, d.before a0 Z = true) : (Jvm.Cond.initialized "com/example/nodecard/nodecard/aka/Milenage").before a0 Z = true := hw _ (List.mem_of_getElem? (i := 11) rfl)
theorem tw_12 {Z : State} {a0 : Array Value} (hw : ∀ d ∈ tables_1, d.before a0 Z = true) : (Jvm.Cond.code ({ cls := "com/example/nodecard/nodecard/aka/Milenage", name := "xorInto", desc := "([B[B)V" } : Jvm.MethodName) prog_6_method_16_code (3 : Nat) (Option.none : Option Jvm.ClassFile.FieldType)).before a0 Z = true := hw _ (List.mem_of_getElem? (i := 12) rfl)
theorem tw_13 {Z : State} {a0 : Array Value} (hw : ∀ d ∈ tables_1, d.before a0 Z = true) : (Jvm.Cond.methodLink "com/example/nodecard/nodecard/aka/MilenageXorIntoPinLaw" (24 : Nat) ({ cls := "com/example/nodecard/nodecard/aka/MilenageXorIntoPinLaw", name := "tOk", desc := "([BIIJJ)Z" } : Jvm.MethodName)).before a0 Z = true := hw _ (List.mem_of_getElem? (i := 13) rfl)
theorem tw_14 {Z : State} {a0 : Array Value} (hw : ∀ d ∈ tables_1, d.before a0 Z = true) : (Jvm.Cond.static ({ cls := "com/example/nodecard/nodecard/aka/MilenageXorIntoPinLaw", name := "tOk", desc := "([BIIJJ)Z" } : Jvm.MethodName)).before a0 Z = true := hw _ (List.mem_of_getElem? (i := 14) rfl)
theorem tw_15 {Z : State} {a0 : Array Value} (hw : ∀ d ∈ tables_1, d.before a0 Z = true) : (Jvm.Cond.code ({ cls := "com/example/nodecard/nodecard/aka/MilenageXorIntoPinLaw", name := "tOk", desc := "([BIIJJ)Z" } : Jvm.MethodName) method_4_code (7 : Nat) (Option.some Jvm.ClassFile.FieldType.boolean)).before a0 Z = true := hw _ (List.mem_of_getElem? (i := 15) rfl)
theorem tw_16 {Z : State} {a0 : Array Value} (hw : ∀ d ∈ tables_1, d.before a0 Z = true) : (Jvm.Cond.methodLink "com/example/nodecard/nodecard/aka/MilenageXorIntoPinLaw" (28 : Nat) ({ cls := "com/example/nodecard/nodecard/aka/MilenageXorIntoPinLaw", name := "mOk", desc := "([BIIJ)Z" } : Jvm.MethodName)).before a0 Z = true := hw _ (List.mem_of_getElem? (i := 16) rfl)
theorem tw_17 {Z : State} {a0 : Array Value} (hw : ∀ d ∈ tables_1, d.before a0 Z = true) : (Jvm.Cond.static ({ cls := "com/example/nodecard/nodecard/aka/MilenageXorIntoPinLaw", name := "mOk", desc := "([BIIJ)Z" } : Jvm.MethodName)).before a0 Z = true := hw _ (List.mem_of_getElem? (i := 17) rfl)
theorem tw_18 {Z : State} {a0 : Array Value} (hw : ∀ d ∈ tables_1, d.before a0 Z = true) : (Jvm.Cond.code ({ cls := "com/example/nodecard/nodecard/aka/MilenageXorIntoPinLaw", name := "mOk", desc := "([BIIJ)Z" } : Jvm.MethodName) method_5_code (5 : Nat) (Option.some Jvm.ClassFile.FieldType.boolean)).before a0 Z = true := hw _ (List.mem_of_getElem? (i := 18) rfl)
theorem d2_0 : decode method_2_code 0 = .ok (.lload_n 0, 1) := by decide +kernel
theorem d2_1 : decode method_2_code 1 = .ok (.bipush 8, 2) := by decide +kernel
theorem d2_3 : decode method_2_code 3 = .ok (.iload_n 2, 1) := by decide +kernel
theorem d2_4 : decode method_2_code 4 = .ok (.imul, 1) := by decide +kernel
theorem d2_5 : decode method_2_code 5 = .ok (.lushr, 1) := by decide +kernel
theorem d2_6 : decode method_2_code 6 = .ok (.l2i, 1) := by decide +kernel
theorem d2_7 : decode method_2_code 7 = .ok (.i2b, 1) := by decide +kernel
theorem d2_8 : decode method_2_code 8 = .ok (.ireturn, 1) := by decide +kernel
theorem pn_0 : plainName "com/example/nodecard/nodecard/aka/MilenageXorIntoPinLaw" = true := by first | (simp [plainName, overriddenIn]; done) | decide +kernel
abbrev mN_2 : MethodName := ⟨"com/example/nodecard/nodecard/aka/MilenageXorIntoPinLaw", "bt", "(JI)B"⟩
theorem pd_0 : parseMethodDescriptor "(JI)B" = some ⟨[.long, .int], some .byte⟩ := by decide +kernel
theorem d1_0 : decode method_3_code 0 = .ok (.iload_n 0, 1) := by decide +kernel
theorem d1_1 : decode method_3_code 1 = .ok (.ifCond .ne 7, 3) := by decide +kernel
theorem d1_4 : decode method_3_code 4 = .ok (.iconst 0, 1) := by decide +kernel
theorem d1_5 : decode method_3_code 5 = .ok (.newarray .byte, 2) := by decide +kernel
theorem d1_7 : decode method_3_code 7 = .ok (.areturn, 1) := by decide +kernel
theorem d1_8 : decode method_3_code 8 = .ok (.iload_n 0, 1) := by decide +kernel
theorem d1_9 : decode method_3_code 9 = .ok (.iconst 1, 1) := by decide +kernel
theorem d1_10 : decode method_3_code 10 = .ok (.if_icmp .ne 15, 3) := by decide +kernel
theorem d1_13 : decode method_3_code 13 = .ok (.iconst 1, 1) := by decide +kernel
theorem d1_14 : decode method_3_code 14 = .ok (.newarray .byte, 2) := by decide +kernel
theorem d1_16 : decode method_3_code 16 = .ok (.dup, 1) := by decide +kernel
theorem d1_17 : decode method_3_code 17 = .ok (.iconst 0, 1) := by decide +kernel
theorem d1_18 : decode method_3_code 18 = .ok (.lload_n 1, 1) := by decide +kernel
theorem d1_19 : decode method_3_code 19 = .ok (.iconst 0, 1) := by decide +kernel
theorem d1_20 : decode method_3_code 20 = .ok (.invokestatic 7, 3) := by decide +kernel
theorem d1_23 : decode method_3_code 23 = .ok (.bastore, 1) := by decide +kernel
theorem d1_24 : decode method_3_code 24 = .ok (.areturn, 1) := by decide +kernel
theorem d1_25 : decode method_3_code 25 = .ok (.iload_n 0, 1) := by decide +kernel
theorem d1_26 : decode method_3_code 26 = .ok (.iconst 2, 1) := by decide +kernel
theorem d1_27 : decode method_3_code 27 = .ok (.if_icmp .ne 23, 3) := by decide +kernel
theorem d1_30 : decode method_3_code 30 = .ok (.iconst 2, 1) := by decide +kernel
theorem d1_31 : decode method_3_code 31 = .ok (.newarray .byte, 2) := by decide +kernel
theorem d1_33 : decode method_3_code 33 = .ok (.dup, 1) := by decide +kernel
theorem d1_34 : decode method_3_code 34 = .ok (.iconst 0, 1) := by decide +kernel
theorem d1_35 : decode method_3_code 35 = .ok (.lload_n 1, 1) := by decide +kernel
theorem d1_36 : decode method_3_code 36 = .ok (.iconst 0, 1) := by decide +kernel
theorem d1_37 : decode method_3_code 37 = .ok (.invokestatic 7, 3) := by decide +kernel
theorem d1_40 : decode method_3_code 40 = .ok (.bastore, 1) := by decide +kernel
theorem d1_41 : decode method_3_code 41 = .ok (.dup, 1) := by decide +kernel
theorem d1_42 : decode method_3_code 42 = .ok (.iconst 1, 1) := by decide +kernel
theorem d1_43 : decode method_3_code 43 = .ok (.lload_n 1, 1) := by decide +kernel
theorem d1_44 : decode method_3_code 44 = .ok (.iconst 1, 1) := by decide +kernel
theorem d1_45 : decode method_3_code 45 = .ok (.invokestatic 7, 3) := by decide +kernel
theorem d1_48 : decode method_3_code 48 = .ok (.bastore, 1) := by decide +kernel
theorem d1_49 : decode method_3_code 49 = .ok (.areturn, 1) := by decide +kernel
theorem d1_50 : decode method_3_code 50 = .ok (.iload_n 0, 1) := by decide +kernel
theorem d1_51 : decode method_3_code 51 = .ok (.iconst 3, 1) := by decide +kernel
theorem d1_52 : decode method_3_code 52 = .ok (.if_icmp .ne 31, 3) := by decide +kernel
theorem d1_55 : decode method_3_code 55 = .ok (.iconst 3, 1) := by decide +kernel
theorem d1_56 : decode method_3_code 56 = .ok (.newarray .byte, 2) := by decide +kernel
theorem d1_58 : decode method_3_code 58 = .ok (.dup, 1) := by decide +kernel
theorem d1_59 : decode method_3_code 59 = .ok (.iconst 0, 1) := by decide +kernel
theorem d1_60 : decode method_3_code 60 = .ok (.lload_n 1, 1) := by decide +kernel
theorem d1_61 : decode method_3_code 61 = .ok (.iconst 0, 1) := by decide +kernel
theorem d1_62 : decode method_3_code 62 = .ok (.invokestatic 7, 3) := by decide +kernel
theorem d1_65 : decode method_3_code 65 = .ok (.bastore, 1) := by decide +kernel
theorem d1_66 : decode method_3_code 66 = .ok (.dup, 1) := by decide +kernel
theorem d1_67 : decode method_3_code 67 = .ok (.iconst 1, 1) := by decide +kernel
theorem d1_68 : decode method_3_code 68 = .ok (.lload_n 1, 1) := by decide +kernel
theorem d1_69 : decode method_3_code 69 = .ok (.iconst 1, 1) := by decide +kernel
theorem d1_70 : decode method_3_code 70 = .ok (.invokestatic 7, 3) := by decide +kernel
theorem d1_73 : decode method_3_code 73 = .ok (.bastore, 1) := by decide +kernel
theorem d1_74 : decode method_3_code 74 = .ok (.dup, 1) := by decide +kernel
theorem d1_75 : decode method_3_code 75 = .ok (.iconst 2, 1) := by decide +kernel
theorem d1_76 : decode method_3_code 76 = .ok (.lload_n 1, 1) := by decide +kernel
theorem d1_77 : decode method_3_code 77 = .ok (.iconst 2, 1) := by decide +kernel
theorem d1_78 : decode method_3_code 78 = .ok (.invokestatic 7, 3) := by decide +kernel
theorem d1_81 : decode method_3_code 81 = .ok (.bastore, 1) := by decide +kernel
theorem d1_82 : decode method_3_code 82 = .ok (.areturn, 1) := by decide +kernel
theorem d1_83 : decode method_3_code 83 = .ok (.iload_n 0, 1) := by decide +kernel
theorem d1_84 : decode method_3_code 84 = .ok (.iconst 4, 1) := by decide +kernel
theorem d1_85 : decode method_3_code 85 = .ok (.if_icmp .ne 39, 3) := by decide +kernel
theorem d1_88 : decode method_3_code 88 = .ok (.iconst 4, 1) := by decide +kernel
theorem d1_89 : decode method_3_code 89 = .ok (.newarray .byte, 2) := by decide +kernel
theorem d1_91 : decode method_3_code 91 = .ok (.dup, 1) := by decide +kernel
theorem d1_92 : decode method_3_code 92 = .ok (.iconst 0, 1) := by decide +kernel
theorem d1_93 : decode method_3_code 93 = .ok (.lload_n 1, 1) := by decide +kernel
theorem d1_94 : decode method_3_code 94 = .ok (.iconst 0, 1) := by decide +kernel
theorem d1_95 : decode method_3_code 95 = .ok (.invokestatic 7, 3) := by decide +kernel
theorem d1_98 : decode method_3_code 98 = .ok (.bastore, 1) := by decide +kernel
theorem d1_99 : decode method_3_code 99 = .ok (.dup, 1) := by decide +kernel
theorem d1_100 : decode method_3_code 100 = .ok (.iconst 1, 1) := by decide +kernel
theorem d1_101 : decode method_3_code 101 = .ok (.lload_n 1, 1) := by decide +kernel
theorem d1_102 : decode method_3_code 102 = .ok (.iconst 1, 1) := by decide +kernel
theorem d1_103 : decode method_3_code 103 = .ok (.invokestatic 7, 3) := by decide +kernel
theorem d1_106 : decode method_3_code 106 = .ok (.bastore, 1) := by decide +kernel
theorem d1_107 : decode method_3_code 107 = .ok (.dup, 1) := by decide +kernel
theorem d1_108 : decode method_3_code 108 = .ok (.iconst 2, 1) := by decide +kernel
theorem d1_109 : decode method_3_code 109 = .ok (.lload_n 1, 1) := by decide +kernel
theorem d1_110 : decode method_3_code 110 = .ok (.iconst 2, 1) := by decide +kernel
theorem d1_111 : decode method_3_code 111 = .ok (.invokestatic 7, 3) := by decide +kernel
theorem d1_114 : decode method_3_code 114 = .ok (.bastore, 1) := by decide +kernel
theorem d1_115 : decode method_3_code 115 = .ok (.dup, 1) := by decide +kernel
theorem d1_116 : decode method_3_code 116 = .ok (.iconst 3, 1) := by decide +kernel
theorem d1_117 : decode method_3_code 117 = .ok (.lload_n 1, 1) := by decide +kernel
theorem d1_118 : decode method_3_code 118 = .ok (.iconst 3, 1) := by decide +kernel
theorem d1_119 : decode method_3_code 119 = .ok (.invokestatic 7, 3) := by decide +kernel
theorem d1_122 : decode method_3_code 122 = .ok (.bastore, 1) := by decide +kernel
theorem d1_123 : decode method_3_code 123 = .ok (.areturn, 1) := by decide +kernel
theorem d1_124 : decode method_3_code 124 = .ok (.iconst 5, 1) := by decide +kernel
theorem d1_125 : decode method_3_code 125 = .ok (.newarray .byte, 2) := by decide +kernel
theorem d1_127 : decode method_3_code 127 = .ok (.dup, 1) := by decide +kernel
theorem d1_128 : decode method_3_code 128 = .ok (.iconst 0, 1) := by decide +kernel
theorem d1_129 : decode method_3_code 129 = .ok (.lload_n 1, 1) := by decide +kernel
theorem d1_130 : decode method_3_code 130 = .ok (.iconst 0, 1) := by decide +kernel
theorem d1_131 : decode method_3_code 131 = .ok (.invokestatic 7, 3) := by decide +kernel
theorem d1_134 : decode method_3_code 134 = .ok (.bastore, 1) := by decide +kernel
theorem d1_135 : decode method_3_code 135 = .ok (.dup, 1) := by decide +kernel
theorem d1_136 : decode method_3_code 136 = .ok (.iconst 1, 1) := by decide +kernel
theorem d1_137 : decode method_3_code 137 = .ok (.lload_n 1, 1) := by decide +kernel
theorem d1_138 : decode method_3_code 138 = .ok (.iconst 1, 1) := by decide +kernel
theorem d1_139 : decode method_3_code 139 = .ok (.invokestatic 7, 3) := by decide +kernel
theorem d1_142 : decode method_3_code 142 = .ok (.bastore, 1) := by decide +kernel
theorem d1_143 : decode method_3_code 143 = .ok (.dup, 1) := by decide +kernel
theorem d1_144 : decode method_3_code 144 = .ok (.iconst 2, 1) := by decide +kernel
theorem d1_145 : decode method_3_code 145 = .ok (.lload_n 1, 1) := by decide +kernel
theorem d1_146 : decode method_3_code 146 = .ok (.iconst 2, 1) := by decide +kernel
theorem d1_147 : decode method_3_code 147 = .ok (.invokestatic 7, 3) := by decide +kernel
theorem d1_150 : decode method_3_code 150 = .ok (.bastore, 1) := by decide +kernel
theorem d1_151 : decode method_3_code 151 = .ok (.dup, 1) := by decide +kernel
theorem d1_152 : decode method_3_code 152 = .ok (.iconst 3, 1) := by decide +kernel
theorem d1_153 : decode method_3_code 153 = .ok (.lload_n 1, 1) := by decide +kernel
theorem d1_154 : decode method_3_code 154 = .ok (.iconst 3, 1) := by decide +kernel
theorem d1_155 : decode method_3_code 155 = .ok (.invokestatic 7, 3) := by decide +kernel
theorem d1_158 : decode method_3_code 158 = .ok (.bastore, 1) := by decide +kernel
theorem d1_159 : decode method_3_code 159 = .ok (.dup, 1) := by decide +kernel
theorem d1_160 : decode method_3_code 160 = .ok (.iconst 4, 1) := by decide +kernel
theorem d1_161 : decode method_3_code 161 = .ok (.lload_n 1, 1) := by decide +kernel
theorem d1_162 : decode method_3_code 162 = .ok (.iconst 4, 1) := by decide +kernel
theorem d1_163 : decode method_3_code 163 = .ok (.invokestatic 7, 3) := by decide +kernel
theorem d1_166 : decode method_3_code 166 = .ok (.bastore, 1) := by decide +kernel
theorem d1_167 : decode method_3_code 167 = .ok (.areturn, 1) := by decide +kernel
abbrev mN_1 : MethodName := ⟨"com/example/nodecard/nodecard/aka/MilenageXorIntoPinLaw", "make", "(IJ)[B"⟩
theorem d3_0 : decode prog_6_method_16_code 0 = .ok (.iconst 0, 1) := by decide +kernel
theorem d3_1 : decode prog_6_method_16_code 1 = .ok (.istore_n 2, 1) := by decide +kernel
theorem d3_2 : decode prog_6_method_16_code 2 = .ok (.iload_n 2, 1) := by decide +kernel
theorem d3_3 : decode prog_6_method_16_code 3 = .ok (.aload_n 0, 1) := by decide +kernel
theorem d3_4 : decode prog_6_method_16_code 4 = .ok (.arraylength, 1) := by decide +kernel
theorem d3_5 : decode prog_6_method_16_code 5 = .ok (.if_icmp .ge 19, 3) := by decide +kernel
theorem d3_8 : decode prog_6_method_16_code 8 = .ok (.aload_n 0, 1) := by decide +kernel
theorem d3_9 : decode prog_6_method_16_code 9 = .ok (.iload_n 2, 1) := by decide +kernel
theorem d3_10 : decode prog_6_method_16_code 10 = .ok (.dup2, 1) := by decide +kernel
theorem d3_11 : decode prog_6_method_16_code 11 = .ok (.baload, 1) := by decide +kernel
theorem d3_12 : decode prog_6_method_16_code 12 = .ok (.aload_n 1, 1) := by decide +kernel
theorem d3_13 : decode prog_6_method_16_code 13 = .ok (.iload_n 2, 1) := by decide +kernel
theorem d3_14 : decode prog_6_method_16_code 14 = .ok (.baload, 1) := by decide +kernel
theorem d3_15 : decode prog_6_method_16_code 15 = .ok (.ixor, 1) := by decide +kernel
theorem d3_16 : decode prog_6_method_16_code 16 = .ok (.i2b, 1) := by decide +kernel
theorem d3_17 : decode prog_6_method_16_code 17 = .ok (.bastore, 1) := by decide +kernel
theorem d3_18 : decode prog_6_method_16_code 18 = .ok (.iinc 2 1, 3) := by decide +kernel
theorem d3_21 : decode prog_6_method_16_code 21 = .ok (.goto (-19), 3) := by decide +kernel
theorem d3_24 : decode prog_6_method_16_code 24 = .ok (.return_, 1) := by decide +kernel
theorem pn_1 : plainName "com/example/nodecard/nodecard/aka/Milenage" = true := by first | (simp [plainName, overriddenIn]; done) | decide +kernel
abbrev mN_3 : MethodName := ⟨"com/example/nodecard/nodecard/aka/Milenage", "xorInto", "([B[B)V"⟩
theorem d4_0 : decode method_4_code 0 = .ok (.iload_n 1, 1) := by decide +kernel
theorem d4_1 : decode method_4_code 1 = .ok (.iload_n 2, 1) := by decide +kernel
theorem d4_2 : decode method_4_code 2 = .ok (.if_icmp .lt 5, 3) := by decide +kernel
theorem d4_5 : decode method_4_code 5 = .ok (.iconst 1, 1) := by decide +kernel
theorem d4_6 : decode method_4_code 6 = .ok (.ireturn, 1) := by decide +kernel
theorem d4_7 : decode method_4_code 7 = .ok (.aload_n 0, 1) := by decide +kernel
theorem d4_8 : decode method_4_code 8 = .ok (.iload_n 1, 1) := by decide +kernel
theorem d4_9 : decode method_4_code 9 = .ok (.baload, 1) := by decide +kernel
theorem d4_10 : decode method_4_code 10 = .ok (.lload_n 3, 1) := by decide +kernel
theorem d4_11 : decode method_4_code 11 = .ok (.iload_n 1, 1) := by decide +kernel
theorem d4_12 : decode method_4_code 12 = .ok (.invokestatic 7, 3) := by decide +kernel
theorem d4_15 : decode method_4_code 15 = .ok (.lload 5, 2) := by decide +kernel
theorem d4_17 : decode method_4_code 17 = .ok (.iload_n 1, 1) := by decide +kernel
theorem d4_18 : decode method_4_code 18 = .ok (.invokestatic 7, 3) := by decide +kernel
theorem d4_21 : decode method_4_code 21 = .ok (.ixor, 1) := by decide +kernel
theorem d4_22 : decode method_4_code 22 = .ok (.i2b, 1) := by decide +kernel
theorem d4_23 : decode method_4_code 23 = .ok (.if_icmp .ne 7, 3) := by decide +kernel
theorem d4_26 : decode method_4_code 26 = .ok (.iconst 1, 1) := by decide +kernel
theorem d4_27 : decode method_4_code 27 = .ok (.goto 4, 3) := by decide +kernel
theorem d4_31 : decode method_4_code 31 = .ok (.ireturn, 1) := by decide +kernel
abbrev mN_4 : MethodName := ⟨"com/example/nodecard/nodecard/aka/MilenageXorIntoPinLaw", "tOk", "([BIIJJ)Z"⟩
theorem d5_0 : decode method_5_code 0 = .ok (.iload_n 1, 1) := by decide +kernel
theorem d5_1 : decode method_5_code 1 = .ok (.iload_n 2, 1) := by decide +kernel
theorem d5_2 : decode method_5_code 2 = .ok (.if_icmp .lt 5, 3) := by decide +kernel
theorem d5_5 : decode method_5_code 5 = .ok (.iconst 1, 1) := by decide +kernel
theorem d5_6 : decode method_5_code 6 = .ok (.ireturn, 1) := by decide +kernel
theorem d5_7 : decode method_5_code 7 = .ok (.aload_n 0, 1) := by decide +kernel
theorem d5_8 : decode method_5_code 8 = .ok (.iload_n 1, 1) := by decide +kernel
theorem d5_9 : decode method_5_code 9 = .ok (.baload, 1) := by decide +kernel
theorem d5_10 : decode method_5_code 10 = .ok (.lload_n 3, 1) := by decide +kernel
theorem d5_11 : decode method_5_code 11 = .ok (.iload_n 1, 1) := by decide +kernel
theorem d5_12 : decode method_5_code 12 = .ok (.invokestatic 7, 3) := by decide +kernel
theorem d5_15 : decode method_5_code 15 = .ok (.if_icmp .ne 7, 3) := by decide +kernel
theorem d5_18 : decode method_5_code 18 = .ok (.iconst 1, 1) := by decide +kernel
theorem d5_19 : decode method_5_code 19 = .ok (.goto 4, 3) := by decide +kernel
theorem d5_23 : decode method_5_code 23 = .ok (.ireturn, 1) := by decide +kernel
abbrev mN_5 : MethodName := ⟨"com/example/nodecard/nodecard/aka/MilenageXorIntoPinLaw", "mOk", "([BIIJ)Z"⟩
theorem pd_1 : parseMethodDescriptor "(IJ)[B" = some ⟨[.int, .long], some (.array .byte)⟩ := by decide +kernel
theorem pd_2 : parseMethodDescriptor "([B[B)V" = some ⟨[(.array .byte), (.array .byte)], none⟩ := by decide +kernel
theorem pd_3 : parseMethodDescriptor "([BIIJJ)Z" = some ⟨[(.array .byte), .int, .int, .long, .long], some .boolean⟩ := by decide +kernel
theorem pd_4 : parseMethodDescriptor "([BIIJ)Z" = some ⟨[(.array .byte), .int, .int, .long], some .boolean⟩ := by decide +kernel
def own_bt (v : Int64) (k : Int32) : Int32 := ((v.toUInt64 >>> (k &&& 0x3f).toInt64.toUInt64).toInt64).toInt32.toInt8.toInt32
def own_xb (x y : Int32) : Int32 := (x ^^^ y).toInt8.toInt32
theorem ef_2i0 (m : MethodId) (x0 : Int64) : entryFrame m #[(.long x0), (.int (0 : Int32))] 3 = mkF m 0 #[.val (.long x0), .second, .val (.int (0 : Int32))] [] := by first | (simp [entryFrame, mkF, argsToLocals, Value.category]; done) | rfl
def Q2i0 (Z : State) (va : Int64) (h0 : Heap) (n0 : Nat) (v : Option Value) (h : Heap) (L : List Loc) : Prop := ∃ z : Int32, v = some (.int z) ∧ (z = own_bt va (0 : Int32) ∧ -128 ≤ z.toInt ∧ z.toInt ≤ 127) ∧ Fr n0 L ∧ h = h0
set_option maxRecDepth 65536 in
set_option maxHeartbeats 40000000 in
theorem rm2i0 (l : Launch) (Z : State) (a0 : Array Value) (hw : ∀ d ∈ tables_1, d.before a0 Z = true) (ws : List Jvm.Cond) (va : Int64) (h0 : Heap) (n0 : Nat) (Z0 : n0 ≤ h0.size) :
    CT l mN_2 method_2_code 3 (some .byte) ws ({ frames := 0, cells := 0, slots := 0, locals := 0 } : Room) #[(.long va), (.int (0 : Int32))] Z h0 (Q2i0 Z va h0 n0) := by
  refine body_of (plainFor_of_name pn_0) ?_
  intro p e s m below meth c s₁ hx dB hret hlk hml hown0 hnm X0 e0 hZ
  have hown : s.vm.findClass cN_0 = some m.cls := hown0
  have N0 := Fr.nil n0
  rw [ef_2i0]
  show Wk p e below (FN s (Q2i0 Z va h0 n0) 0 0) s₁ (mkF m 0 #[.val (.long va), .second, .val (.int (0 : Int32))] [])
  have r_va := rng64 va
  refine w_lloadN X0 hx va (dB d2_0) 1 rfl rfl ?_
  refine w_bipush X0 hx (dB d2_1) 3 rfl (8 : Int32) (by decide) ?_
  refine w_iloadN X0 hx (0 : Int32) (dB d2_3) 4 rfl rfl ?_
  refine w_imul X0 hx (dB d2_4) 5 rfl (show (0 : Int32) = (8 : Int32) * (0 : Int32) from by decide) ?_
  obtain ⟨v1, e1⟩ : ∃ z : Int64, z = (va.toUInt64 >>> ((0 : Int32) &&& 0x3f).toInt64.toUInt64).toInt64 := ⟨_, rfl⟩
  have n1 : -9223372036854775808 ≤ v1.toInt ∧ v1.toInt < 9223372036854775808 := by rw [e1]; exact rng64 _
  refine w_lushr X0 hx (dB d2_5) 6 rfl e1 ?_
  obtain ⟨v2, e2⟩ : ∃ z : Int32, z = v1.toInt32 := ⟨_, rfl⟩
  have n2 : -2147483648 ≤ v2.toInt ∧ v2.toInt < 2147483648 := by rw [e2]; exact rng32 _
  refine w_l2i X0 hx (dB d2_6) 7 rfl e2 ?_
  obtain ⟨v3, e3⟩ : ∃ z : Int32, z = v2.toInt8.toInt32 := ⟨_, rfl⟩
  have n3 : (v3.toInt - v2.toInt) % 256 = 0 ∧ -128 ≤ v3.toInt ∧ v3.toInt < 128 := by rw [e3]; exact i2bX rfl
  refine w_i2b X0 hx (dB d2_7) 8 rfl e3 ?_
  refine w_retN X0 hx hlk (t := .byte) hret (by simp) (dB d2_8) (by decide) (by decide) ?_
  rw [narB rfl (by omega) (by omega)]
  rw [e0]
  exact ⟨v3, rfl, by exact ⟨by subst_vars; rfl, by omega, by omega⟩, N0, rfl⟩
theorem ef_2i1 (m : MethodId) (x0 : Int64) : entryFrame m #[(.long x0), (.int (1 : Int32))] 3 = mkF m 0 #[.val (.long x0), .second, .val (.int (1 : Int32))] [] := by first | (simp [entryFrame, mkF, argsToLocals, Value.category]; done) | rfl
def Q2i1 (Z : State) (va : Int64) (h0 : Heap) (n0 : Nat) (v : Option Value) (h : Heap) (L : List Loc) : Prop := ∃ z : Int32, v = some (.int z) ∧ (z = own_bt va (8 : Int32) ∧ -128 ≤ z.toInt ∧ z.toInt ≤ 127) ∧ Fr n0 L ∧ h = h0
set_option maxRecDepth 65536 in
set_option maxHeartbeats 40000000 in
theorem rm2i1 (l : Launch) (Z : State) (a0 : Array Value) (hw : ∀ d ∈ tables_1, d.before a0 Z = true) (ws : List Jvm.Cond) (va : Int64) (h0 : Heap) (n0 : Nat) (Z0 : n0 ≤ h0.size) :
    CT l mN_2 method_2_code 3 (some .byte) ws ({ frames := 0, cells := 0, slots := 0, locals := 0 } : Room) #[(.long va), (.int (1 : Int32))] Z h0 (Q2i1 Z va h0 n0) := by
  refine body_of (plainFor_of_name pn_0) ?_
  intro p e s m below meth c s₁ hx dB hret hlk hml hown0 hnm X0 e0 hZ
  have hown : s.vm.findClass cN_0 = some m.cls := hown0
  have N0 := Fr.nil n0
  rw [ef_2i1]
  show Wk p e below (FN s (Q2i1 Z va h0 n0) 0 0) s₁ (mkF m 0 #[.val (.long va), .second, .val (.int (1 : Int32))] [])
  have r_va := rng64 va
  refine w_lloadN X0 hx va (dB d2_0) 1 rfl rfl ?_
  refine w_bipush X0 hx (dB d2_1) 3 rfl (8 : Int32) (by decide) ?_
  refine w_iloadN X0 hx (1 : Int32) (dB d2_3) 4 rfl rfl ?_
  refine w_imul X0 hx (dB d2_4) 5 rfl (show (8 : Int32) = (8 : Int32) * (1 : Int32) from by decide) ?_
  obtain ⟨v4, e4⟩ : ∃ z : Int64, z = (va.toUInt64 >>> ((8 : Int32) &&& 0x3f).toInt64.toUInt64).toInt64 := ⟨_, rfl⟩
  have n4 : -9223372036854775808 ≤ v4.toInt ∧ v4.toInt < 9223372036854775808 := by rw [e4]; exact rng64 _
  refine w_lushr X0 hx (dB d2_5) 6 rfl e4 ?_
  obtain ⟨v5, e5⟩ : ∃ z : Int32, z = v4.toInt32 := ⟨_, rfl⟩
  have n5 : -2147483648 ≤ v5.toInt ∧ v5.toInt < 2147483648 := by rw [e5]; exact rng32 _
  refine w_l2i X0 hx (dB d2_6) 7 rfl e5 ?_
  obtain ⟨v6, e6⟩ : ∃ z : Int32, z = v5.toInt8.toInt32 := ⟨_, rfl⟩
  have n6 : (v6.toInt - v5.toInt) % 256 = 0 ∧ -128 ≤ v6.toInt ∧ v6.toInt < 128 := by rw [e6]; exact i2bX rfl
  refine w_i2b X0 hx (dB d2_7) 8 rfl e6 ?_
  refine w_retN X0 hx hlk (t := .byte) hret (by simp) (dB d2_8) (by decide) (by decide) ?_
  rw [narB rfl (by omega) (by omega)]
  rw [e0]
  exact ⟨v6, rfl, by exact ⟨by subst_vars; rfl, by omega, by omega⟩, N0, rfl⟩
theorem ef_2i2 (m : MethodId) (x0 : Int64) : entryFrame m #[(.long x0), (.int (2 : Int32))] 3 = mkF m 0 #[.val (.long x0), .second, .val (.int (2 : Int32))] [] := by first | (simp [entryFrame, mkF, argsToLocals, Value.category]; done) | rfl
def Q2i2 (Z : State) (va : Int64) (h0 : Heap) (n0 : Nat) (v : Option Value) (h : Heap) (L : List Loc) : Prop := ∃ z : Int32, v = some (.int z) ∧ (z = own_bt va (16 : Int32) ∧ -128 ≤ z.toInt ∧ z.toInt ≤ 127) ∧ Fr n0 L ∧ h = h0
set_option maxRecDepth 65536 in
set_option maxHeartbeats 40000000 in
theorem rm2i2 (l : Launch) (Z : State) (a0 : Array Value) (hw : ∀ d ∈ tables_1, d.before a0 Z = true) (ws : List Jvm.Cond) (va : Int64) (h0 : Heap) (n0 : Nat) (Z0 : n0 ≤ h0.size) :
    CT l mN_2 method_2_code 3 (some .byte) ws ({ frames := 0, cells := 0, slots := 0, locals := 0 } : Room) #[(.long va), (.int (2 : Int32))] Z h0 (Q2i2 Z va h0 n0) := by
  refine body_of (plainFor_of_name pn_0) ?_
  intro p e s m below meth c s₁ hx dB hret hlk hml hown0 hnm X0 e0 hZ
  have hown : s.vm.findClass cN_0 = some m.cls := hown0
  have N0 := Fr.nil n0
  rw [ef_2i2]
  show Wk p e below (FN s (Q2i2 Z va h0 n0) 0 0) s₁ (mkF m 0 #[.val (.long va), .second, .val (.int (2 : Int32))] [])
  have r_va := rng64 va
  refine w_lloadN X0 hx va (dB d2_0) 1 rfl rfl ?_
  refine w_bipush X0 hx (dB d2_1) 3 rfl (8 : Int32) (by decide) ?_
  refine w_iloadN X0 hx (2 : Int32) (dB d2_3) 4 rfl rfl ?_
  refine w_imul X0 hx (dB d2_4) 5 rfl (show (16 : Int32) = (8 : Int32) * (2 : Int32) from by decide) ?_
  obtain ⟨v7, e7⟩ : ∃ z : Int64, z = (va.toUInt64 >>> ((16 : Int32) &&& 0x3f).toInt64.toUInt64).toInt64 := ⟨_, rfl⟩
  have n7 : -9223372036854775808 ≤ v7.toInt ∧ v7.toInt < 9223372036854775808 := by rw [e7]; exact rng64 _
  refine w_lushr X0 hx (dB d2_5) 6 rfl e7 ?_
  obtain ⟨v8, e8⟩ : ∃ z : Int32, z = v7.toInt32 := ⟨_, rfl⟩
  have n8 : -2147483648 ≤ v8.toInt ∧ v8.toInt < 2147483648 := by rw [e8]; exact rng32 _
  refine w_l2i X0 hx (dB d2_6) 7 rfl e8 ?_
  obtain ⟨v9, e9⟩ : ∃ z : Int32, z = v8.toInt8.toInt32 := ⟨_, rfl⟩
  have n9 : (v9.toInt - v8.toInt) % 256 = 0 ∧ -128 ≤ v9.toInt ∧ v9.toInt < 128 := by rw [e9]; exact i2bX rfl
  refine w_i2b X0 hx (dB d2_7) 8 rfl e9 ?_
  refine w_retN X0 hx hlk (t := .byte) hret (by simp) (dB d2_8) (by decide) (by decide) ?_
  rw [narB rfl (by omega) (by omega)]
  rw [e0]
  exact ⟨v9, rfl, by exact ⟨by subst_vars; rfl, by omega, by omega⟩, N0, rfl⟩
theorem ef_2i3 (m : MethodId) (x0 : Int64) : entryFrame m #[(.long x0), (.int (3 : Int32))] 3 = mkF m 0 #[.val (.long x0), .second, .val (.int (3 : Int32))] [] := by first | (simp [entryFrame, mkF, argsToLocals, Value.category]; done) | rfl
def Q2i3 (Z : State) (va : Int64) (h0 : Heap) (n0 : Nat) (v : Option Value) (h : Heap) (L : List Loc) : Prop := ∃ z : Int32, v = some (.int z) ∧ (z = own_bt va (24 : Int32) ∧ -128 ≤ z.toInt ∧ z.toInt ≤ 127) ∧ Fr n0 L ∧ h = h0
set_option maxRecDepth 65536 in
set_option maxHeartbeats 40000000 in
theorem rm2i3 (l : Launch) (Z : State) (a0 : Array Value) (hw : ∀ d ∈ tables_1, d.before a0 Z = true) (ws : List Jvm.Cond) (va : Int64) (h0 : Heap) (n0 : Nat) (Z0 : n0 ≤ h0.size) :
    CT l mN_2 method_2_code 3 (some .byte) ws ({ frames := 0, cells := 0, slots := 0, locals := 0 } : Room) #[(.long va), (.int (3 : Int32))] Z h0 (Q2i3 Z va h0 n0) := by
  refine body_of (plainFor_of_name pn_0) ?_
  intro p e s m below meth c s₁ hx dB hret hlk hml hown0 hnm X0 e0 hZ
  have hown : s.vm.findClass cN_0 = some m.cls := hown0
  have N0 := Fr.nil n0
  rw [ef_2i3]
  show Wk p e below (FN s (Q2i3 Z va h0 n0) 0 0) s₁ (mkF m 0 #[.val (.long va), .second, .val (.int (3 : Int32))] [])
  have r_va := rng64 va
  refine w_lloadN X0 hx va (dB d2_0) 1 rfl rfl ?_
  refine w_bipush X0 hx (dB d2_1) 3 rfl (8 : Int32) (by decide) ?_
  refine w_iloadN X0 hx (3 : Int32) (dB d2_3) 4 rfl rfl ?_
  refine w_imul X0 hx (dB d2_4) 5 rfl (show (24 : Int32) = (8 : Int32) * (3 : Int32) from by decide) ?_
  obtain ⟨v10, e10⟩ : ∃ z : Int64, z = (va.toUInt64 >>> ((24 : Int32) &&& 0x3f).toInt64.toUInt64).toInt64 := ⟨_, rfl⟩
  have n10 : -9223372036854775808 ≤ v10.toInt ∧ v10.toInt < 9223372036854775808 := by rw [e10]; exact rng64 _
  refine w_lushr X0 hx (dB d2_5) 6 rfl e10 ?_
  obtain ⟨v11, e11⟩ : ∃ z : Int32, z = v10.toInt32 := ⟨_, rfl⟩
  have n11 : -2147483648 ≤ v11.toInt ∧ v11.toInt < 2147483648 := by rw [e11]; exact rng32 _
  refine w_l2i X0 hx (dB d2_6) 7 rfl e11 ?_
  obtain ⟨v12, e12⟩ : ∃ z : Int32, z = v11.toInt8.toInt32 := ⟨_, rfl⟩
  have n12 : (v12.toInt - v11.toInt) % 256 = 0 ∧ -128 ≤ v12.toInt ∧ v12.toInt < 128 := by rw [e12]; exact i2bX rfl
  refine w_i2b X0 hx (dB d2_7) 8 rfl e12 ?_
  refine w_retN X0 hx hlk (t := .byte) hret (by simp) (dB d2_8) (by decide) (by decide) ?_
  rw [narB rfl (by omega) (by omega)]
  rw [e0]
  exact ⟨v12, rfl, by exact ⟨by subst_vars; rfl, by omega, by omega⟩, N0, rfl⟩
theorem ef_2i4 (m : MethodId) (x0 : Int64) : entryFrame m #[(.long x0), (.int (4 : Int32))] 3 = mkF m 0 #[.val (.long x0), .second, .val (.int (4 : Int32))] [] := by first | (simp [entryFrame, mkF, argsToLocals, Value.category]; done) | rfl
def Q2i4 (Z : State) (va : Int64) (h0 : Heap) (n0 : Nat) (v : Option Value) (h : Heap) (L : List Loc) : Prop := ∃ z : Int32, v = some (.int z) ∧ (z = own_bt va (32 : Int32) ∧ -128 ≤ z.toInt ∧ z.toInt ≤ 127) ∧ Fr n0 L ∧ h = h0
set_option maxRecDepth 65536 in
set_option maxHeartbeats 40000000 in
theorem rm2i4 (l : Launch) (Z : State) (a0 : Array Value) (hw : ∀ d ∈ tables_1, d.before a0 Z = true) (ws : List Jvm.Cond) (va : Int64) (h0 : Heap) (n0 : Nat) (Z0 : n0 ≤ h0.size) :
    CT l mN_2 method_2_code 3 (some .byte) ws ({ frames := 0, cells := 0, slots := 0, locals := 0 } : Room) #[(.long va), (.int (4 : Int32))] Z h0 (Q2i4 Z va h0 n0) := by
  refine body_of (plainFor_of_name pn_0) ?_
  intro p e s m below meth c s₁ hx dB hret hlk hml hown0 hnm X0 e0 hZ
  have hown : s.vm.findClass cN_0 = some m.cls := hown0
  have N0 := Fr.nil n0
  rw [ef_2i4]
  show Wk p e below (FN s (Q2i4 Z va h0 n0) 0 0) s₁ (mkF m 0 #[.val (.long va), .second, .val (.int (4 : Int32))] [])
  have r_va := rng64 va
  refine w_lloadN X0 hx va (dB d2_0) 1 rfl rfl ?_
  refine w_bipush X0 hx (dB d2_1) 3 rfl (8 : Int32) (by decide) ?_
  refine w_iloadN X0 hx (4 : Int32) (dB d2_3) 4 rfl rfl ?_
  refine w_imul X0 hx (dB d2_4) 5 rfl (show (32 : Int32) = (8 : Int32) * (4 : Int32) from by decide) ?_
  obtain ⟨v13, e13⟩ : ∃ z : Int64, z = (va.toUInt64 >>> ((32 : Int32) &&& 0x3f).toInt64.toUInt64).toInt64 := ⟨_, rfl⟩
  have n13 : -9223372036854775808 ≤ v13.toInt ∧ v13.toInt < 9223372036854775808 := by rw [e13]; exact rng64 _
  refine w_lushr X0 hx (dB d2_5) 6 rfl e13 ?_
  obtain ⟨v14, e14⟩ : ∃ z : Int32, z = v13.toInt32 := ⟨_, rfl⟩
  have n14 : -2147483648 ≤ v14.toInt ∧ v14.toInt < 2147483648 := by rw [e14]; exact rng32 _
  refine w_l2i X0 hx (dB d2_6) 7 rfl e14 ?_
  obtain ⟨v15, e15⟩ : ∃ z : Int32, z = v14.toInt8.toInt32 := ⟨_, rfl⟩
  have n15 : (v15.toInt - v14.toInt) % 256 = 0 ∧ -128 ≤ v15.toInt ∧ v15.toInt < 128 := by rw [e15]; exact i2bX rfl
  refine w_i2b X0 hx (dB d2_7) 8 rfl e15 ?_
  refine w_retN X0 hx hlk (t := .byte) hret (by simp) (dB d2_8) (by decide) (by decide) ?_
  rw [narB rfl (by omega) (by omega)]
  rw [e0]
  exact ⟨v15, rfl, by exact ⟨by subst_vars; rfl, by omega, by omega⟩, N0, rfl⟩
theorem ef_1 (m : MethodId) (x0 : Int32) (x1 : Int64) : entryFrame m #[(.int x0), (.long x1)] 3 = mkF m 0 #[.val (.int x0), .val (.long x1), .second] [] := by first | (simp [entryFrame, mkF, argsToLocals, Value.category]; done) | rfl
def Q1 (Z : State) (xk : Int32) (va : Int64) (h0 : Heap) (n0 : Nat) (v : Option Value) (h : Heap) (L : List Loc) : Prop := ∃ bb : Addr, ∃ kb : ClassId, ∃ zz : Int32, ∃ el0 : Int32, ∃ el1 : Int32, ∃ el2 : Int32, ∃ el3 : Int32, ∃ el4 : Int32, v = some (.ref bb) ∧ (zz.toInt = xk.toInt ∧ (0 < xk.toInt → el0 = own_bt va (0 : Int32)) ∧ -128 ≤ el0.toInt ∧ el0.toInt ≤ 127 ∧ (1 < xk.toInt → el1 = own_bt va (8 : Int32)) ∧ -128 ≤ el1.toInt ∧ el1.toInt ≤ 127 ∧ (2 < xk.toInt → el2 = own_bt va (16 : Int32)) ∧ -128 ≤ el2.toInt ∧ el2.toInt ≤ 127 ∧ (3 < xk.toInt → el3 = own_bt va (24 : Int32)) ∧ -128 ≤ el3.toInt ∧ el3.toInt ≤ 127 ∧ (4 < xk.toInt → el4 = own_bt va (32 : Int32)) ∧ -128 ≤ el4.toInt ∧ el4.toInt ≤ 127) ∧ Fr n0 L ∧ Keep h0 h [] ∧ h0.size ≤ bb ∧ Arv Z h bb kb .byte zz [(.int el0), (.int el1), (.int el2), (.int el3), (.int el4)] (.int (0 : Int32))
set_option maxRecDepth 65536 in
set_option maxHeartbeats 40000000 in
theorem rm1 (l : Launch) (Z : State) (a0 : Array Value) (hw : ∀ d ∈ tables_1, d.before a0 Z = true) (ws : List Jvm.Cond) (xk : Int32) (va : Int64) (h0 : Heap) (n0 : Nat) (Z0 : n0 ≤ h0.size) (p0 : 0 ≤ xk.toInt) (p1 : xk.toInt ≤ 5) :
    CT l mN_1 method_3_code 3 (some (.array .byte)) ws ({ frames := 1, cells := 1, slots := 5, locals := 17 } : Room) #[(.int xk), (.long va)] Z h0 (Q1 Z xk va h0 n0) := by
  refine body_of (plainFor_of_name pn_0) ?_
  intro p e s m below meth c s₁ hx dB hret hlk hml hown0 hnm X0 e0 hZ
  have hown : s.vm.findClass cN_0 = some m.cls := hown0
  have N0 := Fr.nil n0
  rw [ef_1]
  show Wk p e below (FN s (Q1 Z xk va h0 n0) 1 5) s₁ (mkF m 0 #[.val (.int xk), .val (.long va), .second] [])
  have r_xk := rng32 xk
  have r_va := rng64 va
  refine w_iloadN X0 hx xk (dB d1_0) 1 rfl rfl ?_
  refine w_if_ne X0 hx xk.toInt rfl (dB d1_1) 8 4 (fun c16 => ?_) (fun c16 => ?_)
  ·refine w_iloadN X0 hx xk (dB d1_8) 9 rfl rfl ?_
   refine w_iconst X0 hx (dB d1_9) 10 rfl (1 : Int32) (by decide) ?_
   refine w_icmp_ne X0 hx xk.toInt 1 rfl (by decide) (dB d1_10) 25 13 (fun c17 => ?_) (fun c17 => ?_)
   ·refine w_iloadN X0 hx xk (dB d1_25) 26 rfl rfl ?_
    refine w_iconst X0 hx (dB d1_26) 27 rfl (2 : Int32) (by decide) ?_
    refine w_icmp_ne X0 hx xk.toInt 2 rfl (by decide) (dB d1_27) 50 30 (fun c18 => ?_) (fun c18 => ?_)
    ·refine w_iloadN X0 hx xk (dB d1_50) 51 rfl rfl ?_
     refine w_iconst X0 hx (dB d1_51) 52 rfl (3 : Int32) (by decide) ?_
     refine w_icmp_ne X0 hx xk.toInt 3 rfl (by decide) (dB d1_52) 83 55 (fun c19 => ?_) (fun c19 => ?_)
     ·refine w_iloadN X0 hx xk (dB d1_83) 84 rfl rfl ?_
      refine w_iconst X0 hx (dB d1_84) 85 rfl (4 : Int32) (by decide) ?_
      refine w_icmp_ne X0 hx xk.toInt 4 rfl (by decide) (dB d1_85) 124 88 (fun c20 => ?_) (fun c20 => ?_)
      ·refine w_iconst X0 hx (dB d1_124) 125 rfl (5 : Int32) (by decide) ?_
       refine w_newP X0 hx hZ e0 (aty := .byte) (tw_5 hw) (by decide) 5 (by decide) (by decide) (by decide) (by decide) (dB d1_125) 127 rfl (fun T21 h21 a21 k21 X21 e21 g21 E21 A21 => ?_)
       have g_a21 : n0 ≤ a21 := Nat.le_trans Z0 (Nat.le_of_eq g21.symm)
       have s_a21 : h0.size ≤ a21 := Nat.le_trans (Keep.refl h0 []).1 (Nat.le_of_eq g21.symm)
       have Z21 : n0 ≤ h21.size := Nat.le_trans Z0 E21.1
       have K21 : Keep h0 h21 [] := (Keep.refl h0 []).ext E21
       have V21 : Arv Z h21 a21 k21 .byte (5 : Int32) [(.int (0 : Int32)), (.int (0 : Int32)), (.int (0 : Int32)), (.int (0 : Int32)), (.int (0 : Int32))] (.int (0 : Int32)) := A21.pad (pad_rep [] (.int (0 : Int32)) 5)
       refine w_dup X21 hx (dB d1_127) 128 rfl rfl ?_
       refine w_iconst X21 hx (dB d1_128) 129 rfl (0 : Int32) (by decide) ?_
       refine w_lloadN X21 hx va (dB d1_129) 130 rfl rfl ?_
       refine w_iconst X21 hx (dB d1_130) 131 rfl (0 : Int32) (by decide) ?_
       refine w_callS X21 hx hZ hown e21 (rm2i0 l Z a0 hw [] va h21 n0 Z21 ) (tw_6 hw) (tw_7 hw) (tw_3 hw) (tw_8 hw) (by decide) (by rw [hml]; rfl) [(.long va), (.int (0 : Int32))] [(.int (0 : Int32)), (.ref a21), (.ref a21)] (lenOf pd_0 rfl) rfl rfl (by decide) 3 rfl (by decide) (by decide) (by decide) (dB d1_131) 134 rfl (fun r22 T22 L22 X22 q22 => ?_)
       obtain ⟨z22, rfl, f22, Nq22, eq22⟩ := q22
       have N22 := Fr.app N0 Nq22
       obtain ⟨f22, fl22, fh22⟩ := f22
       dsimp only [Option.toList_some, Option.toList_none, List.cons_append, List.nil_append]
       refine w_bastore X22 hx hZ eq22 V21 ⟨by decide, by decide⟩ 0 (by decide) (show 0 < 5 from (by decide)) (dB d1_134) 135 rfl (fun T23 h23 X23 e23 W23 V23 => ?_)
       have b23 : z22.toInt8.toInt32 = z22 := eqI (byteE rfl (by omega) (by omega))
       rw [b23] at W23 V23
       have F24 : Arv Z h23 a21 k21 .byte (5 : Int32) [(.int z22), (.int (0 : Int32)), (.int (0 : Int32)), (.int (0 : Int32)), (.int (0 : Int32))] (.int (0 : Int32)) := V23
       have Z23 : n0 ≤ h23.size := by rw [W23.size]; exact Z21
       have K23 : Keep h0 h23 [] := K21.wr W23 (Or.inr s_a21)
       have N23 := Fr.snoc X23 N22 g_a21
       refine w_dup X23 hx (dB d1_135) 136 rfl rfl ?_
       refine w_iconst X23 hx (dB d1_136) 137 rfl (1 : Int32) (by decide) ?_
       refine w_lloadN X23 hx va (dB d1_137) 138 rfl rfl ?_
       refine w_iconst X23 hx (dB d1_138) 139 rfl (1 : Int32) (by decide) ?_
       refine w_callS X23 hx hZ hown e23 (rm2i1 l Z a0 hw [] va h23 n0 Z23 ) (tw_6 hw) (tw_7 hw) (tw_3 hw) (tw_8 hw) (by decide) (by rw [hml]; rfl) [(.long va), (.int (1 : Int32))] [(.int (1 : Int32)), (.ref a21), (.ref a21)] (lenOf pd_0 rfl) rfl rfl (by decide) 3 rfl (by decide) (by decide) (by decide) (dB d1_139) 142 rfl (fun r25 T25 L25 X25 q25 => ?_)
       obtain ⟨z25, rfl, f25, Nq25, eq25⟩ := q25
       have N25 := Fr.app N23 Nq25
       obtain ⟨f25, fl25, fh25⟩ := f25
       dsimp only [Option.toList_some, Option.toList_none, List.cons_append, List.nil_append]
       refine w_bastore X25 hx hZ eq25 F24 ⟨by decide, by decide⟩ 1 (by decide) (show 1 < 5 from (by decide)) (dB d1_142) 143 rfl (fun T26 h26 X26 e26 W26 V26 => ?_)
       have b26 : z25.toInt8.toInt32 = z25 := eqI (byteE rfl (by omega) (by omega))
       rw [b26] at W26 V26
       have F27 : Arv Z h26 a21 k21 .byte (5 : Int32) [(.int z22), (.int z25), (.int (0 : Int32)), (.int (0 : Int32)), (.int (0 : Int32))] (.int (0 : Int32)) := V26
       have Z26 : n0 ≤ h26.size := by rw [W26.size]; exact Z23
       have K26 : Keep h0 h26 [] := K23.wr W26 (Or.inr s_a21)
       have N26 := Fr.snoc X26 N25 g_a21
       refine w_dup X26 hx (dB d1_143) 144 rfl rfl ?_
       refine w_iconst X26 hx (dB d1_144) 145 rfl (2 : Int32) (by decide) ?_
       refine w_lloadN X26 hx va (dB d1_145) 146 rfl rfl ?_
       refine w_iconst X26 hx (dB d1_146) 147 rfl (2 : Int32) (by decide) ?_
       refine w_callS X26 hx hZ hown e26 (rm2i2 l Z a0 hw [] va h26 n0 Z26 ) (tw_6 hw) (tw_7 hw) (tw_3 hw) (tw_8 hw) (by decide) (by rw [hml]; rfl) [(.long va), (.int (2 : Int32))] [(.int (2 : Int32)), (.ref a21), (.ref a21)] (lenOf pd_0 rfl) rfl rfl (by decide) 3 rfl (by decide) (by decide) (by decide) (dB d1_147) 150 rfl (fun r28 T28 L28 X28 q28 => ?_)
       obtain ⟨z28, rfl, f28, Nq28, eq28⟩ := q28
       have N28 := Fr.app N26 Nq28
       obtain ⟨f28, fl28, fh28⟩ := f28
       dsimp only [Option.toList_some, Option.toList_none, List.cons_append, List.nil_append]
       refine w_bastore X28 hx hZ eq28 F27 ⟨by decide, by decide⟩ 2 (by decide) (show 2 < 5 from (by decide)) (dB d1_150) 151 rfl (fun T29 h29 X29 e29 W29 V29 => ?_)
       have b29 : z28.toInt8.toInt32 = z28 := eqI (byteE rfl (by omega) (by omega))
       rw [b29] at W29 V29
       have F30 : Arv Z h29 a21 k21 .byte (5 : Int32) [(.int z22), (.int z25), (.int z28), (.int (0 : Int32)), (.int (0 : Int32))] (.int (0 : Int32)) := V29
       have Z29 : n0 ≤ h29.size := by rw [W29.size]; exact Z26
       have K29 : Keep h0 h29 [] := K26.wr W29 (Or.inr s_a21)
       have N29 := Fr.snoc X29 N28 g_a21
       refine w_dup X29 hx (dB d1_151) 152 rfl rfl ?_
       refine w_iconst X29 hx (dB d1_152) 153 rfl (3 : Int32) (by decide) ?_
       refine w_lloadN X29 hx va (dB d1_153) 154 rfl rfl ?_
       refine w_iconst X29 hx (dB d1_154) 155 rfl (3 : Int32) (by decide) ?_
       refine w_callS X29 hx hZ hown e29 (rm2i3 l Z a0 hw [] va h29 n0 Z29 ) (tw_6 hw) (tw_7 hw) (tw_3 hw) (tw_8 hw) (by decide) (by rw [hml]; rfl) [(.long va), (.int (3 : Int32))] [(.int (3 : Int32)), (.ref a21), (.ref a21)] (lenOf pd_0 rfl) rfl rfl (by decide) 3 rfl (by decide) (by decide) (by decide) (dB d1_155) 158 rfl (fun r31 T31 L31 X31 q31 => ?_)
       obtain ⟨z31, rfl, f31, Nq31, eq31⟩ := q31
       have N31 := Fr.app N29 Nq31
       obtain ⟨f31, fl31, fh31⟩ := f31
       dsimp only [Option.toList_some, Option.toList_none, List.cons_append, List.nil_append]
       refine w_bastore X31 hx hZ eq31 F30 ⟨by decide, by decide⟩ 3 (by decide) (show 3 < 5 from (by decide)) (dB d1_158) 159 rfl (fun T32 h32 X32 e32 W32 V32 => ?_)
       have b32 : z31.toInt8.toInt32 = z31 := eqI (byteE rfl (by omega) (by omega))
       rw [b32] at W32 V32
       have F33 : Arv Z h32 a21 k21 .byte (5 : Int32) [(.int z22), (.int z25), (.int z28), (.int z31), (.int (0 : Int32))] (.int (0 : Int32)) := V32
       have Z32 : n0 ≤ h32.size := by rw [W32.size]; exact Z29
       have K32 : Keep h0 h32 [] := K29.wr W32 (Or.inr s_a21)
       have N32 := Fr.snoc X32 N31 g_a21
       refine w_dup X32 hx (dB d1_159) 160 rfl rfl ?_
       refine w_iconst X32 hx (dB d1_160) 161 rfl (4 : Int32) (by decide) ?_
       refine w_lloadN X32 hx va (dB d1_161) 162 rfl rfl ?_
       refine w_iconst X32 hx (dB d1_162) 163 rfl (4 : Int32) (by decide) ?_
       refine w_callS X32 hx hZ hown e32 (rm2i4 l Z a0 hw [] va h32 n0 Z32 ) (tw_6 hw) (tw_7 hw) (tw_3 hw) (tw_8 hw) (by decide) (by rw [hml]; rfl) [(.long va), (.int (4 : Int32))] [(.int (4 : Int32)), (.ref a21), (.ref a21)] (lenOf pd_0 rfl) rfl rfl (by decide) 3 rfl (by decide) (by decide) (by decide) (dB d1_163) 166 rfl (fun r34 T34 L34 X34 q34 => ?_)
       obtain ⟨z34, rfl, f34, Nq34, eq34⟩ := q34
       have N34 := Fr.app N32 Nq34
       obtain ⟨f34, fl34, fh34⟩ := f34
       dsimp only [Option.toList_some, Option.toList_none, List.cons_append, List.nil_append]
       refine w_bastore X34 hx hZ eq34 F33 ⟨by decide, by decide⟩ 4 (by decide) (show 4 < 5 from (by decide)) (dB d1_166) 167 rfl (fun T35 h35 X35 e35 W35 V35 => ?_)
       have b35 : z34.toInt8.toInt32 = z34 := eqI (byteE rfl (by omega) (by omega))
       rw [b35] at W35 V35
       have F36 : Arv Z h35 a21 k21 .byte (5 : Int32) [(.int z22), (.int z25), (.int z28), (.int z31), (.int z34)] (.int (0 : Int32)) := V35
       have Z35 : n0 ≤ h35.size := by rw [W35.size]; exact Z32
       have K35 : Keep h0 h35 [] := K32.wr W35 (Or.inr s_a21)
       have N35 := Fr.snoc X35 N34 g_a21
       refine w_retA X35 hx hlk hret rfl rfl (dB d1_167) (by decide) (by decide) ?_
       rw [e35]
       exact ⟨a21, k21, (5 : Int32), z22, z25, z28, z31, z34, rfl, by have hw_zz : (5 : Int32).toInt = 5 := (by decide); exact ⟨by omega, fun _ => by assumption, by omega, by omega, fun _ => by assumption, by omega, by omega, fun _ => by assumption, by omega, by omega, fun _ => by assumption, by omega, by omega, fun _ => by assumption, by omega, by omega⟩, N35, K35, s_a21, F36⟩
      ·refine w_iconst X0 hx (dB d1_88) 89 rfl (4 : Int32) (by decide) ?_
       refine w_newP X0 hx hZ e0 (aty := .byte) (tw_5 hw) (by decide) 4 (by decide) (by decide) (by decide) (by decide) (dB d1_89) 91 rfl (fun T37 h37 a37 k37 X37 e37 g37 E37 A37 => ?_)
       have g_a37 : n0 ≤ a37 := Nat.le_trans Z0 (Nat.le_of_eq g37.symm)
       have s_a37 : h0.size ≤ a37 := Nat.le_trans (Keep.refl h0 []).1 (Nat.le_of_eq g37.symm)
       have Z37 : n0 ≤ h37.size := Nat.le_trans Z0 E37.1
       have K37 : Keep h0 h37 [] := (Keep.refl h0 []).ext E37
       have V37 : Arv Z h37 a37 k37 .byte (4 : Int32) [(.int (0 : Int32)), (.int (0 : Int32)), (.int (0 : Int32)), (.int (0 : Int32)), (.int (0 : Int32))] (.int (0 : Int32)) := A37.pad (pad_rep [] (.int (0 : Int32)) 5)
       refine w_dup X37 hx (dB d1_91) 92 rfl rfl ?_
       refine w_iconst X37 hx (dB d1_92) 93 rfl (0 : Int32) (by decide) ?_
       refine w_lloadN X37 hx va (dB d1_93) 94 rfl rfl ?_
       refine w_iconst X37 hx (dB d1_94) 95 rfl (0 : Int32) (by decide) ?_
       refine w_callS X37 hx hZ hown e37 (rm2i0 l Z a0 hw [] va h37 n0 Z37 ) (tw_6 hw) (tw_7 hw) (tw_3 hw) (tw_8 hw) (by decide) (by rw [hml]; rfl) [(.long va), (.int (0 : Int32))] [(.int (0 : Int32)), (.ref a37), (.ref a37)] (lenOf pd_0 rfl) rfl rfl (by decide) 3 rfl (by decide) (by decide) (by decide) (dB d1_95) 98 rfl (fun r38 T38 L38 X38 q38 => ?_)
       obtain ⟨z38, rfl, f38, Nq38, eq38⟩ := q38
       have N38 := Fr.app N0 Nq38
       obtain ⟨f38, fl38, fh38⟩ := f38
       dsimp only [Option.toList_some, Option.toList_none, List.cons_append, List.nil_append]
       refine w_bastore X38 hx hZ eq38 V37 ⟨by decide, by decide⟩ 0 (by decide) (show 0 < 5 from (by decide)) (dB d1_98) 99 rfl (fun T39 h39 X39 e39 W39 V39 => ?_)
       have b39 : z38.toInt8.toInt32 = z38 := eqI (byteE rfl (by omega) (by omega))
       rw [b39] at W39 V39
       have F40 : Arv Z h39 a37 k37 .byte (4 : Int32) [(.int z38), (.int (0 : Int32)), (.int (0 : Int32)), (.int (0 : Int32)), (.int (0 : Int32))] (.int (0 : Int32)) := V39
       have Z39 : n0 ≤ h39.size := by rw [W39.size]; exact Z37
       have K39 : Keep h0 h39 [] := K37.wr W39 (Or.inr s_a37)
       have N39 := Fr.snoc X39 N38 g_a37
       refine w_dup X39 hx (dB d1_99) 100 rfl rfl ?_
       refine w_iconst X39 hx (dB d1_100) 101 rfl (1 : Int32) (by decide) ?_
       refine w_lloadN X39 hx va (dB d1_101) 102 rfl rfl ?_
       refine w_iconst X39 hx (dB d1_102) 103 rfl (1 : Int32) (by decide) ?_
       refine w_callS X39 hx hZ hown e39 (rm2i1 l Z a0 hw [] va h39 n0 Z39 ) (tw_6 hw) (tw_7 hw) (tw_3 hw) (tw_8 hw) (by decide) (by rw [hml]; rfl) [(.long va), (.int (1 : Int32))] [(.int (1 : Int32)), (.ref a37), (.ref a37)] (lenOf pd_0 rfl) rfl rfl (by decide) 3 rfl (by decide) (by decide) (by decide) (dB d1_103) 106 rfl (fun r41 T41 L41 X41 q41 => ?_)
       obtain ⟨z41, rfl, f41, Nq41, eq41⟩ := q41
       have N41 := Fr.app N39 Nq41
       obtain ⟨f41, fl41, fh41⟩ := f41
       dsimp only [Option.toList_some, Option.toList_none, List.cons_append, List.nil_append]
       refine w_bastore X41 hx hZ eq41 F40 ⟨by decide, by decide⟩ 1 (by decide) (show 1 < 5 from (by decide)) (dB d1_106) 107 rfl (fun T42 h42 X42 e42 W42 V42 => ?_)
       have b42 : z41.toInt8.toInt32 = z41 := eqI (byteE rfl (by omega) (by omega))
       rw [b42] at W42 V42
       have F43 : Arv Z h42 a37 k37 .byte (4 : Int32) [(.int z38), (.int z41), (.int (0 : Int32)), (.int (0 : Int32)), (.int (0 : Int32))] (.int (0 : Int32)) := V42
       have Z42 : n0 ≤ h42.size := by rw [W42.size]; exact Z39
       have K42 : Keep h0 h42 [] := K39.wr W42 (Or.inr s_a37)
       have N42 := Fr.snoc X42 N41 g_a37
       refine w_dup X42 hx (dB d1_107) 108 rfl rfl ?_
       refine w_iconst X42 hx (dB d1_108) 109 rfl (2 : Int32) (by decide) ?_
       refine w_lloadN X42 hx va (dB d1_109) 110 rfl rfl ?_
       refine w_iconst X42 hx (dB d1_110) 111 rfl (2 : Int32) (by decide) ?_
       refine w_callS X42 hx hZ hown e42 (rm2i2 l Z a0 hw [] va h42 n0 Z42 ) (tw_6 hw) (tw_7 hw) (tw_3 hw) (tw_8 hw) (by decide) (by rw [hml]; rfl) [(.long va), (.int (2 : Int32))] [(.int (2 : Int32)), (.ref a37), (.ref a37)] (lenOf pd_0 rfl) rfl rfl (by decide) 3 rfl (by decide) (by decide) (by decide) (dB d1_111) 114 rfl (fun r44 T44 L44 X44 q44 => ?_)
       obtain ⟨z44, rfl, f44, Nq44, eq44⟩ := q44
       have N44 := Fr.app N42 Nq44
       obtain ⟨f44, fl44, fh44⟩ := f44
       dsimp only [Option.toList_some, Option.toList_none, List.cons_append, List.nil_append]
       refine w_bastore X44 hx hZ eq44 F43 ⟨by decide, by decide⟩ 2 (by decide) (show 2 < 5 from (by decide)) (dB d1_114) 115 rfl (fun T45 h45 X45 e45 W45 V45 => ?_)
       have b45 : z44.toInt8.toInt32 = z44 := eqI (byteE rfl (by omega) (by omega))
       rw [b45] at W45 V45
       have F46 : Arv Z h45 a37 k37 .byte (4 : Int32) [(.int z38), (.int z41), (.int z44), (.int (0 : Int32)), (.int (0 : Int32))] (.int (0 : Int32)) := V45
       have Z45 : n0 ≤ h45.size := by rw [W45.size]; exact Z42
       have K45 : Keep h0 h45 [] := K42.wr W45 (Or.inr s_a37)
       have N45 := Fr.snoc X45 N44 g_a37
       refine w_dup X45 hx (dB d1_115) 116 rfl rfl ?_
       refine w_iconst X45 hx (dB d1_116) 117 rfl (3 : Int32) (by decide) ?_
       refine w_lloadN X45 hx va (dB d1_117) 118 rfl rfl ?_
       refine w_iconst X45 hx (dB d1_118) 119 rfl (3 : Int32) (by decide) ?_
       refine w_callS X45 hx hZ hown e45 (rm2i3 l Z a0 hw [] va h45 n0 Z45 ) (tw_6 hw) (tw_7 hw) (tw_3 hw) (tw_8 hw) (by decide) (by rw [hml]; rfl) [(.long va), (.int (3 : Int32))] [(.int (3 : Int32)), (.ref a37), (.ref a37)] (lenOf pd_0 rfl) rfl rfl (by decide) 3 rfl (by decide) (by decide) (by decide) (dB d1_119) 122 rfl (fun r47 T47 L47 X47 q47 => ?_)
       obtain ⟨z47, rfl, f47, Nq47, eq47⟩ := q47
       have N47 := Fr.app N45 Nq47
       obtain ⟨f47, fl47, fh47⟩ := f47
       dsimp only [Option.toList_some, Option.toList_none, List.cons_append, List.nil_append]
       refine w_bastore X47 hx hZ eq47 F46 ⟨by decide, by decide⟩ 3 (by decide) (show 3 < 5 from (by decide)) (dB d1_122) 123 rfl (fun T48 h48 X48 e48 W48 V48 => ?_)
       have b48 : z47.toInt8.toInt32 = z47 := eqI (byteE rfl (by omega) (by omega))
       rw [b48] at W48 V48
       have F49 : Arv Z h48 a37 k37 .byte (4 : Int32) [(.int z38), (.int z41), (.int z44), (.int z47), (.int (0 : Int32))] (.int (0 : Int32)) := V48
       have Z48 : n0 ≤ h48.size := by rw [W48.size]; exact Z45
       have K48 : Keep h0 h48 [] := K45.wr W48 (Or.inr s_a37)
       have N48 := Fr.snoc X48 N47 g_a37
       refine w_retA X48 hx hlk hret rfl rfl (dB d1_123) (by decide) (by decide) ?_
       rw [e48]
       exact ⟨a37, k37, (4 : Int32), z38, z41, z44, z47, (0 : Int32), rfl, by have hw_zz : (4 : Int32).toInt = 4 := (by decide); have hw_el4 : (0 : Int32).toInt = 0 := (by decide); exact ⟨by omega, fun _ => by assumption, by omega, by omega, fun _ => by assumption, by omega, by omega, fun _ => by assumption, by omega, by omega, fun _ => by assumption, by omega, by omega, fun h => by omega, by omega, by omega⟩, N48, K48, s_a37, F49⟩
     ·refine w_iconst X0 hx (dB d1_55) 56 rfl (3 : Int32) (by decide) ?_
      refine w_newP X0 hx hZ e0 (aty := .byte) (tw_5 hw) (by decide) 3 (by decide) (by decide) (by decide) (by decide) (dB d1_56) 58 rfl (fun T50 h50 a50 k50 X50 e50 g50 E50 A50 => ?_)
      have g_a50 : n0 ≤ a50 := Nat.le_trans Z0 (Nat.le_of_eq g50.symm)
      have s_a50 : h0.size ≤ a50 := Nat.le_trans (Keep.refl h0 []).1 (Nat.le_of_eq g50.symm)
      have Z50 : n0 ≤ h50.size := Nat.le_trans Z0 E50.1
      have K50 : Keep h0 h50 [] := (Keep.refl h0 []).ext E50
      have V50 : Arv Z h50 a50 k50 .byte (3 : Int32) [(.int (0 : Int32)), (.int (0 : Int32)), (.int (0 : Int32)), (.int (0 : Int32)), (.int (0 : Int32))] (.int (0 : Int32)) := A50.pad (pad_rep [] (.int (0 : Int32)) 5)
      refine w_dup X50 hx (dB d1_58) 59 rfl rfl ?_
      refine w_iconst X50 hx (dB d1_59) 60 rfl (0 : Int32) (by decide) ?_
      refine w_lloadN X50 hx va (dB d1_60) 61 rfl rfl ?_
      refine w_iconst X50 hx (dB d1_61) 62 rfl (0 : Int32) (by decide) ?_
      refine w_callS X50 hx hZ hown e50 (rm2i0 l Z a0 hw [] va h50 n0 Z50 ) (tw_6 hw) (tw_7 hw) (tw_3 hw) (tw_8 hw) (by decide) (by rw [hml]; rfl) [(.long va), (.int (0 : Int32))] [(.int (0 : Int32)), (.ref a50), (.ref a50)] (lenOf pd_0 rfl) rfl rfl (by decide) 3 rfl (by decide) (by decide) (by decide) (dB d1_62) 65 rfl (fun r51 T51 L51 X51 q51 => ?_)
      obtain ⟨z51, rfl, f51, Nq51, eq51⟩ := q51
      have N51 := Fr.app N0 Nq51
      obtain ⟨f51, fl51, fh51⟩ := f51
      dsimp only [Option.toList_some, Option.toList_none, List.cons_append, List.nil_append]
      refine w_bastore X51 hx hZ eq51 V50 ⟨by decide, by decide⟩ 0 (by decide) (show 0 < 5 from (by decide)) (dB d1_65) 66 rfl (fun T52 h52 X52 e52 W52 V52 => ?_)
      have b52 : z51.toInt8.toInt32 = z51 := eqI (byteE rfl (by omega) (by omega))
      rw [b52] at W52 V52
      have F53 : Arv Z h52 a50 k50 .byte (3 : Int32) [(.int z51), (.int (0 : Int32)), (.int (0 : Int32)), (.int (0 : Int32)), (.int (0 : Int32))] (.int (0 : Int32)) := V52
      have Z52 : n0 ≤ h52.size := by rw [W52.size]; exact Z50
      have K52 : Keep h0 h52 [] := K50.wr W52 (Or.inr s_a50)
      have N52 := Fr.snoc X52 N51 g_a50
      refine w_dup X52 hx (dB d1_66) 67 rfl rfl ?_
      refine w_iconst X52 hx (dB d1_67) 68 rfl (1 : Int32) (by decide) ?_
      refine w_lloadN X52 hx va (dB d1_68) 69 rfl rfl ?_
      refine w_iconst X52 hx (dB d1_69) 70 rfl (1 : Int32) (by decide) ?_
      refine w_callS X52 hx hZ hown e52 (rm2i1 l Z a0 hw [] va h52 n0 Z52 ) (tw_6 hw) (tw_7 hw) (tw_3 hw) (tw_8 hw) (by decide) (by rw [hml]; rfl) [(.long va), (.int (1 : Int32))] [(.int (1 : Int32)), (.ref a50), (.ref a50)] (lenOf pd_0 rfl) rfl rfl (by decide) 3 rfl (by decide) (by decide) (by decide) (dB d1_70) 73 rfl (fun r54 T54 L54 X54 q54 => ?_)
      obtain ⟨z54, rfl, f54, Nq54, eq54⟩ := q54
      have N54 := Fr.app N52 Nq54
      obtain ⟨f54, fl54, fh54⟩ := f54
      dsimp only [Option.toList_some, Option.toList_none, List.cons_append, List.nil_append]
      refine w_bastore X54 hx hZ eq54 F53 ⟨by decide, by decide⟩ 1 (by decide) (show 1 < 5 from (by decide)) (dB d1_73) 74 rfl (fun T55 h55 X55 e55 W55 V55 => ?_)
      have b55 : z54.toInt8.toInt32 = z54 := eqI (byteE rfl (by omega) (by omega))
      rw [b55] at W55 V55
      have F56 : Arv Z h55 a50 k50 .byte (3 : Int32) [(.int z51), (.int z54), (.int (0 : Int32)), (.int (0 : Int32)), (.int (0 : Int32))] (.int (0 : Int32)) := V55
      have Z55 : n0 ≤ h55.size := by rw [W55.size]; exact Z52
      have K55 : Keep h0 h55 [] := K52.wr W55 (Or.inr s_a50)
      have N55 := Fr.snoc X55 N54 g_a50
      refine w_dup X55 hx (dB d1_74) 75 rfl rfl ?_
      refine w_iconst X55 hx (dB d1_75) 76 rfl (2 : Int32) (by decide) ?_
      refine w_lloadN X55 hx va (dB d1_76) 77 rfl rfl ?_
      refine w_iconst X55 hx (dB d1_77) 78 rfl (2 : Int32) (by decide) ?_
      refine w_callS X55 hx hZ hown e55 (rm2i2 l Z a0 hw [] va h55 n0 Z55 ) (tw_6 hw) (tw_7 hw) (tw_3 hw) (tw_8 hw) (by decide) (by rw [hml]; rfl) [(.long va), (.int (2 : Int32))] [(.int (2 : Int32)), (.ref a50), (.ref a50)] (lenOf pd_0 rfl) rfl rfl (by decide) 3 rfl (by decide) (by decide) (by decide) (dB d1_78) 81 rfl (fun r57 T57 L57 X57 q57 => ?_)
      obtain ⟨z57, rfl, f57, Nq57, eq57⟩ := q57
      have N57 := Fr.app N55 Nq57
      obtain ⟨f57, fl57, fh57⟩ := f57
      dsimp only [Option.toList_some, Option.toList_none, List.cons_append, List.nil_append]
      refine w_bastore X57 hx hZ eq57 F56 ⟨by decide, by decide⟩ 2 (by decide) (show 2 < 5 from (by decide)) (dB d1_81) 82 rfl (fun T58 h58 X58 e58 W58 V58 => ?_)
      have b58 : z57.toInt8.toInt32 = z57 := eqI (byteE rfl (by omega) (by omega))
      rw [b58] at W58 V58
      have F59 : Arv Z h58 a50 k50 .byte (3 : Int32) [(.int z51), (.int z54), (.int z57), (.int (0 : Int32)), (.int (0 : Int32))] (.int (0 : Int32)) := V58
      have Z58 : n0 ≤ h58.size := by rw [W58.size]; exact Z55
      have K58 : Keep h0 h58 [] := K55.wr W58 (Or.inr s_a50)
      have N58 := Fr.snoc X58 N57 g_a50
      refine w_retA X58 hx hlk hret rfl rfl (dB d1_82) (by decide) (by decide) ?_
      rw [e58]
      exact ⟨a50, k50, (3 : Int32), z51, z54, z57, (0 : Int32), (0 : Int32), rfl, by have hw_zz : (3 : Int32).toInt = 3 := (by decide); have hw_el3 : (0 : Int32).toInt = 0 := (by decide); have hw_el4 : (0 : Int32).toInt = 0 := (by decide); exact ⟨by omega, fun _ => by assumption, by omega, by omega, fun _ => by assumption, by omega, by omega, fun _ => by assumption, by omega, by omega, fun h => by omega, by omega, by omega, fun h => by omega, by omega, by omega⟩, N58, K58, s_a50, F59⟩
    ·refine w_iconst X0 hx (dB d1_30) 31 rfl (2 : Int32) (by decide) ?_
     refine w_newP X0 hx hZ e0 (aty := .byte) (tw_5 hw) (by decide) 2 (by decide) (by decide) (by decide) (by decide) (dB d1_31) 33 rfl (fun T60 h60 a60 k60 X60 e60 g60 E60 A60 => ?_)
     have g_a60 : n0 ≤ a60 := Nat.le_trans Z0 (Nat.le_of_eq g60.symm)
     have s_a60 : h0.size ≤ a60 := Nat.le_trans (Keep.refl h0 []).1 (Nat.le_of_eq g60.symm)
     have Z60 : n0 ≤ h60.size := Nat.le_trans Z0 E60.1
     have K60 : Keep h0 h60 [] := (Keep.refl h0 []).ext E60
     have V60 : Arv Z h60 a60 k60 .byte (2 : Int32) [(.int (0 : Int32)), (.int (0 : Int32)), (.int (0 : Int32)), (.int (0 : Int32)), (.int (0 : Int32))] (.int (0 : Int32)) := A60.pad (pad_rep [] (.int (0 : Int32)) 5)
     refine w_dup X60 hx (dB d1_33) 34 rfl rfl ?_
     refine w_iconst X60 hx (dB d1_34) 35 rfl (0 : Int32) (by decide) ?_
     refine w_lloadN X60 hx va (dB d1_35) 36 rfl rfl ?_
     refine w_iconst X60 hx (dB d1_36) 37 rfl (0 : Int32) (by decide) ?_
     refine w_callS X60 hx hZ hown e60 (rm2i0 l Z a0 hw [] va h60 n0 Z60 ) (tw_6 hw) (tw_7 hw) (tw_3 hw) (tw_8 hw) (by decide) (by rw [hml]; rfl) [(.long va), (.int (0 : Int32))] [(.int (0 : Int32)), (.ref a60), (.ref a60)] (lenOf pd_0 rfl) rfl rfl (by decide) 3 rfl (by decide) (by decide) (by decide) (dB d1_37) 40 rfl (fun r61 T61 L61 X61 q61 => ?_)
     obtain ⟨z61, rfl, f61, Nq61, eq61⟩ := q61
     have N61 := Fr.app N0 Nq61
     obtain ⟨f61, fl61, fh61⟩ := f61
     dsimp only [Option.toList_some, Option.toList_none, List.cons_append, List.nil_append]
     refine w_bastore X61 hx hZ eq61 V60 ⟨by decide, by decide⟩ 0 (by decide) (show 0 < 5 from (by decide)) (dB d1_40) 41 rfl (fun T62 h62 X62 e62 W62 V62 => ?_)
     have b62 : z61.toInt8.toInt32 = z61 := eqI (byteE rfl (by omega) (by omega))
     rw [b62] at W62 V62
     have F63 : Arv Z h62 a60 k60 .byte (2 : Int32) [(.int z61), (.int (0 : Int32)), (.int (0 : Int32)), (.int (0 : Int32)), (.int (0 : Int32))] (.int (0 : Int32)) := V62
     have Z62 : n0 ≤ h62.size := by rw [W62.size]; exact Z60
     have K62 : Keep h0 h62 [] := K60.wr W62 (Or.inr s_a60)
     have N62 := Fr.snoc X62 N61 g_a60
     refine w_dup X62 hx (dB d1_41) 42 rfl rfl ?_
     refine w_iconst X62 hx (dB d1_42) 43 rfl (1 : Int32) (by decide) ?_
     refine w_lloadN X62 hx va (dB d1_43) 44 rfl rfl ?_
     refine w_iconst X62 hx (dB d1_44) 45 rfl (1 : Int32) (by decide) ?_
     refine w_callS X62 hx hZ hown e62 (rm2i1 l Z a0 hw [] va h62 n0 Z62 ) (tw_6 hw) (tw_7 hw) (tw_3 hw) (tw_8 hw) (by decide) (by rw [hml]; rfl) [(.long va), (.int (1 : Int32))] [(.int (1 : Int32)), (.ref a60), (.ref a60)] (lenOf pd_0 rfl) rfl rfl (by decide) 3 rfl (by decide) (by decide) (by decide) (dB d1_45) 48 rfl (fun r64 T64 L64 X64 q64 => ?_)
     obtain ⟨z64, rfl, f64, Nq64, eq64⟩ := q64
     have N64 := Fr.app N62 Nq64
     obtain ⟨f64, fl64, fh64⟩ := f64
     dsimp only [Option.toList_some, Option.toList_none, List.cons_append, List.nil_append]
     refine w_bastore X64 hx hZ eq64 F63 ⟨by decide, by decide⟩ 1 (by decide) (show 1 < 5 from (by decide)) (dB d1_48) 49 rfl (fun T65 h65 X65 e65 W65 V65 => ?_)
     have b65 : z64.toInt8.toInt32 = z64 := eqI (byteE rfl (by omega) (by omega))
     rw [b65] at W65 V65
     have F66 : Arv Z h65 a60 k60 .byte (2 : Int32) [(.int z61), (.int z64), (.int (0 : Int32)), (.int (0 : Int32)), (.int (0 : Int32))] (.int (0 : Int32)) := V65
     have Z65 : n0 ≤ h65.size := by rw [W65.size]; exact Z62
     have K65 : Keep h0 h65 [] := K62.wr W65 (Or.inr s_a60)
     have N65 := Fr.snoc X65 N64 g_a60
     refine w_retA X65 hx hlk hret rfl rfl (dB d1_49) (by decide) (by decide) ?_
     rw [e65]
     exact ⟨a60, k60, (2 : Int32), z61, z64, (0 : Int32), (0 : Int32), (0 : Int32), rfl, by have hw_zz : (2 : Int32).toInt = 2 := (by decide); have hw_el2 : (0 : Int32).toInt = 0 := (by decide); have hw_el3 : (0 : Int32).toInt = 0 := (by decide); have hw_el4 : (0 : Int32).toInt = 0 := (by decide); exact ⟨by omega, fun _ => by assumption, by omega, by omega, fun _ => by assumption, by omega, by omega, fun h => by omega, by omega, by omega, fun h => by omega, by omega, by omega, fun h => by omega, by omega, by omega⟩, N65, K65, s_a60, F66⟩
   ·refine w_iconst X0 hx (dB d1_13) 14 rfl (1 : Int32) (by decide) ?_
    refine w_newP X0 hx hZ e0 (aty := .byte) (tw_5 hw) (by decide) 1 (by decide) (by decide) (by decide) (by decide) (dB d1_14) 16 rfl (fun T67 h67 a67 k67 X67 e67 g67 E67 A67 => ?_)
    have g_a67 : n0 ≤ a67 := Nat.le_trans Z0 (Nat.le_of_eq g67.symm)
    have s_a67 : h0.size ≤ a67 := Nat.le_trans (Keep.refl h0 []).1 (Nat.le_of_eq g67.symm)
    have Z67 : n0 ≤ h67.size := Nat.le_trans Z0 E67.1
    have K67 : Keep h0 h67 [] := (Keep.refl h0 []).ext E67
    have V67 : Arv Z h67 a67 k67 .byte (1 : Int32) [(.int (0 : Int32)), (.int (0 : Int32)), (.int (0 : Int32)), (.int (0 : Int32)), (.int (0 : Int32))] (.int (0 : Int32)) := A67.pad (pad_rep [] (.int (0 : Int32)) 5)
    refine w_dup X67 hx (dB d1_16) 17 rfl rfl ?_
    refine w_iconst X67 hx (dB d1_17) 18 rfl (0 : Int32) (by decide) ?_
    refine w_lloadN X67 hx va (dB d1_18) 19 rfl rfl ?_
    refine w_iconst X67 hx (dB d1_19) 20 rfl (0 : Int32) (by decide) ?_
    refine w_callS X67 hx hZ hown e67 (rm2i0 l Z a0 hw [] va h67 n0 Z67 ) (tw_6 hw) (tw_7 hw) (tw_3 hw) (tw_8 hw) (by decide) (by rw [hml]; rfl) [(.long va), (.int (0 : Int32))] [(.int (0 : Int32)), (.ref a67), (.ref a67)] (lenOf pd_0 rfl) rfl rfl (by decide) 3 rfl (by decide) (by decide) (by decide) (dB d1_20) 23 rfl (fun r68 T68 L68 X68 q68 => ?_)
    obtain ⟨z68, rfl, f68, Nq68, eq68⟩ := q68
    have N68 := Fr.app N0 Nq68
    obtain ⟨f68, fl68, fh68⟩ := f68
    dsimp only [Option.toList_some, Option.toList_none, List.cons_append, List.nil_append]
    refine w_bastore X68 hx hZ eq68 V67 ⟨by decide, by decide⟩ 0 (by decide) (show 0 < 5 from (by decide)) (dB d1_23) 24 rfl (fun T69 h69 X69 e69 W69 V69 => ?_)
    have b69 : z68.toInt8.toInt32 = z68 := eqI (byteE rfl (by omega) (by omega))
    rw [b69] at W69 V69
    have F70 : Arv Z h69 a67 k67 .byte (1 : Int32) [(.int z68), (.int (0 : Int32)), (.int (0 : Int32)), (.int (0 : Int32)), (.int (0 : Int32))] (.int (0 : Int32)) := V69
    have Z69 : n0 ≤ h69.size := by rw [W69.size]; exact Z67
    have K69 : Keep h0 h69 [] := K67.wr W69 (Or.inr s_a67)
    have N69 := Fr.snoc X69 N68 g_a67
    refine w_retA X69 hx hlk hret rfl rfl (dB d1_24) (by decide) (by decide) ?_
    rw [e69]
    exact ⟨a67, k67, (1 : Int32), z68, (0 : Int32), (0 : Int32), (0 : Int32), (0 : Int32), rfl, by have hw_zz : (1 : Int32).toInt = 1 := (by decide); have hw_el1 : (0 : Int32).toInt = 0 := (by decide); have hw_el2 : (0 : Int32).toInt = 0 := (by decide); have hw_el3 : (0 : Int32).toInt = 0 := (by decide); have hw_el4 : (0 : Int32).toInt = 0 := (by decide); exact ⟨by omega, fun _ => by assumption, by omega, by omega, fun h => by omega, by omega, by omega, fun h => by omega, by omega, by omega, fun h => by omega, by omega, by omega, fun h => by omega, by omega, by omega⟩, N69, K69, s_a67, F70⟩
  ·refine w_iconst X0 hx (dB d1_4) 5 rfl (0 : Int32) (by decide) ?_
   refine w_newP X0 hx hZ e0 (aty := .byte) (tw_5 hw) (by decide) 0 (by decide) (by decide) (by decide) (by decide) (dB d1_5) 7 rfl (fun T71 h71 a71 k71 X71 e71 g71 E71 A71 => ?_)
   have g_a71 : n0 ≤ a71 := Nat.le_trans Z0 (Nat.le_of_eq g71.symm)
   have s_a71 : h0.size ≤ a71 := Nat.le_trans (Keep.refl h0 []).1 (Nat.le_of_eq g71.symm)
   have Z71 : n0 ≤ h71.size := Nat.le_trans Z0 E71.1
   have K71 : Keep h0 h71 [] := (Keep.refl h0 []).ext E71
   have V71 : Arv Z h71 a71 k71 .byte (0 : Int32) [(.int (0 : Int32)), (.int (0 : Int32)), (.int (0 : Int32)), (.int (0 : Int32)), (.int (0 : Int32))] (.int (0 : Int32)) := A71.pad (pad_rep [] (.int (0 : Int32)) 5)
   refine w_retA X71 hx hlk hret rfl rfl (dB d1_7) (by decide) (by decide) ?_
   rw [e71]
   exact ⟨a71, k71, (0 : Int32), (0 : Int32), (0 : Int32), (0 : Int32), (0 : Int32), (0 : Int32), rfl, by have hw_zz : (0 : Int32).toInt = 0 := (by decide); have hw_el0 : (0 : Int32).toInt = 0 := (by decide); have hw_el1 : (0 : Int32).toInt = 0 := (by decide); have hw_el2 : (0 : Int32).toInt = 0 := (by decide); have hw_el3 : (0 : Int32).toInt = 0 := (by decide); have hw_el4 : (0 : Int32).toInt = 0 := (by decide); exact ⟨by omega, fun h => by omega, by omega, by omega, fun h => by omega, by omega, by omega, fun h => by omega, by omega, by omega, fun h => by omega, by omega, by omega, fun h => by omega, by omega, by omega⟩, N0, K71, s_a71, V71⟩
theorem ef_3 (m : MethodId) (x0 : Addr) (x1 : Addr) : entryFrame m #[(.ref x0), (.ref x1)] 3 = mkF m 0 #[.val (.ref x0), .val (.ref x1), .unset] [] := by first | (simp [entryFrame, mkF, argsToLocals, Value.category]; done) | rfl
def Q3 (Z : State) (ta : Addr) (ma : Addr) (kt : ClassId) (km : ClassId) (zz : Int32) (zm : Int32) (t0 : Int32) (t1 : Int32) (t2 : Int32) (t3 : Int32) (t4 : Int32) (m0 : Int32) (m1 : Int32) (m2 : Int32) (m3 : Int32) (m4 : Int32) (h0 : Heap) (n0 : Nat) (v : Option Value) (h : Heap) (L : List Loc) : Prop := ∃ x0 : Int32, ∃ x1 : Int32, ∃ x2 : Int32, ∃ x3 : Int32, ∃ x4 : Int32, v = none ∧ (((0 < zz.toInt ∧ x0 = own_xb t0 m0) ∨ (zz.toInt ≤ 0 ∧ x0 = t0)) ∧ -128 ≤ x0.toInt ∧ x0.toInt ≤ 127 ∧ ((1 < zz.toInt ∧ x1 = own_xb t1 m1) ∨ (zz.toInt ≤ 1 ∧ x1 = t1)) ∧ -128 ≤ x1.toInt ∧ x1.toInt ≤ 127 ∧ ((2 < zz.toInt ∧ x2 = own_xb t2 m2) ∨ (zz.toInt ≤ 2 ∧ x2 = t2)) ∧ -128 ≤ x2.toInt ∧ x2.toInt ≤ 127 ∧ ((3 < zz.toInt ∧ x3 = own_xb t3 m3) ∨ (zz.toInt ≤ 3 ∧ x3 = t3)) ∧ -128 ≤ x3.toInt ∧ x3.toInt ≤ 127 ∧ ((4 < zz.toInt ∧ x4 = own_xb t4 m4) ∨ (zz.toInt ≤ 4 ∧ x4 = t4)) ∧ -128 ≤ x4.toInt ∧ x4.toInt ≤ 127) ∧ Fr n0 L ∧ Keep h0 h [ta] ∧ Arv Z h ta kt .byte zz [(.int x0), (.int x1), (.int x2), (.int x3), (.int x4)] (.int (0 : Int32))
set_option maxRecDepth 65536 in
set_option maxHeartbeats 40000000 in
theorem rm3 (l : Launch) (Z : State) (a0 : Array Value) (hw : ∀ d ∈ tables_1, d.before a0 Z = true) (ws : List Jvm.Cond) (ta : Addr) (ma : Addr) (kt : ClassId) (km : ClassId) (zz : Int32) (zm : Int32) (t0 : Int32) (t1 : Int32) (t2 : Int32) (t3 : Int32) (t4 : Int32) (m0 : Int32) (m1 : Int32) (m2 : Int32) (m3 : Int32) (m4 : Int32) (h0 : Heap) (n0 : Nat) (Z0 : n0 ≤ h0.size) (V_ta : Arv Z h0 ta kt .byte zz [(.int t0), (.int t1), (.int t2), (.int t3), (.int t4)] (.int (0 : Int32))) (V_ma : Arv Z h0 ma km .byte zm [(.int m0), (.int m1), (.int m2), (.int m3), (.int m4)] (.int (0 : Int32))) (g_ta : n0 ≤ ta) (p0 : 0 ≤ zz.toInt) (p1 : zz.toInt ≤ 4) (p2 : zz.toInt ≤ zm.toInt) (ne1 : ma ≠ ta) (b0 : -128 ≤ t0.toInt ∧ t0.toInt ≤ 127) (b1 : -128 ≤ t1.toInt ∧ t1.toInt ≤ 127) (b2 : -128 ≤ t2.toInt ∧ t2.toInt ≤ 127) (b3 : -128 ≤ t3.toInt ∧ t3.toInt ≤ 127) (b4 : -128 ≤ t4.toInt ∧ t4.toInt ≤ 127) :
    CT l mN_3 prog_6_method_16_code 3 none ws ({ frames := 0, cells := 0, slots := 0, locals := 0 } : Room) #[(.ref ta), (.ref ma)] Z h0 (Q3 Z ta ma kt km zz zm t0 t1 t2 t3 t4 m0 m1 m2 m3 m4 h0 n0) := by
  refine body_of (plainFor_of_name pn_1) ?_
  intro p e s m below meth c s₁ hx dB hret hlk hml hown0 hnm X0 e0 hZ
  have hown : s.vm.findClass cN_1 = some m.cls := hown0
  have N0 := Fr.nil n0
  rw [ef_3]
  show Wk p e below (FN s (Q3 Z ta ma kt km zz zm t0 t1 t2 t3 t4 m0 m1 m2 m3 m4 h0 n0) 0 0) s₁ (mkF m 0 #[.val (.ref ta), .val (.ref ma), .unset] [])
  refine w_iconst X0 hx (dB d3_0) 1 rfl (0 : Int32) (by decide) ?_
  refine w_istoreN X0 hx (dB d3_1) 2 rfl #[.val (.ref ta), .val (.ref ma), .val (.int (0 : Int32))] rfl ?_
  refine w_iloadN X0 hx (0 : Int32) (dB d3_2) 3 rfl rfl ?_
  refine w_aloadN X0 hx (.ref ta) (dB d3_3) 4 rfl rfl rfl ?_
  refine w_length X0 hx hZ e0 V_ta (dB d3_4) 5 rfl ?_
  refine w_icmp_ge X0 hx 0 zz.toInt (by decide) rfl (dB d3_5) 24 8 (fun c72 => ?_) (fun c72 => ?_)
  ·refine w_ret0 X0 hx hlk hret (dB d3_24) (by decide) (by decide) ?_
   rw [e0]
   exact ⟨t0, t1, t2, t3, t4, rfl, by exact ⟨Or.inr ⟨by omega, rfl⟩, by omega, by omega, Or.inr ⟨by omega, rfl⟩, by omega, by omega, Or.inr ⟨by omega, rfl⟩, by omega, by omega, Or.inr ⟨by omega, rfl⟩, by omega, by omega, Or.inr ⟨by omega, rfl⟩, by omega, by omega⟩, N0, (Keep.refl h0 [ta]), V_ta⟩
  ·refine w_aloadN X0 hx (.ref ta) (dB d3_8) 9 rfl rfl rfl ?_
   refine w_iloadN X0 hx (0 : Int32) (dB d3_9) 10 rfl rfl ?_
   refine w_dup2 X0 hx (dB d3_10) 11 rfl rfl rfl ?_
   refine w_baload X0 hx hZ e0 V_ta ⟨by decide, by have hj : (0 : Int32).toInt = 0 := (by decide); omega⟩ (v := (.int t0)) rfl (dB d3_11) 12 rfl ?_
   refine w_aloadN X0 hx (.ref ma) (dB d3_12) 13 rfl rfl rfl ?_
   refine w_iloadN X0 hx (0 : Int32) (dB d3_13) 14 rfl rfl ?_
   refine w_baload X0 hx hZ e0 V_ma ⟨by decide, by have hj : (0 : Int32).toInt = 0 := (by decide); omega⟩ (v := (.int m0)) rfl (dB d3_14) 15 rfl ?_
   obtain ⟨v73, e73⟩ : ∃ z : Int32, z = t0 ^^^ m0 := ⟨_, rfl⟩
   have n73 : -2147483648 ≤ v73.toInt ∧ v73.toInt < 2147483648 := by rw [e73]; exact rng32 _
   refine w_ixor X0 hx (dB d3_15) 16 rfl e73 ?_
   obtain ⟨v74, e74⟩ : ∃ z : Int32, z = v73.toInt8.toInt32 := ⟨_, rfl⟩
   have n74 : (v74.toInt - v73.toInt) % 256 = 0 ∧ -128 ≤ v74.toInt ∧ v74.toInt < 128 := by rw [e74]; exact i2bX rfl
   refine w_i2b X0 hx (dB d3_16) 17 rfl e74 ?_
   refine w_bastore X0 hx hZ e0 V_ta ⟨by decide, by have hj : (0 : Int32).toInt = 0 := (by decide); omega⟩ 0 (by decide) (show 0 < 5 from (by decide)) (dB d3_17) 18 rfl (fun T75 h75 X75 e75 W75 V75 => ?_)
   have b75 : v74.toInt8.toInt32 = v74 := eqI (byteE rfl (by omega) (by omega))
   rw [b75] at W75 V75
   have F76 : Arv Z h75 ta kt .byte zz [(.int v74), (.int t1), (.int t2), (.int t3), (.int t4)] (.int (0 : Int32)) := V75
   have F77 : Arv Z h75 ma km .byte zm [(.int m0), (.int m1), (.int m2), (.int m3), (.int m4)] (.int (0 : Int32)) := V_ma.other W75 ne1
   have Z75 : n0 ≤ h75.size := by rw [W75.size]; exact Z0
   have K75 : Keep h0 h75 [ta] := (Keep.refl h0 [ta]).wr W75 (Or.inl (List.mem_of_getElem? (i := 0) rfl))
   have N75 := Fr.snoc X75 N0 g_ta
   refine w_iinc X75 hx (dB d3_18) 21 rfl rfl (1 : Int32) (by rw [(show (1 : Int32) = (0 : Int32) + (1 : Int32) from by decide)]; rfl) #[.val (.ref ta), .val (.ref ma), .val (.int (1 : Int32))] rfl ?_
   refine w_goto X75 hx (dB d3_21) 2 ?_
   refine w_iloadN X75 hx (1 : Int32) (dB d3_2) 3 rfl rfl ?_
   refine w_aloadN X75 hx (.ref ta) (dB d3_3) 4 rfl rfl rfl ?_
   refine w_length X75 hx hZ e75 F76 (dB d3_4) 5 rfl ?_
   refine w_icmp_ge X75 hx 1 zz.toInt (by decide) rfl (dB d3_5) 24 8 (fun c78 => ?_) (fun c78 => ?_)
   ·refine w_ret0 X75 hx hlk hret (dB d3_24) (by decide) (by decide) ?_
    rw [e75]
    exact ⟨v74, t1, t2, t3, t4, rfl, by exact ⟨Or.inl ⟨by omega, by subst_vars; rfl⟩, by omega, by omega, Or.inr ⟨by omega, rfl⟩, by omega, by omega, Or.inr ⟨by omega, rfl⟩, by omega, by omega, Or.inr ⟨by omega, rfl⟩, by omega, by omega, Or.inr ⟨by omega, rfl⟩, by omega, by omega⟩, N75, K75, F76⟩
   ·refine w_aloadN X75 hx (.ref ta) (dB d3_8) 9 rfl rfl rfl ?_
    refine w_iloadN X75 hx (1 : Int32) (dB d3_9) 10 rfl rfl ?_
    refine w_dup2 X75 hx (dB d3_10) 11 rfl rfl rfl ?_
    refine w_baload X75 hx hZ e75 F76 ⟨by decide, by have hj : (1 : Int32).toInt = 1 := (by decide); omega⟩ (v := (.int t1)) rfl (dB d3_11) 12 rfl ?_
    refine w_aloadN X75 hx (.ref ma) (dB d3_12) 13 rfl rfl rfl ?_
    refine w_iloadN X75 hx (1 : Int32) (dB d3_13) 14 rfl rfl ?_
    refine w_baload X75 hx hZ e75 F77 ⟨by decide, by have hj : (1 : Int32).toInt = 1 := (by decide); omega⟩ (v := (.int m1)) rfl (dB d3_14) 15 rfl ?_
    obtain ⟨v79, e79⟩ : ∃ z : Int32, z = t1 ^^^ m1 := ⟨_, rfl⟩
    have n79 : -2147483648 ≤ v79.toInt ∧ v79.toInt < 2147483648 := by rw [e79]; exact rng32 _
    refine w_ixor X75 hx (dB d3_15) 16 rfl e79 ?_
    obtain ⟨v80, e80⟩ : ∃ z : Int32, z = v79.toInt8.toInt32 := ⟨_, rfl⟩
    have n80 : (v80.toInt - v79.toInt) % 256 = 0 ∧ -128 ≤ v80.toInt ∧ v80.toInt < 128 := by rw [e80]; exact i2bX rfl
    refine w_i2b X75 hx (dB d3_16) 17 rfl e80 ?_
    refine w_bastore X75 hx hZ e75 F76 ⟨by decide, by have hj : (1 : Int32).toInt = 1 := (by decide); omega⟩ 1 (by decide) (show 1 < 5 from (by decide)) (dB d3_17) 18 rfl (fun T81 h81 X81 e81 W81 V81 => ?_)
    have b81 : v80.toInt8.toInt32 = v80 := eqI (byteE rfl (by omega) (by omega))
    rw [b81] at W81 V81
    have F82 : Arv Z h81 ta kt .byte zz [(.int v74), (.int v80), (.int t2), (.int t3), (.int t4)] (.int (0 : Int32)) := V81
    have F83 : Arv Z h81 ma km .byte zm [(.int m0), (.int m1), (.int m2), (.int m3), (.int m4)] (.int (0 : Int32)) := F77.other W81 ne1
    have Z81 : n0 ≤ h81.size := by rw [W81.size]; exact Z75
    have K81 : Keep h0 h81 [ta] := K75.wr W81 (Or.inl (List.mem_of_getElem? (i := 0) rfl))
    have N81 := Fr.snoc X81 N75 g_ta
    refine w_iinc X81 hx (dB d3_18) 21 rfl rfl (2 : Int32) (by rw [(show (2 : Int32) = (1 : Int32) + (1 : Int32) from by decide)]; rfl) #[.val (.ref ta), .val (.ref ma), .val (.int (2 : Int32))] rfl ?_
    refine w_goto X81 hx (dB d3_21) 2 ?_
    refine w_iloadN X81 hx (2 : Int32) (dB d3_2) 3 rfl rfl ?_
    refine w_aloadN X81 hx (.ref ta) (dB d3_3) 4 rfl rfl rfl ?_
    refine w_length X81 hx hZ e81 F82 (dB d3_4) 5 rfl ?_
    refine w_icmp_ge X81 hx 2 zz.toInt (by decide) rfl (dB d3_5) 24 8 (fun c84 => ?_) (fun c84 => ?_)
    ·refine w_ret0 X81 hx hlk hret (dB d3_24) (by decide) (by decide) ?_
     rw [e81]
     exact ⟨v74, v80, t2, t3, t4, rfl, by exact ⟨Or.inl ⟨by omega, by subst_vars; rfl⟩, by omega, by omega, Or.inl ⟨by omega, by subst_vars; rfl⟩, by omega, by omega, Or.inr ⟨by omega, rfl⟩, by omega, by omega, Or.inr ⟨by omega, rfl⟩, by omega, by omega, Or.inr ⟨by omega, rfl⟩, by omega, by omega⟩, N81, K81, F82⟩
    ·refine w_aloadN X81 hx (.ref ta) (dB d3_8) 9 rfl rfl rfl ?_
     refine w_iloadN X81 hx (2 : Int32) (dB d3_9) 10 rfl rfl ?_
     refine w_dup2 X81 hx (dB d3_10) 11 rfl rfl rfl ?_
     refine w_baload X81 hx hZ e81 F82 ⟨by decide, by have hj : (2 : Int32).toInt = 2 := (by decide); omega⟩ (v := (.int t2)) rfl (dB d3_11) 12 rfl ?_
     refine w_aloadN X81 hx (.ref ma) (dB d3_12) 13 rfl rfl rfl ?_
     refine w_iloadN X81 hx (2 : Int32) (dB d3_13) 14 rfl rfl ?_
     refine w_baload X81 hx hZ e81 F83 ⟨by decide, by have hj : (2 : Int32).toInt = 2 := (by decide); omega⟩ (v := (.int m2)) rfl (dB d3_14) 15 rfl ?_
     obtain ⟨v85, e85⟩ : ∃ z : Int32, z = t2 ^^^ m2 := ⟨_, rfl⟩
     have n85 : -2147483648 ≤ v85.toInt ∧ v85.toInt < 2147483648 := by rw [e85]; exact rng32 _
     refine w_ixor X81 hx (dB d3_15) 16 rfl e85 ?_
     obtain ⟨v86, e86⟩ : ∃ z : Int32, z = v85.toInt8.toInt32 := ⟨_, rfl⟩
     have n86 : (v86.toInt - v85.toInt) % 256 = 0 ∧ -128 ≤ v86.toInt ∧ v86.toInt < 128 := by rw [e86]; exact i2bX rfl
     refine w_i2b X81 hx (dB d3_16) 17 rfl e86 ?_
     refine w_bastore X81 hx hZ e81 F82 ⟨by decide, by have hj : (2 : Int32).toInt = 2 := (by decide); omega⟩ 2 (by decide) (show 2 < 5 from (by decide)) (dB d3_17) 18 rfl (fun T87 h87 X87 e87 W87 V87 => ?_)
     have b87 : v86.toInt8.toInt32 = v86 := eqI (byteE rfl (by omega) (by omega))
     rw [b87] at W87 V87
     have F88 : Arv Z h87 ta kt .byte zz [(.int v74), (.int v80), (.int v86), (.int t3), (.int t4)] (.int (0 : Int32)) := V87
     have F89 : Arv Z h87 ma km .byte zm [(.int m0), (.int m1), (.int m2), (.int m3), (.int m4)] (.int (0 : Int32)) := F83.other W87 ne1
     have Z87 : n0 ≤ h87.size := by rw [W87.size]; exact Z81
     have K87 : Keep h0 h87 [ta] := K81.wr W87 (Or.inl (List.mem_of_getElem? (i := 0) rfl))
     have N87 := Fr.snoc X87 N81 g_ta
     refine w_iinc X87 hx (dB d3_18) 21 rfl rfl (3 : Int32) (by rw [(show (3 : Int32) = (2 : Int32) + (1 : Int32) from by decide)]; rfl) #[.val (.ref ta), .val (.ref ma), .val (.int (3 : Int32))] rfl ?_
     refine w_goto X87 hx (dB d3_21) 2 ?_
     refine w_iloadN X87 hx (3 : Int32) (dB d3_2) 3 rfl rfl ?_
     refine w_aloadN X87 hx (.ref ta) (dB d3_3) 4 rfl rfl rfl ?_
     refine w_length X87 hx hZ e87 F88 (dB d3_4) 5 rfl ?_
     refine w_icmp_ge X87 hx 3 zz.toInt (by decide) rfl (dB d3_5) 24 8 (fun c90 => ?_) (fun c90 => ?_)
     ·refine w_ret0 X87 hx hlk hret (dB d3_24) (by decide) (by decide) ?_
      rw [e87]
      exact ⟨v74, v80, v86, t3, t4, rfl, by exact ⟨Or.inl ⟨by omega, by subst_vars; rfl⟩, by omega, by omega, Or.inl ⟨by omega, by subst_vars; rfl⟩, by omega, by omega, Or.inl ⟨by omega, by subst_vars; rfl⟩, by omega, by omega, Or.inr ⟨by omega, rfl⟩, by omega, by omega, Or.inr ⟨by omega, rfl⟩, by omega, by omega⟩, N87, K87, F88⟩
     ·refine w_aloadN X87 hx (.ref ta) (dB d3_8) 9 rfl rfl rfl ?_
      refine w_iloadN X87 hx (3 : Int32) (dB d3_9) 10 rfl rfl ?_
      refine w_dup2 X87 hx (dB d3_10) 11 rfl rfl rfl ?_
      refine w_baload X87 hx hZ e87 F88 ⟨by decide, by have hj : (3 : Int32).toInt = 3 := (by decide); omega⟩ (v := (.int t3)) rfl (dB d3_11) 12 rfl ?_
      refine w_aloadN X87 hx (.ref ma) (dB d3_12) 13 rfl rfl rfl ?_
      refine w_iloadN X87 hx (3 : Int32) (dB d3_13) 14 rfl rfl ?_
      refine w_baload X87 hx hZ e87 F89 ⟨by decide, by have hj : (3 : Int32).toInt = 3 := (by decide); omega⟩ (v := (.int m3)) rfl (dB d3_14) 15 rfl ?_
      obtain ⟨v91, e91⟩ : ∃ z : Int32, z = t3 ^^^ m3 := ⟨_, rfl⟩
      have n91 : -2147483648 ≤ v91.toInt ∧ v91.toInt < 2147483648 := by rw [e91]; exact rng32 _
      refine w_ixor X87 hx (dB d3_15) 16 rfl e91 ?_
      obtain ⟨v92, e92⟩ : ∃ z : Int32, z = v91.toInt8.toInt32 := ⟨_, rfl⟩
      have n92 : (v92.toInt - v91.toInt) % 256 = 0 ∧ -128 ≤ v92.toInt ∧ v92.toInt < 128 := by rw [e92]; exact i2bX rfl
      refine w_i2b X87 hx (dB d3_16) 17 rfl e92 ?_
      refine w_bastore X87 hx hZ e87 F88 ⟨by decide, by have hj : (3 : Int32).toInt = 3 := (by decide); omega⟩ 3 (by decide) (show 3 < 5 from (by decide)) (dB d3_17) 18 rfl (fun T93 h93 X93 e93 W93 V93 => ?_)
      have b93 : v92.toInt8.toInt32 = v92 := eqI (byteE rfl (by omega) (by omega))
      rw [b93] at W93 V93
      have F94 : Arv Z h93 ta kt .byte zz [(.int v74), (.int v80), (.int v86), (.int v92), (.int t4)] (.int (0 : Int32)) := V93
      have F95 : Arv Z h93 ma km .byte zm [(.int m0), (.int m1), (.int m2), (.int m3), (.int m4)] (.int (0 : Int32)) := F89.other W93 ne1
      have Z93 : n0 ≤ h93.size := by rw [W93.size]; exact Z87
      have K93 : Keep h0 h93 [ta] := K87.wr W93 (Or.inl (List.mem_of_getElem? (i := 0) rfl))
      have N93 := Fr.snoc X93 N87 g_ta
      refine w_iinc X93 hx (dB d3_18) 21 rfl rfl (4 : Int32) (by rw [(show (4 : Int32) = (3 : Int32) + (1 : Int32) from by decide)]; rfl) #[.val (.ref ta), .val (.ref ma), .val (.int (4 : Int32))] rfl ?_
      refine w_goto X93 hx (dB d3_21) 2 ?_
      refine w_iloadN X93 hx (4 : Int32) (dB d3_2) 3 rfl rfl ?_
      refine w_aloadN X93 hx (.ref ta) (dB d3_3) 4 rfl rfl rfl ?_
      refine w_length X93 hx hZ e93 F94 (dB d3_4) 5 rfl ?_
      refine w_icmp_ge X93 hx 4 zz.toInt (by decide) rfl (dB d3_5) 24 8 (fun c96 => ?_) (fun c96 => ?_)
      ·refine w_ret0 X93 hx hlk hret (dB d3_24) (by decide) (by decide) ?_
       rw [e93]
       exact ⟨v74, v80, v86, v92, t4, rfl, by exact ⟨Or.inl ⟨by omega, by subst_vars; rfl⟩, by omega, by omega, Or.inl ⟨by omega, by subst_vars; rfl⟩, by omega, by omega, Or.inl ⟨by omega, by subst_vars; rfl⟩, by omega, by omega, Or.inl ⟨by omega, by subst_vars; rfl⟩, by omega, by omega, Or.inr ⟨by omega, rfl⟩, by omega, by omega⟩, N93, K93, F94⟩
      ·exfalso; omega
theorem ef_4i0 (m : MethodId) (x0 : Addr) (x2 : Int32) (x3 : Int64) (x4 : Int64) : entryFrame m #[(.ref x0), (.int (0 : Int32)), (.int x2), (.long x3), (.long x4)] 7 = mkF m 0 #[.val (.ref x0), .val (.int (0 : Int32)), .val (.int x2), .val (.long x3), .second, .val (.long x4), .second] [] := by first | (simp [entryFrame, mkF, argsToLocals, Value.category]; done) | rfl
def Q4i0 (Z : State) (a : Addr) (xn : Int32) (va : Int64) (vb : Int64) (kb : ClassId) (zz : Int32) (el0 : Int32) (el1 : Int32) (el2 : Int32) (el3 : Int32) (el4 : Int32) (h0 : Heap) (n0 : Nat) (v : Option Value) (h : Heap) (L : List Loc) : Prop := ∃ z : Int32, v = some (.int z) ∧ (z.toInt = 1) ∧ Fr n0 L ∧ h = h0
set_option maxRecDepth 65536 in
set_option maxHeartbeats 40000000 in
theorem rm4i0 (l : Launch) (Z : State) (a0 : Array Value) (hw : ∀ d ∈ tables_1, d.before a0 Z = true) (ws : List Jvm.Cond) (a : Addr) (xn : Int32) (va : Int64) (vb : Int64) (kb : ClassId) (zz : Int32) (el0 : Int32) (el1 : Int32) (el2 : Int32) (el3 : Int32) (el4 : Int32) (h0 : Heap) (n0 : Nat) (Z0 : n0 ≤ h0.size) (V_a : Arv Z h0 a kb .byte zz [(.int el0), (.int el1), (.int el2), (.int el3), (.int el4)] (.int (0 : Int32))) (p0 : xn.toInt = zz.toInt) (ph : 0 < xn.toInt → el0 = own_xb (own_bt va (0 : Int32)) (own_bt vb (0 : Int32))) :
    CT l mN_4 method_4_code 7 (some .boolean) ws ({ frames := 1, cells := 0, slots := 0, locals := 16 } : Room) #[(.ref a), (.int (0 : Int32)), (.int xn), (.long va), (.long vb)] Z h0 (Q4i0 Z a xn va vb kb zz el0 el1 el2 el3 el4 h0 n0) := by
  refine body_of (plainFor_of_name pn_0) ?_
  intro p e s m below meth c s₁ hx dB hret hlk hml hown0 hnm X0 e0 hZ
  have hown : s.vm.findClass cN_0 = some m.cls := hown0
  have N0 := Fr.nil n0
  rw [ef_4i0]
  show Wk p e below (FN s (Q4i0 Z a xn va vb kb zz el0 el1 el2 el3 el4 h0 n0) 0 0) s₁ (mkF m 0 #[.val (.ref a), .val (.int (0 : Int32)), .val (.int xn), .val (.long va), .second, .val (.long vb), .second] [])
  have r_xn := rng32 xn
  have r_va := rng64 va
  have r_vb := rng64 vb
  refine w_iloadN X0 hx (0 : Int32) (dB d4_0) 1 rfl rfl ?_
  refine w_iloadN X0 hx xn (dB d4_1) 2 rfl rfl ?_
  refine w_icmp_lt X0 hx 0 xn.toInt (by decide) rfl (dB d4_2) 7 5 (fun c97 => ?_) (fun c97 => ?_)
  ·refine w_aloadN X0 hx (.ref a) (dB d4_7) 8 rfl rfl rfl ?_
   refine w_iloadN X0 hx (0 : Int32) (dB d4_8) 9 rfl rfl ?_
   refine w_baload X0 hx hZ e0 V_a ⟨by decide, by have hj : (0 : Int32).toInt = 0 := (by decide); omega⟩ (v := (.int el0)) rfl (dB d4_9) 10 rfl ?_
   refine w_lloadN X0 hx va (dB d4_10) 11 rfl rfl ?_
   refine w_iloadN X0 hx (0 : Int32) (dB d4_11) 12 rfl rfl ?_
   refine w_callS X0 hx hZ hown e0 (rm2i0 l Z a0 hw [] va h0 n0 Z0 ) (tw_6 hw) (tw_7 hw) (tw_3 hw) (tw_8 hw) (by decide) (by rw [hml]; rfl) [(.long va), (.int (0 : Int32))] [(.int el0)] (lenOf pd_0 rfl) rfl rfl (by decide) 1 rfl (by decide) (by decide) (by decide) (dB d4_12) 15 rfl (fun r98 T98 L98 X98 q98 => ?_)
   obtain ⟨z98, rfl, f98, Nq98, eq98⟩ := q98
   have N98 := Fr.app N0 Nq98
   obtain ⟨f98, fl98, fh98⟩ := f98
   dsimp only [Option.toList_some, Option.toList_none, List.cons_append, List.nil_append]
   refine w_lload X98 hx vb (dB d4_15) 17 rfl rfl ?_
   refine w_iloadN X98 hx (0 : Int32) (dB d4_17) 18 rfl rfl ?_
   refine w_callS X98 hx hZ hown eq98 (rm2i0 l Z a0 hw [] vb h0 n0 Z0 ) (tw_6 hw) (tw_7 hw) (tw_3 hw) (tw_8 hw) (by decide) (by rw [hml]; rfl) [(.long vb), (.int (0 : Int32))] [(.int z98), (.int el0)] (lenOf pd_0 rfl) rfl rfl (by decide) 2 rfl (by decide) (by decide) (by decide) (dB d4_18) 21 rfl (fun r99 T99 L99 X99 q99 => ?_)
   obtain ⟨z99, rfl, f99, Nq99, eq99⟩ := q99
   have N99 := Fr.app N98 Nq99
   obtain ⟨f99, fl99, fh99⟩ := f99
   dsimp only [Option.toList_some, Option.toList_none, List.cons_append, List.nil_append]
   obtain ⟨v100, e100⟩ : ∃ z : Int32, z = z98 ^^^ z99 := ⟨_, rfl⟩
   have n100 : -2147483648 ≤ v100.toInt ∧ v100.toInt < 2147483648 := by rw [e100]; exact rng32 _
   refine w_ixor X99 hx (dB d4_21) 22 rfl e100 ?_
   obtain ⟨v101, e101⟩ : ∃ z : Int32, z = v100.toInt8.toInt32 := ⟨_, rfl⟩
   have n101 : (v101.toInt - v100.toInt) % 256 = 0 ∧ -128 ≤ v101.toInt ∧ v101.toInt < 128 := by rw [e101]; exact i2bX rfl
   refine w_i2b X99 hx (dB d4_22) 23 rfl e101 ?_
   refine w_icmp_ne X99 hx el0.toInt v101.toInt rfl rfl (dB d4_23) 30 26 (fun c102 => ?_) (fun c102 => ?_)
   ·exact absurd (congrArg Int32.toInt (by rw [ph (by omega)]; subst_vars; rfl)) c102
   ·refine w_iconst X99 hx (dB d4_26) 27 rfl (1 : Int32) (by decide) ?_
    refine w_goto X99 hx (dB d4_27) 31 ?_
    refine w_retN X99 hx hlk (t := .boolean) hret (by simp) (dB d4_31) (by decide) (by decide) ?_
    rw [eq99]
    exact ⟨(1 : Int32), rfl, by have hz : (1 : Int32).toInt = 1 := (by decide); omega, N99, rfl⟩
  ·refine w_iconst X0 hx (dB d4_5) 6 rfl (1 : Int32) (by decide) ?_
   refine w_retN X0 hx hlk (t := .boolean) hret (by simp) (dB d4_6) (by decide) (by decide) ?_
   rw [e0]
   exact ⟨(1 : Int32), rfl, by have hz : (1 : Int32).toInt = 1 := (by decide); omega, N0, rfl⟩
theorem ef_4i1 (m : MethodId) (x0 : Addr) (x2 : Int32) (x3 : Int64) (x4 : Int64) : entryFrame m #[(.ref x0), (.int (1 : Int32)), (.int x2), (.long x3), (.long x4)] 7 = mkF m 0 #[.val (.ref x0), .val (.int (1 : Int32)), .val (.int x2), .val (.long x3), .second, .val (.long x4), .second] [] := by first | (simp [entryFrame, mkF, argsToLocals, Value.category]; done) | rfl
def Q4i1 (Z : State) (a : Addr) (xn : Int32) (va : Int64) (vb : Int64) (kb : ClassId) (zz : Int32) (el0 : Int32) (el1 : Int32) (el2 : Int32) (el3 : Int32) (el4 : Int32) (h0 : Heap) (n0 : Nat) (v : Option Value) (h : Heap) (L : List Loc) : Prop := ∃ z : Int32, v = some (.int z) ∧ (z.toInt = 1) ∧ Fr n0 L ∧ h = h0
set_option maxRecDepth 65536 in
set_option maxHeartbeats 40000000 in
theorem rm4i1 (l : Launch) (Z : State) (a0 : Array Value) (hw : ∀ d ∈ tables_1, d.before a0 Z = true) (ws : List Jvm.Cond) (a : Addr) (xn : Int32) (va : Int64) (vb : Int64) (kb : ClassId) (zz : Int32) (el0 : Int32) (el1 : Int32) (el2 : Int32) (el3 : Int32) (el4 : Int32) (h0 : Heap) (n0 : Nat) (Z0 : n0 ≤ h0.size) (V_a : Arv Z h0 a kb .byte zz [(.int el0), (.int el1), (.int el2), (.int el3), (.int el4)] (.int (0 : Int32))) (p0 : xn.toInt = zz.toInt) (ph : 1 < xn.toInt → el1 = own_xb (own_bt va (8 : Int32)) (own_bt vb (8 : Int32))) :
    CT l mN_4 method_4_code 7 (some .boolean) ws ({ frames := 1, cells := 0, slots := 0, locals := 16 } : Room) #[(.ref a), (.int (1 : Int32)), (.int xn), (.long va), (.long vb)] Z h0 (Q4i1 Z a xn va vb kb zz el0 el1 el2 el3 el4 h0 n0) := by
  refine body_of (plainFor_of_name pn_0) ?_
  intro p e s m below meth c s₁ hx dB hret hlk hml hown0 hnm X0 e0 hZ
  have hown : s.vm.findClass cN_0 = some m.cls := hown0
  have N0 := Fr.nil n0
  rw [ef_4i1]
  show Wk p e below (FN s (Q4i1 Z a xn va vb kb zz el0 el1 el2 el3 el4 h0 n0) 0 0) s₁ (mkF m 0 #[.val (.ref a), .val (.int (1 : Int32)), .val (.int xn), .val (.long va), .second, .val (.long vb), .second] [])
  have r_xn := rng32 xn
  have r_va := rng64 va
  have r_vb := rng64 vb
  refine w_iloadN X0 hx (1 : Int32) (dB d4_0) 1 rfl rfl ?_
  refine w_iloadN X0 hx xn (dB d4_1) 2 rfl rfl ?_
  refine w_icmp_lt X0 hx 1 xn.toInt (by decide) rfl (dB d4_2) 7 5 (fun c103 => ?_) (fun c103 => ?_)
  ·refine w_aloadN X0 hx (.ref a) (dB d4_7) 8 rfl rfl rfl ?_
   refine w_iloadN X0 hx (1 : Int32) (dB d4_8) 9 rfl rfl ?_
   refine w_baload X0 hx hZ e0 V_a ⟨by decide, by have hj : (1 : Int32).toInt = 1 := (by decide); omega⟩ (v := (.int el1)) rfl (dB d4_9) 10 rfl ?_
   refine w_lloadN X0 hx va (dB d4_10) 11 rfl rfl ?_
   refine w_iloadN X0 hx (1 : Int32) (dB d4_11) 12 rfl rfl ?_
   refine w_callS X0 hx hZ hown e0 (rm2i1 l Z a0 hw [] va h0 n0 Z0 ) (tw_6 hw) (tw_7 hw) (tw_3 hw) (tw_8 hw) (by decide) (by rw [hml]; rfl) [(.long va), (.int (1 : Int32))] [(.int el1)] (lenOf pd_0 rfl) rfl rfl (by decide) 1 rfl (by decide) (by decide) (by decide) (dB d4_12) 15 rfl (fun r104 T104 L104 X104 q104 => ?_)
   obtain ⟨z104, rfl, f104, Nq104, eq104⟩ := q104
   have N104 := Fr.app N0 Nq104
   obtain ⟨f104, fl104, fh104⟩ := f104
   dsimp only [Option.toList_some, Option.toList_none, List.cons_append, List.nil_append]
   refine w_lload X104 hx vb (dB d4_15) 17 rfl rfl ?_
   refine w_iloadN X104 hx (1 : Int32) (dB d4_17) 18 rfl rfl ?_
   refine w_callS X104 hx hZ hown eq104 (rm2i1 l Z a0 hw [] vb h0 n0 Z0 ) (tw_6 hw) (tw_7 hw) (tw_3 hw) (tw_8 hw) (by decide) (by rw [hml]; rfl) [(.long vb), (.int (1 : Int32))] [(.int z104), (.int el1)] (lenOf pd_0 rfl) rfl rfl (by decide) 2 rfl (by decide) (by decide) (by decide) (dB d4_18) 21 rfl (fun r105 T105 L105 X105 q105 => ?_)
   obtain ⟨z105, rfl, f105, Nq105, eq105⟩ := q105
   have N105 := Fr.app N104 Nq105
   obtain ⟨f105, fl105, fh105⟩ := f105
   dsimp only [Option.toList_some, Option.toList_none, List.cons_append, List.nil_append]
   obtain ⟨v106, e106⟩ : ∃ z : Int32, z = z104 ^^^ z105 := ⟨_, rfl⟩
   have n106 : -2147483648 ≤ v106.toInt ∧ v106.toInt < 2147483648 := by rw [e106]; exact rng32 _
   refine w_ixor X105 hx (dB d4_21) 22 rfl e106 ?_
   obtain ⟨v107, e107⟩ : ∃ z : Int32, z = v106.toInt8.toInt32 := ⟨_, rfl⟩
   have n107 : (v107.toInt - v106.toInt) % 256 = 0 ∧ -128 ≤ v107.toInt ∧ v107.toInt < 128 := by rw [e107]; exact i2bX rfl
   refine w_i2b X105 hx (dB d4_22) 23 rfl e107 ?_
   refine w_icmp_ne X105 hx el1.toInt v107.toInt rfl rfl (dB d4_23) 30 26 (fun c108 => ?_) (fun c108 => ?_)
   ·exact absurd (congrArg Int32.toInt (by rw [ph (by omega)]; subst_vars; rfl)) c108
   ·refine w_iconst X105 hx (dB d4_26) 27 rfl (1 : Int32) (by decide) ?_
    refine w_goto X105 hx (dB d4_27) 31 ?_
    refine w_retN X105 hx hlk (t := .boolean) hret (by simp) (dB d4_31) (by decide) (by decide) ?_
    rw [eq105]
    exact ⟨(1 : Int32), rfl, by have hz : (1 : Int32).toInt = 1 := (by decide); omega, N105, rfl⟩
  ·refine w_iconst X0 hx (dB d4_5) 6 rfl (1 : Int32) (by decide) ?_
   refine w_retN X0 hx hlk (t := .boolean) hret (by simp) (dB d4_6) (by decide) (by decide) ?_
   rw [e0]
   exact ⟨(1 : Int32), rfl, by have hz : (1 : Int32).toInt = 1 := (by decide); omega, N0, rfl⟩
theorem ef_4i2 (m : MethodId) (x0 : Addr) (x2 : Int32) (x3 : Int64) (x4 : Int64) : entryFrame m #[(.ref x0), (.int (2 : Int32)), (.int x2), (.long x3), (.long x4)] 7 = mkF m 0 #[.val (.ref x0), .val (.int (2 : Int32)), .val (.int x2), .val (.long x3), .second, .val (.long x4), .second] [] := by first | (simp [entryFrame, mkF, argsToLocals, Value.category]; done) | rfl
def Q4i2 (Z : State) (a : Addr) (xn : Int32) (va : Int64) (vb : Int64) (kb : ClassId) (zz : Int32) (el0 : Int32) (el1 : Int32) (el2 : Int32) (el3 : Int32) (el4 : Int32) (h0 : Heap) (n0 : Nat) (v : Option Value) (h : Heap) (L : List Loc) : Prop := ∃ z : Int32, v = some (.int z) ∧ (z.toInt = 1) ∧ Fr n0 L ∧ h = h0
set_option maxRecDepth 65536 in
set_option maxHeartbeats 40000000 in
theorem rm4i2 (l : Launch) (Z : State) (a0 : Array Value) (hw : ∀ d ∈ tables_1, d.before a0 Z = true) (ws : List Jvm.Cond) (a : Addr) (xn : Int32) (va : Int64) (vb : Int64) (kb : ClassId) (zz : Int32) (el0 : Int32) (el1 : Int32) (el2 : Int32) (el3 : Int32) (el4 : Int32) (h0 : Heap) (n0 : Nat) (Z0 : n0 ≤ h0.size) (V_a : Arv Z h0 a kb .byte zz [(.int el0), (.int el1), (.int el2), (.int el3), (.int el4)] (.int (0 : Int32))) (p0 : xn.toInt = zz.toInt) (ph : 2 < xn.toInt → el2 = own_xb (own_bt va (16 : Int32)) (own_bt vb (16 : Int32))) :
    CT l mN_4 method_4_code 7 (some .boolean) ws ({ frames := 1, cells := 0, slots := 0, locals := 16 } : Room) #[(.ref a), (.int (2 : Int32)), (.int xn), (.long va), (.long vb)] Z h0 (Q4i2 Z a xn va vb kb zz el0 el1 el2 el3 el4 h0 n0) := by
  refine body_of (plainFor_of_name pn_0) ?_
  intro p e s m below meth c s₁ hx dB hret hlk hml hown0 hnm X0 e0 hZ
  have hown : s.vm.findClass cN_0 = some m.cls := hown0
  have N0 := Fr.nil n0
  rw [ef_4i2]
  show Wk p e below (FN s (Q4i2 Z a xn va vb kb zz el0 el1 el2 el3 el4 h0 n0) 0 0) s₁ (mkF m 0 #[.val (.ref a), .val (.int (2 : Int32)), .val (.int xn), .val (.long va), .second, .val (.long vb), .second] [])
  have r_xn := rng32 xn
  have r_va := rng64 va
  have r_vb := rng64 vb
  refine w_iloadN X0 hx (2 : Int32) (dB d4_0) 1 rfl rfl ?_
  refine w_iloadN X0 hx xn (dB d4_1) 2 rfl rfl ?_
  refine w_icmp_lt X0 hx 2 xn.toInt (by decide) rfl (dB d4_2) 7 5 (fun c109 => ?_) (fun c109 => ?_)
  ·refine w_aloadN X0 hx (.ref a) (dB d4_7) 8 rfl rfl rfl ?_
   refine w_iloadN X0 hx (2 : Int32) (dB d4_8) 9 rfl rfl ?_
   refine w_baload X0 hx hZ e0 V_a ⟨by decide, by have hj : (2 : Int32).toInt = 2 := (by decide); omega⟩ (v := (.int el2)) rfl (dB d4_9) 10 rfl ?_
   refine w_lloadN X0 hx va (dB d4_10) 11 rfl rfl ?_
   refine w_iloadN X0 hx (2 : Int32) (dB d4_11) 12 rfl rfl ?_
   refine w_callS X0 hx hZ hown e0 (rm2i2 l Z a0 hw [] va h0 n0 Z0 ) (tw_6 hw) (tw_7 hw) (tw_3 hw) (tw_8 hw) (by decide) (by rw [hml]; rfl) [(.long va), (.int (2 : Int32))] [(.int el2)] (lenOf pd_0 rfl) rfl rfl (by decide) 1 rfl (by decide) (by decide) (by decide) (dB d4_12) 15 rfl (fun r110 T110 L110 X110 q110 => ?_)
   obtain ⟨z110, rfl, f110, Nq110, eq110⟩ := q110
   have N110 := Fr.app N0 Nq110
   obtain ⟨f110, fl110, fh110⟩ := f110
   dsimp only [Option.toList_some, Option.toList_none, List.cons_append, List.nil_append]
   refine w_lload X110 hx vb (dB d4_15) 17 rfl rfl ?_
   refine w_iloadN X110 hx (2 : Int32) (dB d4_17) 18 rfl rfl ?_
   refine w_callS X110 hx hZ hown eq110 (rm2i2 l Z a0 hw [] vb h0 n0 Z0 ) (tw_6 hw) (tw_7 hw) (tw_3 hw) (tw_8 hw) (by decide) (by rw [hml]; rfl) [(.long vb), (.int (2 : Int32))] [(.int z110), (.int el2)] (lenOf pd_0 rfl) rfl rfl (by decide) 2 rfl (by decide) (by decide) (by decide) (dB d4_18) 21 rfl (fun r111 T111 L111 X111 q111 => ?_)
   obtain ⟨z111, rfl, f111, Nq111, eq111⟩ := q111
   have N111 := Fr.app N110 Nq111
   obtain ⟨f111, fl111, fh111⟩ := f111
   dsimp only [Option.toList_some, Option.toList_none, List.cons_append, List.nil_append]
   obtain ⟨v112, e112⟩ : ∃ z : Int32, z = z110 ^^^ z111 := ⟨_, rfl⟩
   have n112 : -2147483648 ≤ v112.toInt ∧ v112.toInt < 2147483648 := by rw [e112]; exact rng32 _
   refine w_ixor X111 hx (dB d4_21) 22 rfl e112 ?_
   obtain ⟨v113, e113⟩ : ∃ z : Int32, z = v112.toInt8.toInt32 := ⟨_, rfl⟩
   have n113 : (v113.toInt - v112.toInt) % 256 = 0 ∧ -128 ≤ v113.toInt ∧ v113.toInt < 128 := by rw [e113]; exact i2bX rfl
   refine w_i2b X111 hx (dB d4_22) 23 rfl e113 ?_
   refine w_icmp_ne X111 hx el2.toInt v113.toInt rfl rfl (dB d4_23) 30 26 (fun c114 => ?_) (fun c114 => ?_)
   ·exact absurd (congrArg Int32.toInt (by rw [ph (by omega)]; subst_vars; rfl)) c114
   ·refine w_iconst X111 hx (dB d4_26) 27 rfl (1 : Int32) (by decide) ?_
    refine w_goto X111 hx (dB d4_27) 31 ?_
    refine w_retN X111 hx hlk (t := .boolean) hret (by simp) (dB d4_31) (by decide) (by decide) ?_
    rw [eq111]
    exact ⟨(1 : Int32), rfl, by have hz : (1 : Int32).toInt = 1 := (by decide); omega, N111, rfl⟩
  ·refine w_iconst X0 hx (dB d4_5) 6 rfl (1 : Int32) (by decide) ?_
   refine w_retN X0 hx hlk (t := .boolean) hret (by simp) (dB d4_6) (by decide) (by decide) ?_
   rw [e0]
   exact ⟨(1 : Int32), rfl, by have hz : (1 : Int32).toInt = 1 := (by decide); omega, N0, rfl⟩
theorem ef_4i3 (m : MethodId) (x0 : Addr) (x2 : Int32) (x3 : Int64) (x4 : Int64) : entryFrame m #[(.ref x0), (.int (3 : Int32)), (.int x2), (.long x3), (.long x4)] 7 = mkF m 0 #[.val (.ref x0), .val (.int (3 : Int32)), .val (.int x2), .val (.long x3), .second, .val (.long x4), .second] [] := by first | (simp [entryFrame, mkF, argsToLocals, Value.category]; done) | rfl
def Q4i3 (Z : State) (a : Addr) (xn : Int32) (va : Int64) (vb : Int64) (kb : ClassId) (zz : Int32) (el0 : Int32) (el1 : Int32) (el2 : Int32) (el3 : Int32) (el4 : Int32) (h0 : Heap) (n0 : Nat) (v : Option Value) (h : Heap) (L : List Loc) : Prop := ∃ z : Int32, v = some (.int z) ∧ (z.toInt = 1) ∧ Fr n0 L ∧ h = h0
set_option maxRecDepth 65536 in
set_option maxHeartbeats 40000000 in
theorem rm4i3 (l : Launch) (Z : State) (a0 : Array Value) (hw : ∀ d ∈ tables_1, d.before a0 Z = true) (ws : List Jvm.Cond) (a : Addr) (xn : Int32) (va : Int64) (vb : Int64) (kb : ClassId) (zz : Int32) (el0 : Int32) (el1 : Int32) (el2 : Int32) (el3 : Int32) (el4 : Int32) (h0 : Heap) (n0 : Nat) (Z0 : n0 ≤ h0.size) (V_a : Arv Z h0 a kb .byte zz [(.int el0), (.int el1), (.int el2), (.int el3), (.int el4)] (.int (0 : Int32))) (p0 : xn.toInt = zz.toInt) (ph : 3 < xn.toInt → el3 = own_xb (own_bt va (24 : Int32)) (own_bt vb (24 : Int32))) :
    CT l mN_4 method_4_code 7 (some .boolean) ws ({ frames := 1, cells := 0, slots := 0, locals := 16 } : Room) #[(.ref a), (.int (3 : Int32)), (.int xn), (.long va), (.long vb)] Z h0 (Q4i3 Z a xn va vb kb zz el0 el1 el2 el3 el4 h0 n0) := by
  refine body_of (plainFor_of_name pn_0) ?_
  intro p e s m below meth c s₁ hx dB hret hlk hml hown0 hnm X0 e0 hZ
  have hown : s.vm.findClass cN_0 = some m.cls := hown0
  have N0 := Fr.nil n0
  rw [ef_4i3]
  show Wk p e below (FN s (Q4i3 Z a xn va vb kb zz el0 el1 el2 el3 el4 h0 n0) 0 0) s₁ (mkF m 0 #[.val (.ref a), .val (.int (3 : Int32)), .val (.int xn), .val (.long va), .second, .val (.long vb), .second] [])
  have r_xn := rng32 xn
  have r_va := rng64 va
  have r_vb := rng64 vb
  refine w_iloadN X0 hx (3 : Int32) (dB d4_0) 1 rfl rfl ?_
  refine w_iloadN X0 hx xn (dB d4_1) 2 rfl rfl ?_
  refine w_icmp_lt X0 hx 3 xn.toInt (by decide) rfl (dB d4_2) 7 5 (fun c115 => ?_) (fun c115 => ?_)
  ·refine w_aloadN X0 hx (.ref a) (dB d4_7) 8 rfl rfl rfl ?_
   refine w_iloadN X0 hx (3 : Int32) (dB d4_8) 9 rfl rfl ?_
   refine w_baload X0 hx hZ e0 V_a ⟨by decide, by have hj : (3 : Int32).toInt = 3 := (by decide); omega⟩ (v := (.int el3)) rfl (dB d4_9) 10 rfl ?_
   refine w_lloadN X0 hx va (dB d4_10) 11 rfl rfl ?_
   refine w_iloadN X0 hx (3 : Int32) (dB d4_11) 12 rfl rfl ?_
   refine w_callS X0 hx hZ hown e0 (rm2i3 l Z a0 hw [] va h0 n0 Z0 ) (tw_6 hw) (tw_7 hw) (tw_3 hw) (tw_8 hw) (by decide) (by rw [hml]; rfl) [(.long va), (.int (3 : Int32))] [(.int el3)] (lenOf pd_0 rfl) rfl rfl (by decide) 1 rfl (by decide) (by decide) (by decide) (dB d4_12) 15 rfl (fun r116 T116 L116 X116 q116 => ?_)
   obtain ⟨z116, rfl, f116, Nq116, eq116⟩ := q116
   have N116 := Fr.app N0 Nq116
   obtain ⟨f116, fl116, fh116⟩ := f116
   dsimp only [Option.toList_some, Option.toList_none, List.cons_append, List.nil_append]
   refine w_lload X116 hx vb (dB d4_15) 17 rfl rfl ?_
   refine w_iloadN X116 hx (3 : Int32) (dB d4_17) 18 rfl rfl ?_
   refine w_callS X116 hx hZ hown eq116 (rm2i3 l Z a0 hw [] vb h0 n0 Z0 ) (tw_6 hw) (tw_7 hw) (tw_3 hw) (tw_8 hw) (by decide) (by rw [hml]; rfl) [(.long vb), (.int (3 : Int32))] [(.int z116), (.int el3)] (lenOf pd_0 rfl) rfl rfl (by decide) 2 rfl (by decide) (by decide) (by decide) (dB d4_18) 21 rfl (fun r117 T117 L117 X117 q117 => ?_)
   obtain ⟨z117, rfl, f117, Nq117, eq117⟩ := q117
   have N117 := Fr.app N116 Nq117
   obtain ⟨f117, fl117, fh117⟩ := f117
   dsimp only [Option.toList_some, Option.toList_none, List.cons_append, List.nil_append]
   obtain ⟨v118, e118⟩ : ∃ z : Int32, z = z116 ^^^ z117 := ⟨_, rfl⟩
   have n118 : -2147483648 ≤ v118.toInt ∧ v118.toInt < 2147483648 := by rw [e118]; exact rng32 _
   refine w_ixor X117 hx (dB d4_21) 22 rfl e118 ?_
   obtain ⟨v119, e119⟩ : ∃ z : Int32, z = v118.toInt8.toInt32 := ⟨_, rfl⟩
   have n119 : (v119.toInt - v118.toInt) % 256 = 0 ∧ -128 ≤ v119.toInt ∧ v119.toInt < 128 := by rw [e119]; exact i2bX rfl
   refine w_i2b X117 hx (dB d4_22) 23 rfl e119 ?_
   refine w_icmp_ne X117 hx el3.toInt v119.toInt rfl rfl (dB d4_23) 30 26 (fun c120 => ?_) (fun c120 => ?_)
   ·exact absurd (congrArg Int32.toInt (by rw [ph (by omega)]; subst_vars; rfl)) c120
   ·refine w_iconst X117 hx (dB d4_26) 27 rfl (1 : Int32) (by decide) ?_
    refine w_goto X117 hx (dB d4_27) 31 ?_
    refine w_retN X117 hx hlk (t := .boolean) hret (by simp) (dB d4_31) (by decide) (by decide) ?_
    rw [eq117]
    exact ⟨(1 : Int32), rfl, by have hz : (1 : Int32).toInt = 1 := (by decide); omega, N117, rfl⟩
  ·refine w_iconst X0 hx (dB d4_5) 6 rfl (1 : Int32) (by decide) ?_
   refine w_retN X0 hx hlk (t := .boolean) hret (by simp) (dB d4_6) (by decide) (by decide) ?_
   rw [e0]
   exact ⟨(1 : Int32), rfl, by have hz : (1 : Int32).toInt = 1 := (by decide); omega, N0, rfl⟩
theorem ef_5i0 (m : MethodId) (x0 : Addr) (x2 : Int32) (x3 : Int64) : entryFrame m #[(.ref x0), (.int (0 : Int32)), (.int x2), (.long x3)] 5 = mkF m 0 #[.val (.ref x0), .val (.int (0 : Int32)), .val (.int x2), .val (.long x3), .second] [] := by first | (simp [entryFrame, mkF, argsToLocals, Value.category]; done) | rfl
def Q5i0 (Z : State) (a : Addr) (xn : Int32) (vb : Int64) (kb : ClassId) (zz : Int32) (el0 : Int32) (el1 : Int32) (el2 : Int32) (el3 : Int32) (el4 : Int32) (h0 : Heap) (n0 : Nat) (v : Option Value) (h : Heap) (L : List Loc) : Prop := ∃ z : Int32, v = some (.int z) ∧ (z.toInt = 1) ∧ Fr n0 L ∧ h = h0
set_option maxRecDepth 65536 in
set_option maxHeartbeats 40000000 in
theorem rm5i0 (l : Launch) (Z : State) (a0 : Array Value) (hw : ∀ d ∈ tables_1, d.before a0 Z = true) (ws : List Jvm.Cond) (a : Addr) (xn : Int32) (vb : Int64) (kb : ClassId) (zz : Int32) (el0 : Int32) (el1 : Int32) (el2 : Int32) (el3 : Int32) (el4 : Int32) (h0 : Heap) (n0 : Nat) (Z0 : n0 ≤ h0.size) (V_a : Arv Z h0 a kb .byte zz [(.int el0), (.int el1), (.int el2), (.int el3), (.int el4)] (.int (0 : Int32))) (p0 : xn.toInt = zz.toInt) (ph : 0 < xn.toInt → el0 = own_bt vb (0 : Int32)) :
    CT l mN_5 method_5_code 5 (some .boolean) ws ({ frames := 1, cells := 0, slots := 0, locals := 15 } : Room) #[(.ref a), (.int (0 : Int32)), (.int xn), (.long vb)] Z h0 (Q5i0 Z a xn vb kb zz el0 el1 el2 el3 el4 h0 n0) := by
  refine body_of (plainFor_of_name pn_0) ?_
  intro p e s m below meth c s₁ hx dB hret hlk hml hown0 hnm X0 e0 hZ
  have hown : s.vm.findClass cN_0 = some m.cls := hown0
  have N0 := Fr.nil n0
  rw [ef_5i0]
  show Wk p e below (FN s (Q5i0 Z a xn vb kb zz el0 el1 el2 el3 el4 h0 n0) 0 0) s₁ (mkF m 0 #[.val (.ref a), .val (.int (0 : Int32)), .val (.int xn), .val (.long vb), .second] [])
  have r_xn := rng32 xn
  have r_vb := rng64 vb
  refine w_iloadN X0 hx (0 : Int32) (dB d5_0) 1 rfl rfl ?_
  refine w_iloadN X0 hx xn (dB d5_1) 2 rfl rfl ?_
  refine w_icmp_lt X0 hx 0 xn.toInt (by decide) rfl (dB d5_2) 7 5 (fun c121 => ?_) (fun c121 => ?_)
  ·refine w_aloadN X0 hx (.ref a) (dB d5_7) 8 rfl rfl rfl ?_
   refine w_iloadN X0 hx (0 : Int32) (dB d5_8) 9 rfl rfl ?_
   refine w_baload X0 hx hZ e0 V_a ⟨by decide, by have hj : (0 : Int32).toInt = 0 := (by decide); omega⟩ (v := (.int el0)) rfl (dB d5_9) 10 rfl ?_
   refine w_lloadN X0 hx vb (dB d5_10) 11 rfl rfl ?_
   refine w_iloadN X0 hx (0 : Int32) (dB d5_11) 12 rfl rfl ?_
   refine w_callS X0 hx hZ hown e0 (rm2i0 l Z a0 hw [] vb h0 n0 Z0 ) (tw_6 hw) (tw_7 hw) (tw_3 hw) (tw_8 hw) (by decide) (by rw [hml]; rfl) [(.long vb), (.int (0 : Int32))] [(.int el0)] (lenOf pd_0 rfl) rfl rfl (by decide) 1 rfl (by decide) (by decide) (by decide) (dB d5_12) 15 rfl (fun r122 T122 L122 X122 q122 => ?_)
   obtain ⟨z122, rfl, f122, Nq122, eq122⟩ := q122
   have N122 := Fr.app N0 Nq122
   obtain ⟨f122, fl122, fh122⟩ := f122
   dsimp only [Option.toList_some, Option.toList_none, List.cons_append, List.nil_append]
   refine w_icmp_ne X122 hx el0.toInt z122.toInt rfl rfl (dB d5_15) 22 18 (fun c123 => ?_) (fun c123 => ?_)
   ·exact absurd (congrArg Int32.toInt (by rw [ph (by omega)]; subst_vars; rfl)) c123
   ·refine w_iconst X122 hx (dB d5_18) 19 rfl (1 : Int32) (by decide) ?_
    refine w_goto X122 hx (dB d5_19) 23 ?_
    refine w_retN X122 hx hlk (t := .boolean) hret (by simp) (dB d5_23) (by decide) (by decide) ?_
    rw [eq122]
    exact ⟨(1 : Int32), rfl, by have hz : (1 : Int32).toInt = 1 := (by decide); omega, N122, rfl⟩
  ·refine w_iconst X0 hx (dB d5_5) 6 rfl (1 : Int32) (by decide) ?_
   refine w_retN X0 hx hlk (t := .boolean) hret (by simp) (dB d5_6) (by decide) (by decide) ?_
   rw [e0]
   exact ⟨(1 : Int32), rfl, by have hz : (1 : Int32).toInt = 1 := (by decide); omega, N0, rfl⟩
theorem ef_5i1 (m : MethodId) (x0 : Addr) (x2 : Int32) (x3 : Int64) : entryFrame m #[(.ref x0), (.int (1 : Int32)), (.int x2), (.long x3)] 5 = mkF m 0 #[.val (.ref x0), .val (.int (1 : Int32)), .val (.int x2), .val (.long x3), .second] [] := by first | (simp [entryFrame, mkF, argsToLocals, Value.category]; done) | rfl
def Q5i1 (Z : State) (a : Addr) (xn : Int32) (vb : Int64) (kb : ClassId) (zz : Int32) (el0 : Int32) (el1 : Int32) (el2 : Int32) (el3 : Int32) (el4 : Int32) (h0 : Heap) (n0 : Nat) (v : Option Value) (h : Heap) (L : List Loc) : Prop := ∃ z : Int32, v = some (.int z) ∧ (z.toInt = 1) ∧ Fr n0 L ∧ h = h0
set_option maxRecDepth 65536 in
set_option maxHeartbeats 40000000 in
theorem rm5i1 (l : Launch) (Z : State) (a0 : Array Value) (hw : ∀ d ∈ tables_1, d.before a0 Z = true) (ws : List Jvm.Cond) (a : Addr) (xn : Int32) (vb : Int64) (kb : ClassId) (zz : Int32) (el0 : Int32) (el1 : Int32) (el2 : Int32) (el3 : Int32) (el4 : Int32) (h0 : Heap) (n0 : Nat) (Z0 : n0 ≤ h0.size) (V_a : Arv Z h0 a kb .byte zz [(.int el0), (.int el1), (.int el2), (.int el3), (.int el4)] (.int (0 : Int32))) (p0 : xn.toInt = zz.toInt) (ph : 1 < xn.toInt → el1 = own_bt vb (8 : Int32)) :
    CT l mN_5 method_5_code 5 (some .boolean) ws ({ frames := 1, cells := 0, slots := 0, locals := 15 } : Room) #[(.ref a), (.int (1 : Int32)), (.int xn), (.long vb)] Z h0 (Q5i1 Z a xn vb kb zz el0 el1 el2 el3 el4 h0 n0) := by
  refine body_of (plainFor_of_name pn_0) ?_
  intro p e s m below meth c s₁ hx dB hret hlk hml hown0 hnm X0 e0 hZ
  have hown : s.vm.findClass cN_0 = some m.cls := hown0
  have N0 := Fr.nil n0
  rw [ef_5i1]
  show Wk p e below (FN s (Q5i1 Z a xn vb kb zz el0 el1 el2 el3 el4 h0 n0) 0 0) s₁ (mkF m 0 #[.val (.ref a), .val (.int (1 : Int32)), .val (.int xn), .val (.long vb), .second] [])
  have r_xn := rng32 xn
  have r_vb := rng64 vb
  refine w_iloadN X0 hx (1 : Int32) (dB d5_0) 1 rfl rfl ?_
  refine w_iloadN X0 hx xn (dB d5_1) 2 rfl rfl ?_
  refine w_icmp_lt X0 hx 1 xn.toInt (by decide) rfl (dB d5_2) 7 5 (fun c124 => ?_) (fun c124 => ?_)
  ·refine w_aloadN X0 hx (.ref a) (dB d5_7) 8 rfl rfl rfl ?_
   refine w_iloadN X0 hx (1 : Int32) (dB d5_8) 9 rfl rfl ?_
   refine w_baload X0 hx hZ e0 V_a ⟨by decide, by have hj : (1 : Int32).toInt = 1 := (by decide); omega⟩ (v := (.int el1)) rfl (dB d5_9) 10 rfl ?_
   refine w_lloadN X0 hx vb (dB d5_10) 11 rfl rfl ?_
   refine w_iloadN X0 hx (1 : Int32) (dB d5_11) 12 rfl rfl ?_
   refine w_callS X0 hx hZ hown e0 (rm2i1 l Z a0 hw [] vb h0 n0 Z0 ) (tw_6 hw) (tw_7 hw) (tw_3 hw) (tw_8 hw) (by decide) (by rw [hml]; rfl) [(.long vb), (.int (1 : Int32))] [(.int el1)] (lenOf pd_0 rfl) rfl rfl (by decide) 1 rfl (by decide) (by decide) (by decide) (dB d5_12) 15 rfl (fun r125 T125 L125 X125 q125 => ?_)
   obtain ⟨z125, rfl, f125, Nq125, eq125⟩ := q125
   have N125 := Fr.app N0 Nq125
   obtain ⟨f125, fl125, fh125⟩ := f125
   dsimp only [Option.toList_some, Option.toList_none, List.cons_append, List.nil_append]
   refine w_icmp_ne X125 hx el1.toInt z125.toInt rfl rfl (dB d5_15) 22 18 (fun c126 => ?_) (fun c126 => ?_)
   ·exact absurd (congrArg Int32.toInt (by rw [ph (by omega)]; subst_vars; rfl)) c126
   ·refine w_iconst X125 hx (dB d5_18) 19 rfl (1 : Int32) (by decide) ?_
    refine w_goto X125 hx (dB d5_19) 23 ?_
    refine w_retN X125 hx hlk (t := .boolean) hret (by simp) (dB d5_23) (by decide) (by decide) ?_
    rw [eq125]
    exact ⟨(1 : Int32), rfl, by have hz : (1 : Int32).toInt = 1 := (by decide); omega, N125, rfl⟩
  ·refine w_iconst X0 hx (dB d5_5) 6 rfl (1 : Int32) (by decide) ?_
   refine w_retN X0 hx hlk (t := .boolean) hret (by simp) (dB d5_6) (by decide) (by decide) ?_
   rw [e0]
   exact ⟨(1 : Int32), rfl, by have hz : (1 : Int32).toInt = 1 := (by decide); omega, N0, rfl⟩
theorem ef_5i2 (m : MethodId) (x0 : Addr) (x2 : Int32) (x3 : Int64) : entryFrame m #[(.ref x0), (.int (2 : Int32)), (.int x2), (.long x3)] 5 = mkF m 0 #[.val (.ref x0), .val (.int (2 : Int32)), .val (.int x2), .val (.long x3), .second] [] := by first | (simp [entryFrame, mkF, argsToLocals, Value.category]; done) | rfl
def Q5i2 (Z : State) (a : Addr) (xn : Int32) (vb : Int64) (kb : ClassId) (zz : Int32) (el0 : Int32) (el1 : Int32) (el2 : Int32) (el3 : Int32) (el4 : Int32) (h0 : Heap) (n0 : Nat) (v : Option Value) (h : Heap) (L : List Loc) : Prop := ∃ z : Int32, v = some (.int z) ∧ (z.toInt = 1) ∧ Fr n0 L ∧ h = h0
set_option maxRecDepth 65536 in
set_option maxHeartbeats 40000000 in
theorem rm5i2 (l : Launch) (Z : State) (a0 : Array Value) (hw : ∀ d ∈ tables_1, d.before a0 Z = true) (ws : List Jvm.Cond) (a : Addr) (xn : Int32) (vb : Int64) (kb : ClassId) (zz : Int32) (el0 : Int32) (el1 : Int32) (el2 : Int32) (el3 : Int32) (el4 : Int32) (h0 : Heap) (n0 : Nat) (Z0 : n0 ≤ h0.size) (V_a : Arv Z h0 a kb .byte zz [(.int el0), (.int el1), (.int el2), (.int el3), (.int el4)] (.int (0 : Int32))) (p0 : xn.toInt = zz.toInt) (ph : 2 < xn.toInt → el2 = own_bt vb (16 : Int32)) :
    CT l mN_5 method_5_code 5 (some .boolean) ws ({ frames := 1, cells := 0, slots := 0, locals := 15 } : Room) #[(.ref a), (.int (2 : Int32)), (.int xn), (.long vb)] Z h0 (Q5i2 Z a xn vb kb zz el0 el1 el2 el3 el4 h0 n0) := by
  refine body_of (plainFor_of_name pn_0) ?_
  intro p e s m below meth c s₁ hx dB hret hlk hml hown0 hnm X0 e0 hZ
  have hown : s.vm.findClass cN_0 = some m.cls := hown0
  have N0 := Fr.nil n0
  rw [ef_5i2]
  show Wk p e below (FN s (Q5i2 Z a xn vb kb zz el0 el1 el2 el3 el4 h0 n0) 0 0) s₁ (mkF m 0 #[.val (.ref a), .val (.int (2 : Int32)), .val (.int xn), .val (.long vb), .second] [])
  have r_xn := rng32 xn
  have r_vb := rng64 vb
  refine w_iloadN X0 hx (2 : Int32) (dB d5_0) 1 rfl rfl ?_
  refine w_iloadN X0 hx xn (dB d5_1) 2 rfl rfl ?_
  refine w_icmp_lt X0 hx 2 xn.toInt (by decide) rfl (dB d5_2) 7 5 (fun c127 => ?_) (fun c127 => ?_)
  ·refine w_aloadN X0 hx (.ref a) (dB d5_7) 8 rfl rfl rfl ?_
   refine w_iloadN X0 hx (2 : Int32) (dB d5_8) 9 rfl rfl ?_
   refine w_baload X0 hx hZ e0 V_a ⟨by decide, by have hj : (2 : Int32).toInt = 2 := (by decide); omega⟩ (v := (.int el2)) rfl (dB d5_9) 10 rfl ?_
   refine w_lloadN X0 hx vb (dB d5_10) 11 rfl rfl ?_
   refine w_iloadN X0 hx (2 : Int32) (dB d5_11) 12 rfl rfl ?_
   refine w_callS X0 hx hZ hown e0 (rm2i2 l Z a0 hw [] vb h0 n0 Z0 ) (tw_6 hw) (tw_7 hw) (tw_3 hw) (tw_8 hw) (by decide) (by rw [hml]; rfl) [(.long vb), (.int (2 : Int32))] [(.int el2)] (lenOf pd_0 rfl) rfl rfl (by decide) 1 rfl (by decide) (by decide) (by decide) (dB d5_12) 15 rfl (fun r128 T128 L128 X128 q128 => ?_)
   obtain ⟨z128, rfl, f128, Nq128, eq128⟩ := q128
   have N128 := Fr.app N0 Nq128
   obtain ⟨f128, fl128, fh128⟩ := f128
   dsimp only [Option.toList_some, Option.toList_none, List.cons_append, List.nil_append]
   refine w_icmp_ne X128 hx el2.toInt z128.toInt rfl rfl (dB d5_15) 22 18 (fun c129 => ?_) (fun c129 => ?_)
   ·exact absurd (congrArg Int32.toInt (by rw [ph (by omega)]; subst_vars; rfl)) c129
   ·refine w_iconst X128 hx (dB d5_18) 19 rfl (1 : Int32) (by decide) ?_
    refine w_goto X128 hx (dB d5_19) 23 ?_
    refine w_retN X128 hx hlk (t := .boolean) hret (by simp) (dB d5_23) (by decide) (by decide) ?_
    rw [eq128]
    exact ⟨(1 : Int32), rfl, by have hz : (1 : Int32).toInt = 1 := (by decide); omega, N128, rfl⟩
  ·refine w_iconst X0 hx (dB d5_5) 6 rfl (1 : Int32) (by decide) ?_
   refine w_retN X0 hx hlk (t := .boolean) hret (by simp) (dB d5_6) (by decide) (by decide) ?_
   rw [e0]
   exact ⟨(1 : Int32), rfl, by have hz : (1 : Int32).toInt = 1 := (by decide); omega, N0, rfl⟩
theorem ef_5i3 (m : MethodId) (x0 : Addr) (x2 : Int32) (x3 : Int64) : entryFrame m #[(.ref x0), (.int (3 : Int32)), (.int x2), (.long x3)] 5 = mkF m 0 #[.val (.ref x0), .val (.int (3 : Int32)), .val (.int x2), .val (.long x3), .second] [] := by first | (simp [entryFrame, mkF, argsToLocals, Value.category]; done) | rfl
def Q5i3 (Z : State) (a : Addr) (xn : Int32) (vb : Int64) (kb : ClassId) (zz : Int32) (el0 : Int32) (el1 : Int32) (el2 : Int32) (el3 : Int32) (el4 : Int32) (h0 : Heap) (n0 : Nat) (v : Option Value) (h : Heap) (L : List Loc) : Prop := ∃ z : Int32, v = some (.int z) ∧ (z.toInt = 1) ∧ Fr n0 L ∧ h = h0
set_option maxRecDepth 65536 in
set_option maxHeartbeats 40000000 in
theorem rm5i3 (l : Launch) (Z : State) (a0 : Array Value) (hw : ∀ d ∈ tables_1, d.before a0 Z = true) (ws : List Jvm.Cond) (a : Addr) (xn : Int32) (vb : Int64) (kb : ClassId) (zz : Int32) (el0 : Int32) (el1 : Int32) (el2 : Int32) (el3 : Int32) (el4 : Int32) (h0 : Heap) (n0 : Nat) (Z0 : n0 ≤ h0.size) (V_a : Arv Z h0 a kb .byte zz [(.int el0), (.int el1), (.int el2), (.int el3), (.int el4)] (.int (0 : Int32))) (p0 : xn.toInt = zz.toInt) (ph : 3 < xn.toInt → el3 = own_bt vb (24 : Int32)) :
    CT l mN_5 method_5_code 5 (some .boolean) ws ({ frames := 1, cells := 0, slots := 0, locals := 15 } : Room) #[(.ref a), (.int (3 : Int32)), (.int xn), (.long vb)] Z h0 (Q5i3 Z a xn vb kb zz el0 el1 el2 el3 el4 h0 n0) := by
  refine body_of (plainFor_of_name pn_0) ?_
  intro p e s m below meth c s₁ hx dB hret hlk hml hown0 hnm X0 e0 hZ
  have hown : s.vm.findClass cN_0 = some m.cls := hown0
  have N0 := Fr.nil n0
  rw [ef_5i3]
  show Wk p e below (FN s (Q5i3 Z a xn vb kb zz el0 el1 el2 el3 el4 h0 n0) 0 0) s₁ (mkF m 0 #[.val (.ref a), .val (.int (3 : Int32)), .val (.int xn), .val (.long vb), .second] [])
  have r_xn := rng32 xn
  have r_vb := rng64 vb
  refine w_iloadN X0 hx (3 : Int32) (dB d5_0) 1 rfl rfl ?_
  refine w_iloadN X0 hx xn (dB d5_1) 2 rfl rfl ?_
  refine w_icmp_lt X0 hx 3 xn.toInt (by decide) rfl (dB d5_2) 7 5 (fun c130 => ?_) (fun c130 => ?_)
  ·refine w_aloadN X0 hx (.ref a) (dB d5_7) 8 rfl rfl rfl ?_
   refine w_iloadN X0 hx (3 : Int32) (dB d5_8) 9 rfl rfl ?_
   refine w_baload X0 hx hZ e0 V_a ⟨by decide, by have hj : (3 : Int32).toInt = 3 := (by decide); omega⟩ (v := (.int el3)) rfl (dB d5_9) 10 rfl ?_
   refine w_lloadN X0 hx vb (dB d5_10) 11 rfl rfl ?_
   refine w_iloadN X0 hx (3 : Int32) (dB d5_11) 12 rfl rfl ?_
   refine w_callS X0 hx hZ hown e0 (rm2i3 l Z a0 hw [] vb h0 n0 Z0 ) (tw_6 hw) (tw_7 hw) (tw_3 hw) (tw_8 hw) (by decide) (by rw [hml]; rfl) [(.long vb), (.int (3 : Int32))] [(.int el3)] (lenOf pd_0 rfl) rfl rfl (by decide) 1 rfl (by decide) (by decide) (by decide) (dB d5_12) 15 rfl (fun r131 T131 L131 X131 q131 => ?_)
   obtain ⟨z131, rfl, f131, Nq131, eq131⟩ := q131
   have N131 := Fr.app N0 Nq131
   obtain ⟨f131, fl131, fh131⟩ := f131
   dsimp only [Option.toList_some, Option.toList_none, List.cons_append, List.nil_append]
   refine w_icmp_ne X131 hx el3.toInt z131.toInt rfl rfl (dB d5_15) 22 18 (fun c132 => ?_) (fun c132 => ?_)
   ·exact absurd (congrArg Int32.toInt (by rw [ph (by omega)]; subst_vars; rfl)) c132
   ·refine w_iconst X131 hx (dB d5_18) 19 rfl (1 : Int32) (by decide) ?_
    refine w_goto X131 hx (dB d5_19) 23 ?_
    refine w_retN X131 hx hlk (t := .boolean) hret (by simp) (dB d5_23) (by decide) (by decide) ?_
    rw [eq131]
    exact ⟨(1 : Int32), rfl, by have hz : (1 : Int32).toInt = 1 := (by decide); omega, N131, rfl⟩
  ·refine w_iconst X0 hx (dB d5_5) 6 rfl (1 : Int32) (by decide) ?_
   refine w_retN X0 hx hlk (t := .boolean) hret (by simp) (dB d5_6) (by decide) (by decide) ?_
   rw [e0]
   exact ⟨(1 : Int32), rfl, by have hz : (1 : Int32).toInt = 1 := (by decide); omega, N0, rfl⟩
theorem ef_5i4 (m : MethodId) (x0 : Addr) (x2 : Int32) (x3 : Int64) : entryFrame m #[(.ref x0), (.int (4 : Int32)), (.int x2), (.long x3)] 5 = mkF m 0 #[.val (.ref x0), .val (.int (4 : Int32)), .val (.int x2), .val (.long x3), .second] [] := by first | (simp [entryFrame, mkF, argsToLocals, Value.category]; done) | rfl
def Q5i4 (Z : State) (a : Addr) (xn : Int32) (vb : Int64) (kb : ClassId) (zz : Int32) (el0 : Int32) (el1 : Int32) (el2 : Int32) (el3 : Int32) (el4 : Int32) (h0 : Heap) (n0 : Nat) (v : Option Value) (h : Heap) (L : List Loc) : Prop := ∃ z : Int32, v = some (.int z) ∧ (z.toInt = 1) ∧ Fr n0 L ∧ h = h0
set_option maxRecDepth 65536 in
set_option maxHeartbeats 40000000 in
theorem rm5i4 (l : Launch) (Z : State) (a0 : Array Value) (hw : ∀ d ∈ tables_1, d.before a0 Z = true) (ws : List Jvm.Cond) (a : Addr) (xn : Int32) (vb : Int64) (kb : ClassId) (zz : Int32) (el0 : Int32) (el1 : Int32) (el2 : Int32) (el3 : Int32) (el4 : Int32) (h0 : Heap) (n0 : Nat) (Z0 : n0 ≤ h0.size) (V_a : Arv Z h0 a kb .byte zz [(.int el0), (.int el1), (.int el2), (.int el3), (.int el4)] (.int (0 : Int32))) (p0 : xn.toInt = zz.toInt) (ph : 4 < xn.toInt → el4 = own_bt vb (32 : Int32)) :
    CT l mN_5 method_5_code 5 (some .boolean) ws ({ frames := 1, cells := 0, slots := 0, locals := 15 } : Room) #[(.ref a), (.int (4 : Int32)), (.int xn), (.long vb)] Z h0 (Q5i4 Z a xn vb kb zz el0 el1 el2 el3 el4 h0 n0) := by
  refine body_of (plainFor_of_name pn_0) ?_
  intro p e s m below meth c s₁ hx dB hret hlk hml hown0 hnm X0 e0 hZ
  have hown : s.vm.findClass cN_0 = some m.cls := hown0
  have N0 := Fr.nil n0
  rw [ef_5i4]
  show Wk p e below (FN s (Q5i4 Z a xn vb kb zz el0 el1 el2 el3 el4 h0 n0) 0 0) s₁ (mkF m 0 #[.val (.ref a), .val (.int (4 : Int32)), .val (.int xn), .val (.long vb), .second] [])
  have r_xn := rng32 xn
  have r_vb := rng64 vb
  refine w_iloadN X0 hx (4 : Int32) (dB d5_0) 1 rfl rfl ?_
  refine w_iloadN X0 hx xn (dB d5_1) 2 rfl rfl ?_
  refine w_icmp_lt X0 hx 4 xn.toInt (by decide) rfl (dB d5_2) 7 5 (fun c133 => ?_) (fun c133 => ?_)
  ·refine w_aloadN X0 hx (.ref a) (dB d5_7) 8 rfl rfl rfl ?_
   refine w_iloadN X0 hx (4 : Int32) (dB d5_8) 9 rfl rfl ?_
   refine w_baload X0 hx hZ e0 V_a ⟨by decide, by have hj : (4 : Int32).toInt = 4 := (by decide); omega⟩ (v := (.int el4)) rfl (dB d5_9) 10 rfl ?_
   refine w_lloadN X0 hx vb (dB d5_10) 11 rfl rfl ?_
   refine w_iloadN X0 hx (4 : Int32) (dB d5_11) 12 rfl rfl ?_
   refine w_callS X0 hx hZ hown e0 (rm2i4 l Z a0 hw [] vb h0 n0 Z0 ) (tw_6 hw) (tw_7 hw) (tw_3 hw) (tw_8 hw) (by decide) (by rw [hml]; rfl) [(.long vb), (.int (4 : Int32))] [(.int el4)] (lenOf pd_0 rfl) rfl rfl (by decide) 1 rfl (by decide) (by decide) (by decide) (dB d5_12) 15 rfl (fun r134 T134 L134 X134 q134 => ?_)
   obtain ⟨z134, rfl, f134, Nq134, eq134⟩ := q134
   have N134 := Fr.app N0 Nq134
   obtain ⟨f134, fl134, fh134⟩ := f134
   dsimp only [Option.toList_some, Option.toList_none, List.cons_append, List.nil_append]
   refine w_icmp_ne X134 hx el4.toInt z134.toInt rfl rfl (dB d5_15) 22 18 (fun c135 => ?_) (fun c135 => ?_)
   ·exact absurd (congrArg Int32.toInt (by rw [ph (by omega)]; subst_vars; rfl)) c135
   ·refine w_iconst X134 hx (dB d5_18) 19 rfl (1 : Int32) (by decide) ?_
    refine w_goto X134 hx (dB d5_19) 23 ?_
    refine w_retN X134 hx hlk (t := .boolean) hret (by simp) (dB d5_23) (by decide) (by decide) ?_
    rw [eq134]
    exact ⟨(1 : Int32), rfl, by have hz : (1 : Int32).toInt = 1 := (by decide); omega, N134, rfl⟩
  ·refine w_iconst X0 hx (dB d5_5) 6 rfl (1 : Int32) (by decide) ?_
   refine w_retN X0 hx hlk (t := .boolean) hret (by simp) (dB d5_6) (by decide) (by decide) ?_
   rw [e0]
   exact ⟨(1 : Int32), rfl, by have hz : (1 : Int32).toInt = 1 := (by decide); omega, N0, rfl⟩
theorem ef_0 (m : MethodId) (x0 : Int32) (x1 : Int64) (x2 : Int32) : entryFrame m #[(.int x0), (.long x1), (.int x2)] maxLocals = mkF m 0 #[.val (.int x0), .val (.long x1), .second, .val (.int x2), .unset, .unset, .unset, .unset, .unset, .unset, .unset] [] := by first | (simp [entryFrame, mkF, argsToLocals, Value.category, maxLocals]; done) | rfl
def Q0 (Z : State) (xa : Int32) (b : Int64) (xc : Int32) (h0 : Heap) (n0 : Nat) (v : Option Value) (h : Heap) (L : List Loc) : Prop := v = some (.int 1) ∧ Fr n0 L
set_option maxRecDepth 65536 in
set_option maxHeartbeats 40000000 in
theorem rm0 (l : Launch) (Z : State) (a0 : Array Value) (hw : ∀ d ∈ tables_1, d.before a0 Z = true) (ws : List Jvm.Cond) (xa : Int32) (b : Int64) (xc : Int32) (h0 : Heap) (n0 : Nat) (Z0 : n0 ≤ h0.size) :
    MetFree l x (head1 (Jvm.Cond.code x code maxLocals ret :: ws) room_1) (fun as_ U => as_ = #[(.int xa), (.long b), (.int xc)] ∧ Z.Warmed39 U.vm ∧ U.heap = h0) (fun _ _ _ _ _ => True) (fun _ U o U' => ∃ v L, o = .returned v ∧ Q0 Z xa b xc h0 n0 v U'.heap L ∧ FrameEnd U o U' L 2 10) := by
  refine body_of (plainFor_of_name pn_0) ?_
  intro p e s m below meth c s₁ hx dB hret hlk hml hown0 hnm X0 e0 hZ
  have hown : s.vm.findClass cN_0 = some m.cls := hown0
  have N0 := Fr.nil n0
  rw [ef_0]
  show Wk p e below (FN s (Q0 Z xa b xc h0 n0) 2 10) s₁ (mkF m 0 #[.val (.int xa), .val (.long b), .second, .val (.int xc), .unset, .unset, .unset, .unset, .unset, .unset, .unset] [])
  have r_xa := rng32 xa
  have r_b := rng64 b
  have r_xc := rng32 xc
  refine w_iloadN X0 hx xc (dB at_0) 1 rfl rfl ?_
  refine w_ldc X0 hx hZ hown (tw_0 hw) (dB at_1) 3 rfl ?_
  obtain ⟨v136, e136⟩ : ∃ z : Int32, z = xc &&& (2147483647 : Int32) := ⟨_, rfl⟩
  have n136 : v136.toInt = xc.toInt % 2147483648 := by rw [e136]; exact maskX 31 rfl (by decide) (by decide)
  refine w_iand X0 hx (dB at_3) 4 rfl e136 ?_
  refine w_iconst X0 hx (dB at_4) 5 rfl (5 : Int32) (by decide) ?_
  obtain ⟨v137, e137⟩ : ∃ z : Int32, z = v136 % (5 : Int32) := ⟨_, rfl⟩
  have n137 : v137.toInt = v136.toInt % 5 := by rw [e137]; exact iremX rfl (by decide) (by omega)
  refine w_irem X0 hx (dB at_5) 6 rfl (by decide) e137 ?_
  refine w_istore X0 hx (dB at_6) 8 rfl #[.val (.int xa), .val (.long b), .second, .val (.int xc), .val (.int v137), .unset, .unset, .unset, .unset, .unset, .unset] rfl ?_
  refine w_iloadN X0 hx xc (dB at_8) 9 rfl rfl ?_
  refine w_iconst X0 hx (dB at_9) 10 rfl (3 : Int32) (by decide) ?_
  obtain ⟨v138, e138⟩ : ∃ z : Int32, z = (xc.toUInt32 >>> ((3 : Int32) &&& 31).toUInt32).toInt32 := ⟨_, rfl⟩
  have n138 : v138.toInt = (xc.toInt % 4294967296) / 8 := by rw [e138]; exact iushrX 3 rfl (by decide) (by decide)
  refine w_iushr X0 hx (dB at_10) 11 rfl e138 ?_
  refine w_iconst X0 hx (dB at_11) 12 rfl (1 : Int32) (by decide) ?_
  obtain ⟨v139, e139⟩ : ∃ z : Int32, z = v138 &&& (1 : Int32) := ⟨_, rfl⟩
  have n139 : v139.toInt = v138.toInt % 2 := by rw [e139]; exact maskX 1 rfl (by decide) (by decide)
  refine w_iand X0 hx (dB at_12) 13 rfl e139 ?_
  refine w_istore X0 hx (dB at_13) 15 rfl #[.val (.int xa), .val (.long b), .second, .val (.int xc), .val (.int v137), .val (.int v139), .unset, .unset, .unset, .unset, .unset] rfl ?_
  refine w_iload X0 hx v137 (dB at_15) 17 rfl rfl ?_
  refine w_iload X0 hx v139 (dB at_17) 19 rfl rfl ?_
  obtain ⟨v140, e140⟩ : ∃ z : Int32, z = v137 + v139 := ⟨_, rfl⟩
  have n140 : v140.toInt = v137.toInt + v139.toInt := by rw [e140]; exact addX rfl rfl (by omega) (by omega)
  refine w_iadd X0 hx (dB at_19) 20 rfl e140 ?_
  refine w_istore X0 hx (dB at_20) 22 rfl #[.val (.int xa), .val (.long b), .second, .val (.int xc), .val (.int v137), .val (.int v139), .val (.int v140), .unset, .unset, .unset, .unset] rfl ?_
  refine w_iloadN X0 hx xa (dB at_22) 23 rfl rfl ?_
  obtain ⟨v141, e141⟩ : ∃ z : Int64, z = xa.toInt64 := ⟨_, rfl⟩
  have n141 : v141.toInt = xa.toInt := by rw [e141]; exact i2lX rfl
  refine w_i2l X0 hx (dB at_23) 24 rfl e141 ?_
  refine w_lstore X0 hx (dB at_24) 26 rfl #[.val (.int xa), .val (.long b), .second, .val (.int xc), .val (.int v137), .val (.int v139), .val (.int v140), .val (.long v141), .second, .unset, .unset] rfl ?_
  refine w_iload X0 hx v137 (dB at_26) 28 rfl rfl ?_
  refine w_lload X0 hx v141 (dB at_28) 30 rfl rfl ?_
  refine w_callS X0 hx hZ hown e0 (rm1 l Z a0 hw [] v137 v141 h0 n0 Z0 (by omega) (by omega)) (tw_1 hw) (tw_2 hw) (tw_3 hw) (tw_4 hw) (by decide) (by rw [hml]; rfl) [(.int v137), (.long v141)] [] (lenOf pd_1 rfl) rfl rfl (by decide) 0 rfl (by decide) (by decide) (by decide) (dB at_30) 33 rfl (fun r142 T142 L142 X142 q142 => ?_)
  obtain ⟨bb142, kb142, zz142, el0142, el1142, el2142, el3142, el4142, rfl, fx142, Nq142, Kq142, sq142_0, G142_0⟩ := q142
  have N142 := Fr.app N0 Nq142
  obtain ⟨qz142, q142_0, ql142_0, qh142_0, q142_1, ql142_1, qh142_1, q142_2, ql142_2, qh142_2, q142_3, ql142_3, qh142_3, q142_4, ql142_4, qh142_4⟩ := fx142
  have g_bb142 : n0 ≤ bb142 := Nat.le_trans Z0 sq142_0
  have s_bb142 : h0.size ≤ bb142 := Nat.le_trans (Keep.refl h0 []).1 sq142_0
  have Z142 : n0 ≤ T142.heap.size := Nat.le_trans Z0 Kq142.1
  have K142 : Keep h0 T142.heap [] := (Keep.refl h0 []).trans Kq142 all0
  dsimp only [Option.toList_some, Option.toList_none, List.cons_append, List.nil_append]
  refine w_astore X142 hx (dB at_33) 35 rfl rfl #[.val (.int xa), .val (.long b), .second, .val (.int xc), .val (.int v137), .val (.int v139), .val (.int v140), .val (.long v141), .second, .val (.ref bb142), .unset] rfl ?_
  refine w_iload X142 hx v140 (dB at_35) 37 rfl rfl ?_
  refine w_lloadN X142 hx b (dB at_37) 38 rfl rfl ?_
  refine w_callS X142 hx hZ hown rfl (rm1 l Z a0 hw [] v140 b T142.heap n0 Z142 (by omega) (by omega)) (tw_1 hw) (tw_2 hw) (tw_3 hw) (tw_4 hw) (by decide) (by rw [hml]; rfl) [(.int v140), (.long b)] [] (lenOf pd_1 rfl) rfl rfl (by decide) 0 rfl (by decide) (by decide) (by decide) (dB at_38) 41 rfl (fun r143 T143 L143 X143 q143 => ?_)
  obtain ⟨bb143, kb143, zz143, el0143, el1143, el2143, el3143, el4143, rfl, fx143, Nq143, Kq143, sq143_0, G143_0⟩ := q143
  have N143 := Fr.app N142 Nq143
  obtain ⟨qz143, q143_0, ql143_0, qh143_0, q143_1, ql143_1, qh143_1, q143_2, ql143_2, qh143_2, q143_3, ql143_3, qh143_3, q143_4, ql143_4, qh143_4⟩ := fx143
  have ne_bb142_bb143 : bb142 ≠ bb143 := Nat.ne_of_lt (Nat.lt_of_lt_of_le G142_0.lt sq143_0)
  have g_bb143 : n0 ≤ bb143 := Nat.le_trans Z142 sq143_0
  have s_bb143 : h0.size ≤ bb143 := Nat.le_trans K142.1 sq143_0
  have F144 : Arv Z T143.heap bb142 kb142 .byte zz142 [(.int el0142), (.int el1142), (.int el2142), (.int el3142), (.int el4142)] (.int (0 : Int32)) := G142_0.keep Kq143 nin0
  have Z143 : n0 ≤ T143.heap.size := Nat.le_trans Z142 Kq143.1
  have K143 : Keep h0 T143.heap [] := K142.trans Kq143 all0
  dsimp only [Option.toList_some, Option.toList_none, List.cons_append, List.nil_append]
  refine w_astore X143 hx (dB at_41) 43 rfl rfl #[.val (.int xa), .val (.long b), .second, .val (.int xc), .val (.int v137), .val (.int v139), .val (.int v140), .val (.long v141), .second, .val (.ref bb142), .val (.ref bb143)] rfl ?_
  refine w_aload X143 hx (.ref bb142) (dB at_43) 45 rfl rfl rfl ?_
  refine w_aload X143 hx (.ref bb143) (dB at_45) 47 rfl rfl rfl ?_
  refine w_callS X143 hx hZ hown rfl (rm3 l Z a0 hw [] bb142 bb143 kb142 kb143 zz142 zz143 el0142 el1142 el2142 el3142 el4142 el0143 el1143 el2143 el3143 el4143 T143.heap n0 Z143 F144 G143_0 g_bb142 (by omega) (by omega) (by omega) (by exact (Ne.symm ne_bb142_bb143)) (by omega) (by omega) (by omega) (by omega) (by omega)) (tw_9 hw) (tw_10 hw) (tw_11 hw) (tw_12 hw) (by decide) (by rw [hml]; rfl) [(.ref bb142), (.ref bb143)] [] (lenOf pd_2 rfl) rfl rfl (by decide) 0 rfl (by decide) (by decide) (by decide) (dB at_47) 50 rfl (fun r145 T145 L145 X145 q145 => ?_)
  obtain ⟨x0145, x1145, x2145, x3145, x4145, rfl, fx145, Nq145, Kq145, G145_0⟩ := q145
  have N145 := Fr.app N143 Nq145
  obtain ⟨y145_0, yl145_0, yh145_0, y145_1, yl145_1, yh145_1, y145_2, yl145_2, yh145_2, y145_3, yl145_3, yh145_3, y145_4, yl145_4, yh145_4⟩ := fx145
  have F146 : Arv Z T145.heap bb143 kb143 .byte zz143 [(.int el0143), (.int el1143), (.int el2143), (.int el3143), (.int el4143)] (.int (0 : Int32)) := G143_0.keep Kq145 (ninS (Ne.symm ne_bb142_bb143) nin0)
  have Z145 : n0 ≤ T145.heap.size := Nat.le_trans Z143 Kq145.1
  have K145 : Keep h0 T145.heap [] := K143.trans Kq145 (allS (Or.inr s_bb142) all0)
  dsimp only [Option.toList_some, Option.toList_none, List.cons_append, List.nil_append]
  refine w_aload X145 hx (.ref bb142) (dB at_50) 52 rfl rfl rfl ?_
  refine w_length X145 hx hZ rfl G145_0 (dB at_52) 53 rfl ?_
  refine w_iload X145 hx v137 (dB at_53) 55 rfl rfl ?_
  refine w_icmp_ne X145 hx zz142.toInt v137.toInt rfl rfl (dB at_55) 186 58 (fun c147 => ?_) (fun c147 => ?_)
  ·exfalso; omega
  ·refine w_aload X145 hx (.ref bb143) (dB at_58) 60 rfl rfl rfl ?_
   refine w_length X145 hx hZ rfl F146 (dB at_60) 61 rfl ?_
   refine w_iload X145 hx v140 (dB at_61) 63 rfl rfl ?_
   refine w_icmp_ne X145 hx zz143.toInt v140.toInt rfl rfl (dB at_63) 186 66 (fun c148 => ?_) (fun c148 => ?_)
   ·exfalso; omega
   ·refine w_aload X145 hx (.ref bb142) (dB at_66) 68 rfl rfl rfl ?_
    refine w_iconst X145 hx (dB at_68) 69 rfl (0 : Int32) (by decide) ?_
    refine w_iload X145 hx v137 (dB at_69) 71 rfl rfl ?_
    refine w_lload X145 hx v141 (dB at_71) 73 rfl rfl ?_
    refine w_lloadN X145 hx b (dB at_73) 74 rfl rfl ?_
    refine w_callS X145 hx hZ hown rfl (rm4i0 l Z a0 hw [] bb142 v137 v141 b kb142 zz142 x0145 x1145 x2145 x3145 x4145 T145.heap n0 Z145 G145_0 (by have hl_0 : (0 : Int32).toInt = 0 := (by decide); omega) (by intro h; rcases y145_0 with ⟨-, q⟩ | ⟨q, -⟩ <;> first | rw [q, q142_0 (by omega), q143_0 (by omega)] | omega)) (tw_13 hw) (tw_14 hw) (tw_3 hw) (tw_15 hw) (by decide) (by rw [hml]; rfl) [(.ref bb142), (.int (0 : Int32)), (.int v137), (.long v141), (.long b)] [] (lenOf pd_3 rfl) rfl rfl (by decide) 0 rfl (by decide) (by decide) (by decide) (dB at_74) 77 rfl (fun r149 T149 L149 X149 q149 => ?_)
    obtain ⟨z149, rfl, f149, Nq149, eq149⟩ := q149
    have N149 := Fr.app N145 Nq149
    dsimp only [Option.toList_some, Option.toList_none, List.cons_append, List.nil_append]
    refine w_if_eq X149 hx z149.toInt rfl (dB at_77) 186 80 (fun c150 => ?_) (fun c150 => ?_)
    ·exfalso; omega
    ·refine w_aload X149 hx (.ref bb142) (dB at_80) 82 rfl rfl rfl ?_
     refine w_iconst X149 hx (dB at_82) 83 rfl (1 : Int32) (by decide) ?_
     refine w_iload X149 hx v137 (dB at_83) 85 rfl rfl ?_
     refine w_lload X149 hx v141 (dB at_85) 87 rfl rfl ?_
     refine w_lloadN X149 hx b (dB at_87) 88 rfl rfl ?_
     refine w_callS X149 hx hZ hown eq149 (rm4i1 l Z a0 hw [] bb142 v137 v141 b kb142 zz142 x0145 x1145 x2145 x3145 x4145 T145.heap n0 Z145 G145_0 (by have hl_0 : (1 : Int32).toInt = 1 := (by decide); omega) (by intro h; rcases y145_1 with ⟨-, q⟩ | ⟨q, -⟩ <;> first | rw [q, q142_1 (by omega), q143_1 (by omega)] | omega)) (tw_13 hw) (tw_14 hw) (tw_3 hw) (tw_15 hw) (by decide) (by rw [hml]; rfl) [(.ref bb142), (.int (1 : Int32)), (.int v137), (.long v141), (.long b)] [] (lenOf pd_3 rfl) rfl rfl (by decide) 0 rfl (by decide) (by decide) (by decide) (dB at_88) 91 rfl (fun r151 T151 L151 X151 q151 => ?_)
     obtain ⟨z151, rfl, f151, Nq151, eq151⟩ := q151
     have N151 := Fr.app N149 Nq151
     dsimp only [Option.toList_some, Option.toList_none, List.cons_append, List.nil_append]
     refine w_if_eq X151 hx z151.toInt rfl (dB at_91) 186 94 (fun c152 => ?_) (fun c152 => ?_)
     ·exfalso; omega
     ·refine w_aload X151 hx (.ref bb142) (dB at_94) 96 rfl rfl rfl ?_
      refine w_iconst X151 hx (dB at_96) 97 rfl (2 : Int32) (by decide) ?_
      refine w_iload X151 hx v137 (dB at_97) 99 rfl rfl ?_
      refine w_lload X151 hx v141 (dB at_99) 101 rfl rfl ?_
      refine w_lloadN X151 hx b (dB at_101) 102 rfl rfl ?_
      refine w_callS X151 hx hZ hown eq151 (rm4i2 l Z a0 hw [] bb142 v137 v141 b kb142 zz142 x0145 x1145 x2145 x3145 x4145 T145.heap n0 Z145 G145_0 (by have hl_0 : (2 : Int32).toInt = 2 := (by decide); omega) (by intro h; rcases y145_2 with ⟨-, q⟩ | ⟨q, -⟩ <;> first | rw [q, q142_2 (by omega), q143_2 (by omega)] | omega)) (tw_13 hw) (tw_14 hw) (tw_3 hw) (tw_15 hw) (by decide) (by rw [hml]; rfl) [(.ref bb142), (.int (2 : Int32)), (.int v137), (.long v141), (.long b)] [] (lenOf pd_3 rfl) rfl rfl (by decide) 0 rfl (by decide) (by decide) (by decide) (dB at_102) 105 rfl (fun r153 T153 L153 X153 q153 => ?_)
      obtain ⟨z153, rfl, f153, Nq153, eq153⟩ := q153
      have N153 := Fr.app N151 Nq153
      dsimp only [Option.toList_some, Option.toList_none, List.cons_append, List.nil_append]
      refine w_if_eq X153 hx z153.toInt rfl (dB at_105) 186 108 (fun c154 => ?_) (fun c154 => ?_)
      ·exfalso; omega
      ·refine w_aload X153 hx (.ref bb142) (dB at_108) 110 rfl rfl rfl ?_
       refine w_iconst X153 hx (dB at_110) 111 rfl (3 : Int32) (by decide) ?_
       refine w_iload X153 hx v137 (dB at_111) 113 rfl rfl ?_
       refine w_lload X153 hx v141 (dB at_113) 115 rfl rfl ?_
       refine w_lloadN X153 hx b (dB at_115) 116 rfl rfl ?_
       refine w_callS X153 hx hZ hown eq153 (rm4i3 l Z a0 hw [] bb142 v137 v141 b kb142 zz142 x0145 x1145 x2145 x3145 x4145 T145.heap n0 Z145 G145_0 (by have hl_0 : (3 : Int32).toInt = 3 := (by decide); omega) (by intro h; rcases y145_3 with ⟨-, q⟩ | ⟨q, -⟩ <;> first | rw [q, q142_3 (by omega), q143_3 (by omega)] | omega)) (tw_13 hw) (tw_14 hw) (tw_3 hw) (tw_15 hw) (by decide) (by rw [hml]; rfl) [(.ref bb142), (.int (3 : Int32)), (.int v137), (.long v141), (.long b)] [] (lenOf pd_3 rfl) rfl rfl (by decide) 0 rfl (by decide) (by decide) (by decide) (dB at_116) 119 rfl (fun r155 T155 L155 X155 q155 => ?_)
       obtain ⟨z155, rfl, f155, Nq155, eq155⟩ := q155
       have N155 := Fr.app N153 Nq155
       dsimp only [Option.toList_some, Option.toList_none, List.cons_append, List.nil_append]
       refine w_if_eq X155 hx z155.toInt rfl (dB at_119) 186 122 (fun c156 => ?_) (fun c156 => ?_)
       ·exfalso; omega
       ·refine w_aload X155 hx (.ref bb143) (dB at_122) 124 rfl rfl rfl ?_
        refine w_iconst X155 hx (dB at_124) 125 rfl (0 : Int32) (by decide) ?_
        refine w_iload X155 hx v140 (dB at_125) 127 rfl rfl ?_
        refine w_lloadN X155 hx b (dB at_127) 128 rfl rfl ?_
        refine w_callS X155 hx hZ hown eq155 (rm5i0 l Z a0 hw [] bb143 v140 b kb143 zz143 el0143 el1143 el2143 el3143 el4143 T145.heap n0 Z145 F146 (by have hl_0 : (0 : Int32).toInt = 0 := (by decide); omega) (by intro h; exact q143_0 (by omega))) (tw_16 hw) (tw_17 hw) (tw_3 hw) (tw_18 hw) (by decide) (by rw [hml]; rfl) [(.ref bb143), (.int (0 : Int32)), (.int v140), (.long b)] [] (lenOf pd_4 rfl) rfl rfl (by decide) 0 rfl (by decide) (by decide) (by decide) (dB at_128) 131 rfl (fun r157 T157 L157 X157 q157 => ?_)
        obtain ⟨z157, rfl, f157, Nq157, eq157⟩ := q157
        have N157 := Fr.app N155 Nq157
        dsimp only [Option.toList_some, Option.toList_none, List.cons_append, List.nil_append]
        refine w_if_eq X157 hx z157.toInt rfl (dB at_131) 186 134 (fun c158 => ?_) (fun c158 => ?_)
        ·exfalso; omega
        ·refine w_aload X157 hx (.ref bb143) (dB at_134) 136 rfl rfl rfl ?_
         refine w_iconst X157 hx (dB at_136) 137 rfl (1 : Int32) (by decide) ?_
         refine w_iload X157 hx v140 (dB at_137) 139 rfl rfl ?_
         refine w_lloadN X157 hx b (dB at_139) 140 rfl rfl ?_
         refine w_callS X157 hx hZ hown eq157 (rm5i1 l Z a0 hw [] bb143 v140 b kb143 zz143 el0143 el1143 el2143 el3143 el4143 T145.heap n0 Z145 F146 (by have hl_0 : (1 : Int32).toInt = 1 := (by decide); omega) (by intro h; exact q143_1 (by omega))) (tw_16 hw) (tw_17 hw) (tw_3 hw) (tw_18 hw) (by decide) (by rw [hml]; rfl) [(.ref bb143), (.int (1 : Int32)), (.int v140), (.long b)] [] (lenOf pd_4 rfl) rfl rfl (by decide) 0 rfl (by decide) (by decide) (by decide) (dB at_140) 143 rfl (fun r159 T159 L159 X159 q159 => ?_)
         obtain ⟨z159, rfl, f159, Nq159, eq159⟩ := q159
         have N159 := Fr.app N157 Nq159
         dsimp only [Option.toList_some, Option.toList_none, List.cons_append, List.nil_append]
         refine w_if_eq X159 hx z159.toInt rfl (dB at_143) 186 146 (fun c160 => ?_) (fun c160 => ?_)
         ·exfalso; omega
         ·refine w_aload X159 hx (.ref bb143) (dB at_146) 148 rfl rfl rfl ?_
          refine w_iconst X159 hx (dB at_148) 149 rfl (2 : Int32) (by decide) ?_
          refine w_iload X159 hx v140 (dB at_149) 151 rfl rfl ?_
          refine w_lloadN X159 hx b (dB at_151) 152 rfl rfl ?_
          refine w_callS X159 hx hZ hown eq159 (rm5i2 l Z a0 hw [] bb143 v140 b kb143 zz143 el0143 el1143 el2143 el3143 el4143 T145.heap n0 Z145 F146 (by have hl_0 : (2 : Int32).toInt = 2 := (by decide); omega) (by intro h; exact q143_2 (by omega))) (tw_16 hw) (tw_17 hw) (tw_3 hw) (tw_18 hw) (by decide) (by rw [hml]; rfl) [(.ref bb143), (.int (2 : Int32)), (.int v140), (.long b)] [] (lenOf pd_4 rfl) rfl rfl (by decide) 0 rfl (by decide) (by decide) (by decide) (dB at_152) 155 rfl (fun r161 T161 L161 X161 q161 => ?_)
          obtain ⟨z161, rfl, f161, Nq161, eq161⟩ := q161
          have N161 := Fr.app N159 Nq161
          dsimp only [Option.toList_some, Option.toList_none, List.cons_append, List.nil_append]
          refine w_if_eq X161 hx z161.toInt rfl (dB at_155) 186 158 (fun c162 => ?_) (fun c162 => ?_)
          ·exfalso; omega
          ·refine w_aload X161 hx (.ref bb143) (dB at_158) 160 rfl rfl rfl ?_
           refine w_iconst X161 hx (dB at_160) 161 rfl (3 : Int32) (by decide) ?_
           refine w_iload X161 hx v140 (dB at_161) 163 rfl rfl ?_
           refine w_lloadN X161 hx b (dB at_163) 164 rfl rfl ?_
           refine w_callS X161 hx hZ hown eq161 (rm5i3 l Z a0 hw [] bb143 v140 b kb143 zz143 el0143 el1143 el2143 el3143 el4143 T145.heap n0 Z145 F146 (by have hl_0 : (3 : Int32).toInt = 3 := (by decide); omega) (by intro h; exact q143_3 (by omega))) (tw_16 hw) (tw_17 hw) (tw_3 hw) (tw_18 hw) (by decide) (by rw [hml]; rfl) [(.ref bb143), (.int (3 : Int32)), (.int v140), (.long b)] [] (lenOf pd_4 rfl) rfl rfl (by decide) 0 rfl (by decide) (by decide) (by decide) (dB at_164) 167 rfl (fun r163 T163 L163 X163 q163 => ?_)
           obtain ⟨z163, rfl, f163, Nq163, eq163⟩ := q163
           have N163 := Fr.app N161 Nq163
           dsimp only [Option.toList_some, Option.toList_none, List.cons_append, List.nil_append]
           refine w_if_eq X163 hx z163.toInt rfl (dB at_167) 186 170 (fun c164 => ?_) (fun c164 => ?_)
           ·exfalso; omega
           ·refine w_aload X163 hx (.ref bb143) (dB at_170) 172 rfl rfl rfl ?_
            refine w_iconst X163 hx (dB at_172) 173 rfl (4 : Int32) (by decide) ?_
            refine w_iload X163 hx v140 (dB at_173) 175 rfl rfl ?_
            refine w_lloadN X163 hx b (dB at_175) 176 rfl rfl ?_
            refine w_callS X163 hx hZ hown eq163 (rm5i4 l Z a0 hw [] bb143 v140 b kb143 zz143 el0143 el1143 el2143 el3143 el4143 T145.heap n0 Z145 F146 (by have hl_0 : (4 : Int32).toInt = 4 := (by decide); omega) (by intro h; exact q143_4 (by omega))) (tw_16 hw) (tw_17 hw) (tw_3 hw) (tw_18 hw) (by decide) (by rw [hml]; rfl) [(.ref bb143), (.int (4 : Int32)), (.int v140), (.long b)] [] (lenOf pd_4 rfl) rfl rfl (by decide) 0 rfl (by decide) (by decide) (by decide) (dB at_176) 179 rfl (fun r165 T165 L165 X165 q165 => ?_)
            obtain ⟨z165, rfl, f165, Nq165, eq165⟩ := q165
            have N165 := Fr.app N163 Nq165
            dsimp only [Option.toList_some, Option.toList_none, List.cons_append, List.nil_append]
            refine w_if_eq X165 hx z165.toInt rfl (dB at_179) 186 182 (fun c166 => ?_) (fun c166 => ?_)
            ·exfalso; omega
            ·refine w_iconst X165 hx (dB at_182) 183 rfl (1 : Int32) (by decide) ?_
             refine w_goto X165 hx (dB at_183) 187 ?_
             refine w_retN X165 hx hlk (t := .boolean) hret (by simp) (dB at_187) (by decide) (by decide) ?_
             rw [eq165]
             exact ⟨rfl, N165⟩
set_option maxRecDepth 65536 in
set_option maxHeartbeats 40000000 in
theorem comes_1 {Post : Tables → Env → Array Value → State → Outcome → State → Prop} (hpost : ∀ tb e args s v u, (limb_1_1.after args s (.returned v) u = true ∧ limb_1_2.after args s (.returned v) u = true ∧ True) → FrameEnd s (.returned v) u (Jvm.fieldLocs frame_1_writes args s ++ Jvm.arrayLocs frame_1_arrays args s ++ Jvm.staticLocs frame_1_statics s) 16 128 → Post tb e args s (.returned v) u) :
    ArmFor flags0 classFile x code maxLocals ret World_1 tables_1 room_1 Calls_1 rest_1 Pre_1 Post := by
  intro l hfl _ _ p e ha hc hk s m args below hf hA hF happ hP
  obtain ⟨hcalls, hrest, hpre⟩ := hP
  obtain ⟨-, -, -, hnamed, -, -, -, hat⟩ := (Spec.applies_iff hf).mp happ
  obtain ⟨hg, hn⟩ := and_e (Cond.before_iff.mp (show (Jvm.Cond.and given_1 narrow_1).before args s = true from hpre))
  obtain ⟨gg1, gg2⟩ := and_e hg
  obtain ⟨gg3, gg4⟩ := and_e gg2
  obtain ⟨gg5, gg6⟩ := and_e gg4
  obtain ⟨w0, w1, w2, rfl⟩ : ∃ w0 w1 w2 : Value, args = #[w0, w1, w2] := by
    have hs : args.size = 3 := by simpa [Cond.value, given_1] using gg1
    obtain ⟨L⟩ := args
    match L, hs with
    | [w0, w1, w2], _ => exact ⟨w0, w1, w2, rfl⟩
  have hw := fun d (hd : d ∈ tables_1) => atoms_spec (ws := Jvm.Cond.code x code maxLocals ret :: tables_1) hat d (List.mem_cons_of_mem _ hd)
  have hfit : Fit s := fun {y c} hc i hi => by
    obtain ⟨ha, rfl⟩ := Array.getElem?_eq_some_iff.mp hc
    have q := List.all_eq_true.mp ((Array.all_eq_true_iff_forall_mem.mp hF) _ (Array.getElem_mem ha)) i (List.mem_range.mpr hi)
    simpa [Array.getElem?_eq_getElem hi] using q
  obtain ⟨i0, ei0⟩ := is_v gg3
  obtain rfl : w0 = (.int i0) := Option.some.inj ei0
  obtain ⟨i1, ei1⟩ := isL_v gg5
  obtain rfl : w1 = (.long i1) := Option.some.inj ei1
  obtain ⟨i2, ei2⟩ := is_v gg6
  obtain rfl : w2 = (.int i2) := Option.some.inj ei2
  obtain ⟨n, o, h1, h2, h3, _, L, rfl, ⟨rfl, N⟩, hq⟩ := rm0 l s _ hw tables_1 i0 i1 i2 s.heap s.heap.size (Nat.le_refl _) p e ha hc hk s m _ below hf ((Spec.applies_iff_loose hf).mp happ).1 ⟨rfl, State.Warmed39.refl s, rfl⟩ trivial
  refine ⟨n, _, h1, h2, h3, hpost _ _ _ _ _ _ ⟨Cond.after_iff.mpr rfl, Cond.after_iff.mpr (eq_i res_at (Term.int_eval (1)) rfl), trivial⟩ ⟨hq.1, hq.2.1, (hq.2.2.sift fun y hy => Or.inr (N y hy)).mono (by decide) (by decide)⟩⟩
theorem main_1_1 : Claimed_1_1 := comes_1 fun _ _ _ _ _ _ h hF => ⟨h.1, hF⟩
theorem main_1_2 : Claimed_1_2 := comes_1 fun _ _ _ _ _ _ h hF => ⟨h.2.1, hF⟩
end Jvm.Pilot.@@N@@
namespace Jvm.Pilot.@@N@@
open Jvm Jvm.ClassFile Sem Op Lib Jvm.Free Jvm.Stand Jvm.Pilot.@@N@@.Jvm.D
/-! MADE BY PROGRAM (witnessworld.py) out of the Statement's table words and the real class files: 9 classes; the members and pool entries that the words name. The judged class is class 1, her method 5. -/
namespace start1
open Jvm.ClassFile
def u (s : String) : CpInfo := .utf8 (stringToUtf16 s)
/-- a pool by its gaps: so many unusable entries, then the entry; so many at the end -/
def gap : Nat → List CpInfo → List CpInfo
  | 0, r => r
  | n + 1, r => .unusable :: gap n r
def poolList (es : List (Nat × CpInfo)) (last : Nat) : List CpInfo := es.foldr (fun e r => gap e.1 (e.2 :: r)) (gap last [])
def pool (es : List (Nat × CpInfo)) (last : Nat) : Array CpInfo := ⟨poolList es last⟩
def fileOf (pool : Array CpInfo) (this : Nat) (attrs : Array Attribute := #[]) (ms : Array MethodInfo := #[]) (fl : Nat := 33) (sup : Nat := 0) (ifs : Array Nat := #[]) (fds : Array FieldInfo := #[]) : ClassFile where
  minorVersion := 0
  majorVersion := 65
  constantPool := pool
  accessFlags := fl
  thisClass := this
  superClass := sup
  interfaces := ifs
  fields := fds
  methods := ms
  attributes := attrs
def plain (name : String) (sup : Option ClassId) : Class where
  name := name
  kind := .ordinary
  loader := none
  accessFlags := 33
  super := sup
  interfaces := #[]
  cf := none
  fields := #[]
  methods := #[]
  instanceTypes := #[]
  staticTypes := #[]
  resolved := #[]
  callSites := []
  init := .initialized
  statics := none
  mirror := none

def pool0 : Array CpInfo := pool [(5, u "<init>"), (0, u "()V"), (1, .class_ 10), (1, u "java/lang/Object")] 113

def k0m0 : Method := { name := "<init>", desc := "()V", sig := { parameters := [], returnType := none }, accessFlags := 1, code := none }
/-- java/lang/Object -/
def k0 : Class := { plain "java/lang/Object" none with
  accessFlags := 33
  interfaces := #[]
  cf := some (fileOf pool0 8 #[] #[{ accessFlags := 1, nameIndex := 5, descriptorIndex := 6, attributes := #[] }] 33 0 #[] #[])
  fields := #[]
  methods := #[k0m0]
  instanceTypes := #[]
  staticTypes := #[]
  resolved := Array.replicate 124 none
  statics := none }

def pool1 : Array CpInfo := pool [(2, .class_ 4), (1, u "java/lang/Object"), (0, u "<init>"), (0, u "()V"), (0, .methodref 8 9), (0, .class_ 10), (0, .nameAndType 11 12), (0, u "com/example/nodecard/nodecard/aka/MilenageXorIntoPinLaw"), (0, u "bt"), (0, u "(JI)B"), (0, .integer 2147483647), (0, .methodref 8 15), (0, .nameAndType 16 17), (0, u "make"), (0, u "(IJ)[B"), (0, .methodref 19 20), (0, .class_ 21), (0, .nameAndType 22 23), (0, u "com/example/nodecard/nodecard/aka/Milenage"), (0, u "xorInto"), (0, u "([B[B)V"), (0, .methodref 8 25), (0, .nameAndType 26 27), (0, u "tOk"), (0, u "([BIIJJ)Z"), (0, .methodref 8 29), (0, .nameAndType 30 31), (0, u "mOk"), (0, u "([BIIJ)Z"), (3, u "law"), (0, u "(IJI)Z")] 4

def k1m0 : Method := { name := "<init>", desc := "()V", sig := { parameters := [], returnType := none }, accessFlags := 1, code := none }
def k1c1 : Code := { maxStack := 4, maxLocals := 3, code := method_2_code, exceptionTable := #[], attributes := #[] }
def k1m1 : Method := { name := "bt", desc := "(JI)B", sig := { parameters := [.long, .int], returnType := some .byte }, accessFlags := 10, code := some k1c1 }
def k1c2 : Code := { maxStack := 6, maxLocals := 3, code := method_3_code, exceptionTable := #[], attributes := #[] }
def k1m2 : Method := { name := "make", desc := "(IJ)[B", sig := { parameters := [.int, .long], returnType := some (.array .byte) }, accessFlags := 10, code := some k1c2 }
def k1c3 : Code := { maxStack := 5, maxLocals := 7, code := method_4_code, exceptionTable := #[], attributes := #[] }
def k1m3 : Method := { name := "tOk", desc := "([BIIJJ)Z", sig := { parameters := [(.array .byte), .int, .int, .long, .long], returnType := some .boolean }, accessFlags := 10, code := some k1c3 }
def k1c4 : Code := { maxStack := 4, maxLocals := 5, code := method_5_code, exceptionTable := #[], attributes := #[] }
def k1m4 : Method := { name := "mOk", desc := "([BIIJ)Z", sig := { parameters := [(.array .byte), .int, .int, .long], returnType := some .boolean }, accessFlags := 10, code := some k1c4 }
def k1c5 : Code := { maxStack := 7, maxLocals := 11, code := code, exceptionTable := #[], attributes := #[] }
def k1m5 : Method := { name := "law", desc := "(IJI)Z", sig := { parameters := [.int, .long, .int], returnType := some .boolean }, accessFlags := 9, code := some k1c5 }
/-- com/example/nodecard/nodecard/aka/MilenageXorIntoPinLaw -/
def k1 : Class := { plain "com/example/nodecard/nodecard/aka/MilenageXorIntoPinLaw" (some 0) with
  accessFlags := 49
  interfaces := #[]
  cf := some (fileOf pool1 8 #[] #[{ accessFlags := 1, nameIndex := 5, descriptorIndex := 6, attributes := #[] }, { accessFlags := 10, nameIndex := 11, descriptorIndex := 12, attributes := #[] }, { accessFlags := 10, nameIndex := 16, descriptorIndex := 17, attributes := #[] }, { accessFlags := 10, nameIndex := 26, descriptorIndex := 27, attributes := #[] }, { accessFlags := 10, nameIndex := 30, descriptorIndex := 31, attributes := #[] }, { accessFlags := 9, nameIndex := 35, descriptorIndex := 36, attributes := #[] }] 49 2 #[] #[])
  fields := #[]
  methods := #[k1m0, k1m1, k1m2, k1m3, k1m4, k1m5]
  instanceTypes := #[]
  staticTypes := #[]
  resolved := Array.replicate 41 none
  statics := none }

def pool2 : Array CpInfo := pool [(2, .class_ 4), (1, u "java/lang/Object"), (4, .class_ 10), (0, u "com/example/nodecard/nodecard/aka/Milenage"), (9, u "[B"), (4, u "opc"), (10, u "aes"), (0, u "Ljavax/crypto/Cipher;"), (53, u "ROTATIONS"), (0, u "[I"), (9, u "xorInto"), (0, u "([B[B)V"), (5, u "CONSTANTS"), (20, u "BLOCK_LENGTH"), (0, u "I"), (2, u "SQN_LENGTH"), (1, u "AMF_LENGTH"), (1, u "MAC_LENGTH"), (1, u "RES_LENGTH")] 28

def k2c0 : Code := { maxStack := 5, maxLocals := 3, code := prog_6_method_16_code, exceptionTable := #[], attributes := #[] }
def k2m0 : Method := { name := "xorInto", desc := "([B[B)V", sig := { parameters := [(.array .byte), (.array .byte)], returnType := none }, accessFlags := 8, code := some k2c0 }
/-- com/example/nodecard/nodecard/aka/Milenage -/
def k2 : Class := { plain "com/example/nodecard/nodecard/aka/Milenage" (some 0) with
  accessFlags := 49
  interfaces := #[]
  cf := some (fileOf pool2 9 #[] #[{ accessFlags := 8, nameIndex := 102, descriptorIndex := 103, attributes := #[] }] 49 2 #[] #[{ accessFlags := 25, nameIndex := 130, descriptorIndex := 131, attributes := #[] }, { accessFlags := 25, nameIndex := 134, descriptorIndex := 131, attributes := #[] }, { accessFlags := 25, nameIndex := 136, descriptorIndex := 131, attributes := #[] }, { accessFlags := 25, nameIndex := 138, descriptorIndex := 131, attributes := #[] }, { accessFlags := 25, nameIndex := 140, descriptorIndex := 131, attributes := #[] }, { accessFlags := 26, nameIndex := 91, descriptorIndex := 92, attributes := #[] }, { accessFlags := 26, nameIndex := 109, descriptorIndex := 92, attributes := #[] }, { accessFlags := 18, nameIndex := 36, descriptorIndex := 37, attributes := #[] }, { accessFlags := 18, nameIndex := 25, descriptorIndex := 20, attributes := #[] }])
  fields := #[{ name := "BLOCK_LENGTH", type := .int, accessFlags := 25, slot := 0, constantValue := 0 }, { name := "SQN_LENGTH", type := .int, accessFlags := 25, slot := 1, constantValue := 0 }, { name := "AMF_LENGTH", type := .int, accessFlags := 25, slot := 2, constantValue := 0 }, { name := "MAC_LENGTH", type := .int, accessFlags := 25, slot := 3, constantValue := 0 }, { name := "RES_LENGTH", type := .int, accessFlags := 25, slot := 4, constantValue := 0 }, { name := "ROTATIONS", type := (.array .int), accessFlags := 26, slot := 5, constantValue := 0 }, { name := "CONSTANTS", type := (.array .int), accessFlags := 26, slot := 6, constantValue := 0 }, { name := "aes", type := (.object "javax/crypto/Cipher"), accessFlags := 18, slot := 0, constantValue := 0 }, { name := "opc", type := (.array .byte), accessFlags := 18, slot := 1, constantValue := 0 }]
  methods := #[k2m0]
  instanceTypes := #[(.object "javax/crypto/Cipher"), (.array .byte)]
  staticTypes := #[.int, .int, .int, .int, .int, (.array .int), (.array .int)]
  resolved := Array.replicate 169 none
  statics := none }

def pool3 : Array CpInfo := pool [(1, u "java/lang/Cloneable"), (0, .class_ 1), (0, u "java/lang/Object"), (0, .class_ 3)] 3

/-- java/lang/Cloneable -/
def k3 : Class := { plain "java/lang/Cloneable" (some 0) with
  accessFlags := 1537
  interfaces := #[]
  cf := some (fileOf pool3 2 #[] #[] 1537 4 #[] #[])
  fields := #[]
  methods := #[]
  instanceTypes := #[]
  staticTypes := #[]
  resolved := Array.replicate 8 none
  statics := none }

def pool4 : Array CpInfo := pool [(1, u "java/io/Serializable"), (0, .class_ 1), (0, u "java/lang/Object"), (0, .class_ 3)] 3

/-- java/io/Serializable -/
def k4 : Class := { plain "java/io/Serializable" (some 0) with
  accessFlags := 1537
  interfaces := #[]
  cf := some (fileOf pool4 2 #[] #[] 1537 4 #[] #[])
  fields := #[]
  methods := #[]
  instanceTypes := #[]
  staticTypes := #[]
  resolved := Array.replicate 8 none
  statics := none }

/-- the primitive byte -/
def k5 : Class := { plain "byte" none with kind := .primitive 'B', accessFlags := 0x411 }
/-- [B -/
def k6 : Class := { plain "[B" (some 0) with kind := .array 5 .byte, interfaces := #[3, 4], accessFlags := 1041 }

/-- the primitive int -/
def k7 : Class := { plain "int" none with kind := .primitive 'I', accessFlags := 0x411 }
/-- [I -/
def k8 : Class := { plain "[I" (some 0) with kind := .array 7 .int, interfaces := #[3, 4], accessFlags := 1041 }

def heap : Heap := #[]
def classes : Array Class := #[k0, k1, k2, k3, k4, k5, k6, k7, k8]
def interned : List (Array UInt16 × Addr) := []
def slotsUsed : Nat := 0
def theMethod : MethodId := ⟨1, 5⟩
def args0 : Array Value := #[.int 5, .long 7, .int 3]
def aboutOver (below : List Frame) : State where
  vm := { classes := classes, interned := interned.toArray }
  heap := heap
  slotsUsed := slotsUsed
  threads := #[{ frames := .invoking theMethod args0 :: below }]
def below0 : List Frame := [.native { method := ⟨0, 0⟩, args := #[] }]
def about1 : State := aboutOver below0
def p0 : Program := .bare "" "" ""
def e0 : Env := launch0.env 0 0 0
theorem w_frames : about1.frames = Frame.invoking theMethod args0 :: below0 := rfl
set_option maxRecDepth 65536 in
theorem w_args : argsFit about1.vm theMethod args0 = true := by decide +kernel
set_option maxRecDepth 65536 in
theorem w_heap : heapFits about1 = true := by decide +kernel
set_option maxRecDepth 65536 in
theorem w_runnable : about1.curStatus? = some .runnable := by decide +kernel
set_option maxRecDepth 65536 in
theorem w_alone : about1.alone = true := by decide +kernel
set_option maxRecDepth 65536 in
theorem w_named : about1.methodNamed? x = some theMethod := by decide +kernel
set_option maxRecDepth 65536 in
theorem w_hears : about1.hears theMethod below0 = true := by decide +kernel
set_option maxRecDepth 65536 in
theorem w_ripe : about1.ripe theMethod args0 below0 = true := by decide +kernel
theorem w_running : about1.status = .running := rfl
set_option maxRecDepth 65536 in
theorem w_room : about1.hasRoom e0.platform room_1 = true :=
  launch0.hasRoom_least _ room_1 (by decide +kernel) (by decide +kernel) (by decide +kernel) (by decide +kernel) (by decide +kernel) (by decide +kernel)
theorem allAtoms_all (ts : List Jvm.Cond) (a : Array Jvm.Value) (st : Jvm.State) : (allAtoms ts).before a st = ts.all (fun c => c.before a st) := by
  induction ts with
  | nil => rfl
  | cons c t ih =>
    show (Jvm.Cond.and c (allAtoms t)).before a st = _
    rw [Jvm.Cond.before_and, ih, List.all_cons]
def words1 : List Jvm.Cond := Jvm.Cond.code x code maxLocals ret :: tables_1
/-- a 'code' word, met by the world's own term for the bytes: nothing is compared byte by byte -/
theorem code_word {y : MethodName} {bytes : ByteArray} {mx : Nat} {rt : Option FieldType} {a : Array Value} {s : State} {m : MethodId} {meth : Method} {c : Code} (h1 : s.methodNamed? y = some m) (h2 : s.vm.method? m = some meth) (h3 : meth.code = some c) (h4 : c.code = bytes)
    (h5 : (c.maxLocals == mx && c.exceptionTable.isEmpty && decide (c.maxStack ≤ mostOperands) && decide (meth.sig.returnType = rt) && !meth.locks && decide (parseMethodDescriptor y.desc = some meth.sig)) = true) : (Jvm.Cond.code y bytes mx rt).before a s = true := by
  simp only [Bool.and_eq_true, beq_iff_eq, Bool.not_eq_true', decide_eq_true_eq] at h5
  obtain ⟨⟨⟨⟨⟨g1, g2⟩, g3⟩, g4⟩, g5⟩, g6⟩ := h5
  simp [Cond.before, Cond.holds, Cond.value, h1, h2, h3, h4, g1, g2, g3, g4, g5, g6]
def isCode : Jvm.Cond → Bool
  | .code _ _ _ _ => true
  | _ => false
theorem all_split {L : List Jvm.Cond} {P : Jvm.Cond → Bool} (h1 : L.all (fun c => isCode c || P c) = true) (h2 : ∀ c ∈ L.filter isCode, P c = true) : L.all P = true := by
  refine List.all_eq_true.mpr fun c hc => ?_
  have h := List.all_eq_true.mp h1 c hc
  rcases Bool.eq_false_or_eq_true (isCode c) with hi | hi
  · exact h2 c (List.mem_filter.mpr ⟨hc, hi⟩)
  · simpa [hi] using h
set_option maxRecDepth 65536 in
theorem w_c0 : (Jvm.Cond.code x code maxLocals ret).before args0 about1 = true := code_word (m := ⟨1, 5⟩) (meth := k1m5) (c := k1c5) (by decide +kernel) rfl rfl rfl (by decide +kernel)
set_option maxRecDepth 65536 in
theorem w_c1 : (Jvm.Cond.code ({ cls := "com/example/nodecard/nodecard/aka/MilenageXorIntoPinLaw", name := "make", desc := "(IJ)[B" } : Jvm.MethodName) method_3_code (3 : Nat) (Option.some (Jvm.ClassFile.FieldType.array Jvm.ClassFile.FieldType.byte))).before args0 about1 = true := code_word (m := ⟨1, 2⟩) (meth := k1m2) (c := k1c2) (by decide +kernel) rfl rfl rfl (by decide +kernel)
set_option maxRecDepth 65536 in
theorem w_c2 : (Jvm.Cond.code ({ cls := "com/example/nodecard/nodecard/aka/MilenageXorIntoPinLaw", name := "bt", desc := "(JI)B" } : Jvm.MethodName) method_2_code (3 : Nat) (Option.some Jvm.ClassFile.FieldType.byte)).before args0 about1 = true := code_word (m := ⟨1, 1⟩) (meth := k1m1) (c := k1c1) (by decide +kernel) rfl rfl rfl (by decide +kernel)
set_option maxRecDepth 65536 in
theorem w_c3 : (Jvm.Cond.code ({ cls := "com/example/nodecard/nodecard/aka/Milenage", name := "xorInto", desc := "([B[B)V" } : Jvm.MethodName) prog_6_method_16_code (3 : Nat) (Option.none : Option Jvm.ClassFile.FieldType)).before args0 about1 = true := code_word (m := ⟨2, 0⟩) (meth := k2m0) (c := k2c0) (by decide +kernel) rfl rfl rfl (by decide +kernel)
set_option maxRecDepth 65536 in
theorem w_c4 : (Jvm.Cond.code ({ cls := "com/example/nodecard/nodecard/aka/MilenageXorIntoPinLaw", name := "tOk", desc := "([BIIJJ)Z" } : Jvm.MethodName) method_4_code (7 : Nat) (Option.some Jvm.ClassFile.FieldType.boolean)).before args0 about1 = true := code_word (m := ⟨1, 3⟩) (meth := k1m3) (c := k1c3) (by decide +kernel) rfl rfl rfl (by decide +kernel)
set_option maxRecDepth 65536 in
theorem w_c5 : (Jvm.Cond.code ({ cls := "com/example/nodecard/nodecard/aka/MilenageXorIntoPinLaw", name := "mOk", desc := "([BIIJ)Z" } : Jvm.MethodName) method_5_code (5 : Nat) (Option.some Jvm.ClassFile.FieldType.boolean)).before args0 about1 = true := code_word (m := ⟨1, 4⟩) (meth := k1m4) (c := k1c4) (by decide +kernel) rfl rfl rfl (by decide +kernel)
def codes1 : List Jvm.Cond := [Jvm.Cond.code x code maxLocals ret, Jvm.Cond.code ({ cls := "com/example/nodecard/nodecard/aka/MilenageXorIntoPinLaw", name := "make", desc := "(IJ)[B" } : Jvm.MethodName) method_3_code (3 : Nat) (Option.some (Jvm.ClassFile.FieldType.array Jvm.ClassFile.FieldType.byte)), Jvm.Cond.code ({ cls := "com/example/nodecard/nodecard/aka/MilenageXorIntoPinLaw", name := "bt", desc := "(JI)B" } : Jvm.MethodName) method_2_code (3 : Nat) (Option.some Jvm.ClassFile.FieldType.byte), Jvm.Cond.code ({ cls := "com/example/nodecard/nodecard/aka/Milenage", name := "xorInto", desc := "([B[B)V" } : Jvm.MethodName) prog_6_method_16_code (3 : Nat) (Option.none : Option Jvm.ClassFile.FieldType), Jvm.Cond.code ({ cls := "com/example/nodecard/nodecard/aka/MilenageXorIntoPinLaw", name := "tOk", desc := "([BIIJJ)Z" } : Jvm.MethodName) method_4_code (7 : Nat) (Option.some Jvm.ClassFile.FieldType.boolean), Jvm.Cond.code ({ cls := "com/example/nodecard/nodecard/aka/MilenageXorIntoPinLaw", name := "mOk", desc := "([BIIJ)Z" } : Jvm.MethodName) method_5_code (5 : Nat) (Option.some Jvm.ClassFile.FieldType.boolean)]
set_option maxRecDepth 65536 in
theorem codes_eq : words1.filter isCode = codes1 := rfl
theorem w_codes : ∀ c ∈ words1.filter isCode, c.before args0 about1 = true := by
  rw [codes_eq]
  intro c hc
  simp only [codes1, List.mem_cons, List.not_mem_nil, or_false] at hc
  rcases hc with rfl | rfl | rfl | rfl | rfl | rfl
  · exact w_c0
  · exact w_c1
  · exact w_c2
  · exact w_c3
  · exact w_c4
  · exact w_c5
set_option maxRecDepth 65536 in
theorem w_t1 : words1.all (fun c => isCode c || c.before args0 about1) = true := by decide +kernel
theorem w_tables : (allAtoms (Jvm.Cond.code x code maxLocals ret :: tables_1)).before args0 about1 = true := by
  rw [allAtoms_all]
  show words1.all (fun c => c.before args0 about1) = true
  refine all_split ?_ w_codes
  rw [w_t1]
set_option maxRecDepth 65536 in
theorem w_case : (Jvm.Cond.and given_1 narrow_1).before args0 about1 = true := by decide +kernel
theorem w_applies : (headSpec (Jvm.Cond.code x code maxLocals ret :: tables_1) room_1).applies x e0.platform about1 = true :=
  (Spec.applies_iff w_frames).mpr ⟨w_running, w_runnable, w_alone, w_named, w_hears, w_ripe, w_room, w_tables⟩
theorem atStart : AtStart classFile x code maxLocals ret World_1 tables_1 room_1 Calls_1 rest_1 Pre_1 launch0 p0 e0 about1 theMethod args0 below0 :=
  ⟨lists_1, trivial, launch0.admits_env _ _ _, launch0.least_env, fairChoices_fair.cas, fairChoices_fair.clock, w_frames, w_args, w_heap, w_applies, trivial, trivial, w_case⟩
end start1
theorem witness_1 : WitnessClaimed_1 := ⟨start1.p0, start1.e0, start1.about1, start1.theMethod, start1.args0, start1.below0, start1.atStart⟩
end Jvm.Pilot.@@N@@
