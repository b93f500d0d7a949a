import JvmDerived
import JvmDerived.Pilot.@@N@@Statement
import JvmDerived.Pilot.@@N@@Code
set_option linter.unusedVariables false
set_option linter.unusedSimpArgs false
namespace Jvm.Own
open Sem ClassFile Op Lib Jvm.Stand Jvm.Free Jvm.LawKit Jvm.RoadKit
/-- from here the run goes on to a return that the contract allows -/
def Wk (p : Program) (e : Env) (below : List Frame) (F : Outcome → State → Prop) (T : State) (g : JFrame) : Prop :=
  ∃ s₂ o, Steps p.tables e below (T.setTop g) s₂ ∧ s₂.status = .running ∧ Ended s₂ below o ∧ F o s₂
abbrev FN (s : State) (Q : Option Value → Heap → List Loc → Prop) (kc ks : Nat) : Outcome → State → Prop := fun o s₂ => ∃ v L, o = .returned v ∧ Q v s₂.heap L ∧ FrameEnd s o s₂ L kc ks
section Walk
variable {p : Program} {l : Launch} {e : Env} {R : Room} {s : State} {m : MethodId} {args : Array Value} {below : List Frame} {meth : Method} {c : Code} {T : State} {locs : List Loc} {cells slots : Nat} {Q : Option Value → Heap → List Loc → Prop} {Fe : Outcome → State → Prop} {kc ks pc : Nat} {Ls : Array Slot} {S : List Value} {Z : State} {a0 : Array Value} {h : Heap}
theorem Wk.step {T' : State} {g g' : JFrame} (h : Wk p e below Fe T' g') (st : ∀ t, Steps p.tables e below (T'.setTop g') t → Steps p.tables e below (T.setTop g) t) : Wk p e below Fe T g := by
  obtain ⟨s₂, o, h1, h2⟩ := h
  exact ⟨s₂, o, st _ h1, h2⟩
theorem Wk.come {T' : State} {g g' : JFrame} (h : Wk p e below Fe T' g') (st : Steps p.tables e below (T.setTop g) (T'.setTop g')) : Wk p e below Fe T g := h.step fun _ k => st.trans k
theorem w_iload (X : Stand p l e R s m args below meth c T locs cells slots) (hx : p.tables.exec = Jvm.exec) {k : Nat} (v : Int32) (hd : decode c.code pc = .ok (.iload k, 2)) (pc' : Nat) (hp : pc + 2 = pc') (hl : Ls[k]? = some (.val (.int v))) (h : Wk p e below Fe T (mkF m pc' Ls (.int v :: S))) : Wk p e below Fe T (mkF m pc Ls S) := by
  subst hp; exact h.step fun _ k => XS.iload X.here hx rfl hd hl k
theorem w_iloadN (X : Stand p l e R s m args below meth c T locs cells slots) (hx : p.tables.exec = Jvm.exec) {k : Fin 4} (v : Int32) (hd : decode c.code pc = .ok (.iload_n k, 1)) (pc' : Nat) (hp : pc + 1 = pc') (hl : Ls[k.val]? = some (.val (.int v))) (h : Wk p e below Fe T (mkF m pc' Ls (.int v :: S))) : Wk p e below Fe T (mkF m pc Ls S) := by
  subst hp; exact h.step fun _ k => XS.iloadN X.here hx rfl hd hl k
theorem w_lloadN (X : Stand p l e R s m args below meth c T locs cells slots) (hx : p.tables.exec = Jvm.exec) {k : Fin 4} (v : Int64) (hd : decode c.code pc = .ok (.lload_n k, 1)) (pc' : Nat) (hp : pc + 1 = pc') (hl : Ls[k.val]? = some (.val (.long v))) (h : Wk p e below Fe T (mkF m pc' Ls (.long v :: S))) : Wk p e below Fe T (mkF m pc Ls S) := by
  subst hp; exact h.step fun _ k => XS.lloadN X.here hx rfl hd hl k
theorem w_aload (X : Stand p l e R s m args below meth c T locs cells slots) (hx : p.tables.exec = Jvm.exec) {k : Nat} (v : Value) (hd : decode c.code pc = .ok (.aload k, 2)) (pc' : Nat) (hp : pc + 2 = pc') (hl : Ls[k]? = some (.val v)) (hv : v.isRef = true) (h : Wk p e below Fe T (mkF m pc' Ls (v :: S))) : Wk p e below Fe T (mkF m pc Ls S) := by
  subst hp; exact h.step fun _ k => XS.aload X.here hx rfl hd hl hv k
theorem w_aloadN (X : Stand p l e R s m args below meth c T locs cells slots) (hx : p.tables.exec = Jvm.exec) {k : Fin 4} (v : Value) (hd : decode c.code pc = .ok (.aload_n k, 1)) (pc' : Nat) (hp : pc + 1 = pc') (hl : Ls[k.val]? = some (.val v)) (hv : v.isRef = true) (h : Wk p e below Fe T (mkF m pc' Ls (v :: S))) : Wk p e below Fe T (mkF m pc Ls S) := by
  subst hp; exact h.step fun _ k => XS.aloadN X.here hx rfl hd hl hv k
theorem w_istore (X : Stand p l e R s m args below meth c T locs cells slots) (hx : p.tables.exec = Jvm.exec) {k : Nat} {x : Int32} (hd : decode c.code pc = .ok (.istore k, 2)) (pc' : Nat) (hp : pc + 2 = pc') (l' : Array Slot) (hl : storeLocals Ls k (.int x) = some l') (h : Wk p e below Fe T (mkF m pc' l' S)) : Wk p e below Fe T (mkF m pc Ls (.int x :: S)) := by
  subst hp; exact h.step fun _ k => XS.istore X.here hx rfl hd rfl hl k
theorem w_istoreN (X : Stand p l e R s m args below meth c T locs cells slots) (hx : p.tables.exec = Jvm.exec) {k : Fin 4} {x : Int32} (hd : decode c.code pc = .ok (.istore_n k, 1)) (pc' : Nat) (hp : pc + 1 = pc') (l' : Array Slot) (hl : storeLocals Ls k.val (.int x) = some l') (h : Wk p e below Fe T (mkF m pc' l' S)) : Wk p e below Fe T (mkF m pc Ls (.int x :: S)) := by
  subst hp; exact h.step fun _ k => XS.istoreN X.here hx rfl hd rfl hl k
theorem w_astore (X : Stand p l e R s m args below meth c T locs cells slots) (hx : p.tables.exec = Jvm.exec) {k : Nat} {x : Value} (hd : decode c.code pc = .ok (.astore k, 2)) (pc' : Nat) (hp : pc + 2 = pc') (hv : x.isRef = true) (l' : Array Slot) (hl : storeLocals Ls k x = some l') (h : Wk p e below Fe T (mkF m pc' l' S)) : Wk p e below Fe T (mkF m pc Ls (x :: S)) := by
  subst hp; exact h.step fun _ k => XS.astore X.here hx rfl hd rfl hv hl k
theorem w_iconst (X : Stand p l e R s m args below meth c T locs cells slots) (hx : p.tables.exec = Jvm.exec) {i : Int} (hd : decode c.code pc = .ok (.iconst i, 1)) (pc' : Nat) (hp : pc + 1 = pc') (z : Int32) (hz : Int32.ofInt i = z) (h : Wk p e below Fe T (mkF m pc' Ls (.int z :: S))) : Wk p e below Fe T (mkF m pc Ls S) := by
  subst hp hz; exact h.step fun _ k => XS.iconst X.here hx rfl hd k
theorem w_bipush (X : Stand p l e R s m args below meth c T locs cells slots) (hx : p.tables.exec = Jvm.exec) {i : Int} (hd : decode c.code pc = .ok (.bipush i, 2)) (pc' : Nat) (hp : pc + 2 = pc') (z : Int32) (hz : (Int8.ofInt i).toInt32 = z) (h : Wk p e below Fe T (mkF m pc' Ls (.int z :: S))) : Wk p e below Fe T (mkF m pc Ls S) := by
  subst hp hz; exact h.step fun _ k => XS.bipush X.here hx rfl hd k
theorem w_null (X : Stand p l e R s m args below meth c T locs cells slots) (hx : p.tables.exec = Jvm.exec) (hd : decode c.code pc = .ok (.aconst_null, 1)) (pc' : Nat) (hp : pc + 1 = pc') (h : Wk p e below Fe T (mkF m pc' Ls (.null :: S))) : Wk p e below Fe T (mkF m pc Ls S) := by
  subst hp; exact h.step fun _ k => XS.aconstNull X.here hx rfl hd k
theorem w_ldc (X : Stand p l e R s m args below meth c T locs cells slots) (hx : p.tables.exec = Jvm.exec) (hZ : Z.Warmed39 s.vm) {own : String} {index : Nat} {v : Int32} (hown : s.vm.findClass own = some m.cls) (w : (Cond.constant own index v).before a0 Z = true) (hd : decode c.code pc = .ok (.ldc index, 2)) (pc' : Nat) (hp : pc + 2 = pc') (h : Wk p e below Fe T (mkF m pc' Ls (.int v :: S))) : Wk p e below Fe T (mkF m pc Ls S) := by
  subst hp; exact h.step fun _ k => X.ldcInt hx hown (mvT hZ w) (g := mkF m pc Ls S) rfl hd _ k
theorem w_iadd (X : Stand p l e R s m args below meth c T locs cells slots) (hx : p.tables.exec = Jvm.exec) {x y : Int32} (hd : decode c.code pc = .ok (.iadd, 1)) (pc' : Nat) (hp : pc + 1 = pc') {z : Int32} (hz : z = x + y) (h : Wk p e below Fe T (mkF m pc' Ls (.int z :: S))) : Wk p e below Fe T (mkF m pc Ls (.int y :: .int x :: S)) := by
  subst hp hz; exact h.step fun _ k => XS.iadd X.here hx rfl hd rfl k
theorem w_isub (X : Stand p l e R s m args below meth c T locs cells slots) (hx : p.tables.exec = Jvm.exec) {x y : Int32} (hd : decode c.code pc = .ok (.isub, 1)) (pc' : Nat) (hp : pc + 1 = pc') {z : Int32} (hz : z = x - y) (h : Wk p e below Fe T (mkF m pc' Ls (.int z :: S))) : Wk p e below Fe T (mkF m pc Ls (.int y :: .int x :: S)) := by
  subst hp hz; exact h.step fun _ k => XS.isub X.here hx rfl hd rfl k
theorem w_iand (X : Stand p l e R s m args below meth c T locs cells slots) (hx : p.tables.exec = Jvm.exec) {x y : Int32} (hd : decode c.code pc = .ok (.iand, 1)) (pc' : Nat) (hp : pc + 1 = pc') {z : Int32} (hz : z = x &&& y) (h : Wk p e below Fe T (mkF m pc' Ls (.int z :: S))) : Wk p e below Fe T (mkF m pc Ls (.int y :: .int x :: S)) := by
  subst hp hz; exact h.step fun _ k => XS.iand X.here hx rfl hd rfl k
theorem w_idiv (X : Stand p l e R s m args below meth c T locs cells slots) (hx : p.tables.exec = Jvm.exec) {x y : Int32} (hd : decode c.code pc = .ok (.idiv, 1)) (pc' : Nat) (hp : pc + 1 = pc') (hy : y ≠ 0) {z : Int32} (hz : z = x / y) (h : Wk p e below Fe T (mkF m pc' Ls (.int z :: S))) : Wk p e below Fe T (mkF m pc Ls (.int y :: .int x :: S)) := by
  subst hp hz; exact h.step fun _ k => XS.idiv X.here hx rfl hd rfl hy k
theorem w_irem (X : Stand p l e R s m args below meth c T locs cells slots) (hx : p.tables.exec = Jvm.exec) {x y : Int32} (hd : decode c.code pc = .ok (.irem, 1)) (pc' : Nat) (hp : pc + 1 = pc') (hy : y ≠ 0) {z : Int32} (hz : z = x % y) (h : Wk p e below Fe T (mkF m pc' Ls (.int z :: S))) : Wk p e below Fe T (mkF m pc Ls (.int y :: .int x :: S)) := by
  subst hp hz; exact h.step fun _ k => iremM (g := mkF m pc Ls (.int y :: .int x :: S)) X hx rfl hd rfl hy k
theorem w_i2l (X : Stand p l e R s m args below meth c T locs cells slots) (hx : p.tables.exec = Jvm.exec) {x : Int32} (hd : decode c.code pc = .ok (.i2l, 1)) (pc' : Nat) (hp : pc + 1 = pc') {z : Int64} (hz : z = x.toInt64) (h : Wk p e below Fe T (mkF m pc' Ls (.long z :: S))) : Wk p e below Fe T (mkF m pc Ls (.int x :: S)) := by
  subst hp hz; exact h.step fun _ k => XS.i2l X.here hx rfl hd rfl k
theorem oD1 {α : Type} {x : α} : (some x).toList = [x] := rfl
theorem oD2 {α : Type} : (none : Option α).toList = [] := rfl
theorem oD3 {α : Type} {x : α} {xs ys : List α} : (x :: xs) ++ ys = x :: (xs ++ ys) := rfl
theorem oD4 {α : Type} {ys : List α} : [] ++ ys = ys := rfl
theorem w_dup (X : Stand p l e R s m args below meth c T locs cells slots) (hx : p.tables.exec = Jvm.exec) {x : Value} (hd : decode c.code pc = .ok (.dup, 1)) (pc' : Nat) (hp : pc + 1 = pc') (hc : x.category = 1) (h : Wk p e below Fe T (mkF m pc' Ls (x :: x :: S))) : Wk p e below Fe T (mkF m pc Ls (x :: S)) := by
  subst hp; exact h.step fun _ k => XS.dup X.here hx rfl hd rfl hc k
theorem w_dupX1 (X : Stand p l e R s m args below meth c T locs cells slots) (hx : p.tables.exec = Jvm.exec) {x y : Value} (hd : decode c.code pc = .ok (.dup_x1, 1)) (pc' : Nat) (hp : pc + 1 = pc') (hc : x.category = 1) (hc' : y.category = 1) (h : Wk p e below Fe T (mkF m pc' Ls (x :: y :: x :: S))) : Wk p e below Fe T (mkF m pc Ls (x :: y :: S)) := by
  subst hp; exact h.step fun _ k => XS.dupX1 X.here hx rfl hd rfl hc hc' k
theorem w_goto (X : Stand p l e R s m args below meth c T locs cells slots) (hx : p.tables.exec = Jvm.exec) {o : Int} (hd : decode c.code pc = .ok (.goto o, 3)) (pc' : Nat) (h : Wk p e below Fe T (mkF m pc' Ls S)) (ho : 0 ≤ (pc : Int) + o := by decide) (hp : ((pc : Int) + o).toNat = pc' := by decide) : Wk p e below Fe T (mkF m pc Ls S) := by
  exact h.step fun _ k => XS.goto X.here hx rfl rfl hd ho hp k
theorem holds_eq {x y : Int32} {A B : Int} (ha : x.toInt = A) (hb : y.toInt = B) : ((A = B) → if_icmp.holds .eq x y = true) ∧ ((¬ A = B) → if_icmp.holds .eq x y = false) := by
  subst ha hb
  constructor
  · intro q
    first
    | exact (tlt (x := x) (y := y) (Int32.lt_iff_toInt_lt.mpr (by omega))).1
    | exact (flt (x := x) (y := y) (fun r => by have := Int32.lt_iff_toInt_lt.mp r; omega)).2.1
    | exact (tlt (x := y) (y := x) (Int32.lt_iff_toInt_lt.mpr (by omega))).2.2.1
    | exact (flt (x := y) (y := x) (fun r => by have := Int32.lt_iff_toInt_lt.mp r; omega)).2.2.2
    | exact (teq (x := x) (y := y) (Int32.toInt_inj.mp (by omega))).1
    | exact (feq (x := x) (y := y) (fun r => q (by rw [r]))).2
  · intro q
    first
    | exact (flt (x := x) (y := y) (fun r => by have := Int32.lt_iff_toInt_lt.mp r; omega)).1
    | exact (tlt (x := x) (y := y) (Int32.lt_iff_toInt_lt.mpr (by omega))).2.1
    | exact (flt (x := y) (y := x) (fun r => by have := Int32.lt_iff_toInt_lt.mp r; omega)).2.2.1
    | exact (tlt (x := y) (y := x) (Int32.lt_iff_toInt_lt.mpr (by omega))).2.2.2
    | exact (feq (x := x) (y := y) (fun r => q (by rw [r]))).1
    | exact (teq (x := x) (y := y) (Int32.toInt_inj.mp (by omega))).2
theorem w_if_eq (X : Stand p l e R s m args below meth c T locs cells slots) (hx : p.tables.exec = Jvm.exec) {x : Int32} {o : Int} (A : Int) (ha : x.toInt = A) (hd : decode c.code pc = .ok (.ifCond .eq o, 3)) (pt pn : Nat) (h1 : A = 0 → Wk p e below Fe T (mkF m pt Ls S)) (h2 : ¬ A = 0 → Wk p e below Fe T (mkF m pn Ls S)) (ho : 0 ≤ (pc : Int) + o := by decide) (hp : ((pc : Int) + o).toNat = pt := by decide) (hn : pc + 3 = pn := by rfl) : Wk p e below Fe T (mkF m pc Ls (.int x :: S)) := by
  subst hn
  have hb : (0 : Int32).toInt = 0 := rfl
  by_cases q : A = 0
  · exact (h1 q).step fun _ k => XS.ifYes X.here hx rfl rfl hd rfl ((if0 _ _).trans ((holds_eq ha hb).1 q)) ho hp k
  · have q' : ¬ A = 0 := by omega
    exact (h2 q').step fun _ k => XS.ifNo X.here hx rfl hd rfl ((if0 _ _).trans ((holds_eq ha hb).2 q')) k
theorem holds_ne {x y : Int32} {A B : Int} (ha : x.toInt = A) (hb : y.toInt = B) : ((¬ A = B) → if_icmp.holds .ne x y = true) ∧ ((A = B) → if_icmp.holds .ne x y = false) := by
  subst ha hb
  constructor
  · intro q
    first
    | exact (tlt (x := x) (y := y) (Int32.lt_iff_toInt_lt.mpr (by omega))).1
    | exact (flt (x := x) (y := y) (fun r => by have := Int32.lt_iff_toInt_lt.mp r; omega)).2.1
    | exact (tlt (x := y) (y := x) (Int32.lt_iff_toInt_lt.mpr (by omega))).2.2.1
    | exact (flt (x := y) (y := x) (fun r => by have := Int32.lt_iff_toInt_lt.mp r; omega)).2.2.2
    | exact (teq (x := x) (y := y) (Int32.toInt_inj.mp (by omega))).1
    | exact (feq (x := x) (y := y) (fun r => q (by rw [r]))).2
  · intro q
    first
    | exact (flt (x := x) (y := y) (fun r => by have := Int32.lt_iff_toInt_lt.mp r; omega)).1
    | exact (tlt (x := x) (y := y) (Int32.lt_iff_toInt_lt.mpr (by omega))).2.1
    | exact (flt (x := y) (y := x) (fun r => by have := Int32.lt_iff_toInt_lt.mp r; omega)).2.2.1
    | exact (tlt (x := y) (y := x) (Int32.lt_iff_toInt_lt.mpr (by omega))).2.2.2
    | exact (feq (x := x) (y := y) (fun r => q (by rw [r]))).1
    | exact (teq (x := x) (y := y) (Int32.toInt_inj.mp (by omega))).2
theorem w_icmp_ne (X : Stand p l e R s m args below meth c T locs cells slots) (hx : p.tables.exec = Jvm.exec) {x y : Int32} {o : Int} (A B : Int) (ha : x.toInt = A) (hb : y.toInt = B) (hd : decode c.code pc = .ok (.if_icmp .ne o, 3)) (pt pn : Nat) (h1 : ¬ A = B → Wk p e below Fe T (mkF m pt Ls S)) (h2 : A = B → Wk p e below Fe T (mkF m pn Ls S)) (ho : 0 ≤ (pc : Int) + o := by decide) (hp : ((pc : Int) + o).toNat = pt := by decide) (hn : pc + 3 = pn := by rfl) : Wk p e below Fe T (mkF m pc Ls (.int y :: .int x :: S)) := by
  subst hn
  by_cases q : ¬ A = B
  · exact (h1 q).step fun _ k => XS.icmpYes X.here hx rfl rfl hd rfl ((holds_ne ha hb).1 q) ho hp k
  · have q' : A = B := by omega
    exact (h2 q').step fun _ k => XS.icmpNo X.here hx rfl hd rfl ((holds_ne ha hb).2 q') k
theorem w_if_ne (X : Stand p l e R s m args below meth c T locs cells slots) (hx : p.tables.exec = Jvm.exec) {x : Int32} {o : Int} (A : Int) (ha : x.toInt = A) (hd : decode c.code pc = .ok (.ifCond .ne o, 3)) (pt pn : Nat) (h1 : ¬ A = 0 → Wk p e below Fe T (mkF m pt Ls S)) (h2 : A = 0 → Wk p e below Fe T (mkF m pn Ls S)) (ho : 0 ≤ (pc : Int) + o := by decide) (hp : ((pc : Int) + o).toNat = pt := by decide) (hn : pc + 3 = pn := by rfl) : Wk p e below Fe T (mkF m pc Ls (.int x :: S)) := by
  subst hn
  have hb : (0 : Int32).toInt = 0 := rfl
  by_cases q : ¬ A = 0
  · exact (h1 q).step fun _ k => XS.ifYes X.here hx rfl rfl hd rfl ((if0 _ _).trans ((holds_ne ha hb).1 q)) ho hp k
  · have q' : A = 0 := by omega
    exact (h2 q').step fun _ k => XS.ifNo X.here hx rfl hd rfl ((if0 _ _).trans ((holds_ne ha hb).2 q')) k
theorem holds_ge {x y : Int32} {A B : Int} (ha : x.toInt = A) (hb : y.toInt = B) : ((B ≤ A) → if_icmp.holds .ge x y = true) ∧ ((A < B) → if_icmp.holds .ge x y = false) := by
  subst ha hb
  constructor
  · intro q
    first
    | exact (tlt (x := x) (y := y) (Int32.lt_iff_toInt_lt.mpr (by omega))).1
    | exact (flt (x := x) (y := y) (fun r => by have := Int32.lt_iff_toInt_lt.mp r; omega)).2.1
    | exact (tlt (x := y) (y := x) (Int32.lt_iff_toInt_lt.mpr (by omega))).2.2.1
    | exact (flt (x := y) (y := x) (fun r => by have := Int32.lt_iff_toInt_lt.mp r; omega)).2.2.2
    | exact (teq (x := x) (y := y) (Int32.toInt_inj.mp (by omega))).1
    | exact (feq (x := x) (y := y) (fun r => q (by rw [r]))).2
  · intro q
    first
    | exact (flt (x := x) (y := y) (fun r => by have := Int32.lt_iff_toInt_lt.mp r; omega)).1
    | exact (tlt (x := x) (y := y) (Int32.lt_iff_toInt_lt.mpr (by omega))).2.1
    | exact (flt (x := y) (y := x) (fun r => by have := Int32.lt_iff_toInt_lt.mp r; omega)).2.2.1
    | exact (tlt (x := y) (y := x) (Int32.lt_iff_toInt_lt.mpr (by omega))).2.2.2
    | exact (feq (x := x) (y := y) (fun r => q (by rw [r]))).1
    | exact (teq (x := x) (y := y) (Int32.toInt_inj.mp (by omega))).2
theorem w_icmp_ge (X : Stand p l e R s m args below meth c T locs cells slots) (hx : p.tables.exec = Jvm.exec) {x y : Int32} {o : Int} (A B : Int) (ha : x.toInt = A) (hb : y.toInt = B) (hd : decode c.code pc = .ok (.if_icmp .ge o, 3)) (pt pn : Nat) (h1 : B ≤ A → Wk p e below Fe T (mkF m pt Ls S)) (h2 : A < B → Wk p e below Fe T (mkF m pn Ls S)) (ho : 0 ≤ (pc : Int) + o := by decide) (hp : ((pc : Int) + o).toNat = pt := by decide) (hn : pc + 3 = pn := by rfl) : Wk p e below Fe T (mkF m pc Ls (.int y :: .int x :: S)) := by
  subst hn
  by_cases q : B ≤ A
  · exact (h1 q).step fun _ k => XS.icmpYes X.here hx rfl rfl hd rfl ((holds_ge ha hb).1 q) ho hp k
  · have q' : A < B := by omega
    exact (h2 q').step fun _ k => XS.icmpNo X.here hx rfl hd rfl ((holds_ge ha hb).2 q') k
theorem holds_gt {x y : Int32} {A B : Int} (ha : x.toInt = A) (hb : y.toInt = B) : ((B < A) → if_icmp.holds .gt x y = true) ∧ ((A ≤ B) → if_icmp.holds .gt x y = false) := by
  subst ha hb
  constructor
  · intro q
    first
    | exact (tlt (x := x) (y := y) (Int32.lt_iff_toInt_lt.mpr (by omega))).1
    | exact (flt (x := x) (y := y) (fun r => by have := Int32.lt_iff_toInt_lt.mp r; omega)).2.1
    | exact (tlt (x := y) (y := x) (Int32.lt_iff_toInt_lt.mpr (by omega))).2.2.1
    | exact (flt (x := y) (y := x) (fun r => by have := Int32.lt_iff_toInt_lt.mp r; omega)).2.2.2
    | exact (teq (x := x) (y := y) (Int32.toInt_inj.mp (by omega))).1
    | exact (feq (x := x) (y := y) (fun r => q (by rw [r]))).2
  · intro q
    first
    | exact (flt (x := x) (y := y) (fun r => by have := Int32.lt_iff_toInt_lt.mp r; omega)).1
    | exact (tlt (x := x) (y := y) (Int32.lt_iff_toInt_lt.mpr (by omega))).2.1
    | exact (flt (x := y) (y := x) (fun r => by have := Int32.lt_iff_toInt_lt.mp r; omega)).2.2.1
    | exact (tlt (x := y) (y := x) (Int32.lt_iff_toInt_lt.mpr (by omega))).2.2.2
    | exact (feq (x := x) (y := y) (fun r => q (by rw [r]))).1
    | exact (teq (x := x) (y := y) (Int32.toInt_inj.mp (by omega))).2
theorem w_icmp_gt (X : Stand p l e R s m args below meth c T locs cells slots) (hx : p.tables.exec = Jvm.exec) {x y : Int32} {o : Int} (A B : Int) (ha : x.toInt = A) (hb : y.toInt = B) (hd : decode c.code pc = .ok (.if_icmp .gt o, 3)) (pt pn : Nat) (h1 : B < A → Wk p e below Fe T (mkF m pt Ls S)) (h2 : A ≤ B → Wk p e below Fe T (mkF m pn Ls S)) (ho : 0 ≤ (pc : Int) + o := by decide) (hp : ((pc : Int) + o).toNat = pt := by decide) (hn : pc + 3 = pn := by rfl) : Wk p e below Fe T (mkF m pc Ls (.int y :: .int x :: S)) := by
  subst hn
  by_cases q : B < A
  · exact (h1 q).step fun _ k => XS.icmpYes X.here hx rfl rfl hd rfl ((holds_gt ha hb).1 q) ho hp k
  · have q' : A ≤ B := by omega
    exact (h2 q').step fun _ k => XS.icmpNo X.here hx rfl hd rfl ((holds_gt ha hb).2 q') k
theorem holds_le {x y : Int32} {A B : Int} (ha : x.toInt = A) (hb : y.toInt = B) : ((A ≤ B) → if_icmp.holds .le x y = true) ∧ ((B < A) → if_icmp.holds .le x y = false) := by
  subst ha hb
  constructor
  · intro q
    first
    | exact (tlt (x := x) (y := y) (Int32.lt_iff_toInt_lt.mpr (by omega))).1
    | exact (flt (x := x) (y := y) (fun r => by have := Int32.lt_iff_toInt_lt.mp r; omega)).2.1
    | exact (tlt (x := y) (y := x) (Int32.lt_iff_toInt_lt.mpr (by omega))).2.2.1
    | exact (flt (x := y) (y := x) (fun r => by have := Int32.lt_iff_toInt_lt.mp r; omega)).2.2.2
    | exact (teq (x := x) (y := y) (Int32.toInt_inj.mp (by omega))).1
    | exact (feq (x := x) (y := y) (fun r => q (by rw [r]))).2
  · intro q
    first
    | exact (flt (x := x) (y := y) (fun r => by have := Int32.lt_iff_toInt_lt.mp r; omega)).1
    | exact (tlt (x := x) (y := y) (Int32.lt_iff_toInt_lt.mpr (by omega))).2.1
    | exact (flt (x := y) (y := x) (fun r => by have := Int32.lt_iff_toInt_lt.mp r; omega)).2.2.1
    | exact (tlt (x := y) (y := x) (Int32.lt_iff_toInt_lt.mpr (by omega))).2.2.2
    | exact (feq (x := x) (y := y) (fun r => q (by rw [r]))).1
    | exact (teq (x := x) (y := y) (Int32.toInt_inj.mp (by omega))).2
theorem w_icmp_le (X : Stand p l e R s m args below meth c T locs cells slots) (hx : p.tables.exec = Jvm.exec) {x y : Int32} {o : Int} (A B : Int) (ha : x.toInt = A) (hb : y.toInt = B) (hd : decode c.code pc = .ok (.if_icmp .le o, 3)) (pt pn : Nat) (h1 : A ≤ B → Wk p e below Fe T (mkF m pt Ls S)) (h2 : B < A → Wk p e below Fe T (mkF m pn Ls S)) (ho : 0 ≤ (pc : Int) + o := by decide) (hp : ((pc : Int) + o).toNat = pt := by decide) (hn : pc + 3 = pn := by rfl) : Wk p e below Fe T (mkF m pc Ls (.int y :: .int x :: S)) := by
  subst hn
  by_cases q : A ≤ B
  · exact (h1 q).step fun _ k => XS.icmpYes X.here hx rfl rfl hd rfl ((holds_le ha hb).1 q) ho hp k
  · have q' : B < A := by omega
    exact (h2 q').step fun _ k => XS.icmpNo X.here hx rfl hd rfl ((holds_le ha hb).2 q') k
theorem w_if_le (X : Stand p l e R s m args below meth c T locs cells slots) (hx : p.tables.exec = Jvm.exec) {x : Int32} {o : Int} (A : Int) (ha : x.toInt = A) (hd : decode c.code pc = .ok (.ifCond .le o, 3)) (pt pn : Nat) (h1 : A ≤ 0 → Wk p e below Fe T (mkF m pt Ls S)) (h2 : 0 < A → Wk p e below Fe T (mkF m pn Ls S)) (ho : 0 ≤ (pc : Int) + o := by decide) (hp : ((pc : Int) + o).toNat = pt := by decide) (hn : pc + 3 = pn := by rfl) : Wk p e below Fe T (mkF m pc Ls (.int x :: S)) := by
  subst hn
  have hb : (0 : Int32).toInt = 0 := rfl
  by_cases q : A ≤ 0
  · exact (h1 q).step fun _ k => XS.ifYes X.here hx rfl rfl hd rfl ((if0 _ _).trans ((holds_le ha hb).1 q)) ho hp k
  · have q' : 0 < A := by omega
    exact (h2 q').step fun _ k => XS.ifNo X.here hx rfl hd rfl ((if0 _ _).trans ((holds_le ha hb).2 q')) k
theorem w_acmp (X : Stand p l e R s m args below meth c T locs cells slots) (hx : p.tables.exec = Jvm.exec) {cd : ACond} {x y : Value} {o : Int} (h1 : x.isRef = true) (h2 : y.isRef = true) (hd : decode c.code pc = .ok (.if_acmp cd o, 3)) (same : Bool) (hq : decide (x = y) = same) (pc' : Nat) (ho : 0 ≤ (pc : Int) + o) (hp : pc' = if acV cd same = true then ((pc : Int) + o).toNat else pc + 3) (h : Wk p e below Fe T (mkF m pc' Ls S)) : Wk p e below Fe T (mkF m pc Ls (y :: x :: S)) :=
  h.step fun _ k => Jvm.RoadKit.acmp (g := mkF m pc Ls (y :: x :: S)) X hx rfl h1 h2 rfl hd rfl hq ho hp k
theorem w_retN (X : Stand p l e R s m args below meth c T locs cells slots) (hx : p.tables.exec = Jvm.exec) (hlocks : meth.locks = false) {t : FieldType} {z : Int32} (hret : meth.sig.returnType = some t) (ht : t = .boolean ∨ t = .byte ∨ t = .char ∨ t = .short) (hd : decode c.code pc = .ok (.ireturn, 1)) (hc : cells ≤ kc) (hs : slots ≤ ks) (hQ : Q (some (.int (nar t z))) T.heap locs) : Wk p e below (FN s Q kc ks) T (mkF m pc Ls (.int z :: S)) := by
  obtain ⟨fs, hr, hrun, hended, hW, hsame⟩ := X.leave (v := some (.int (nar t z))) (fun h => by rw [hret] at h; cases h) hlocks
  exact ⟨_, _, retN X hx hret ht hd hr, hrun, hended, _, _, rfl, hQ, ⟨_, rfl⟩, hW, hsame.mono hc hs⟩
theorem w_retO (X : Stand p l e R s m args below meth c T locs cells slots) (hx : p.tables.exec = Jvm.exec) (hlocks : meth.locks = false) {t : FieldType} {w : Value} {i : Instr} (hret : meth.sig.returnType = some t) (hn : narrow t w = w)
    (hi : (i = .ireturn ∧ (t = .int ∨ t = .boolean ∨ t = .byte ∨ t = .char ∨ t = .short) ∧ ∃ z, w = .int z) ∨ (i = .lreturn ∧ t = .long ∧ ∃ z, w = .long z) ∨ (i = .dreturn ∧ t = .double ∧ ∃ z, w = .double z) ∨ (i = .freturn ∧ t = .float ∧ ∃ z, w = .float z) ∨ (i = .areturn ∧ t.isReference = true ∧ w.isRef = true))
    (hd : decode c.code pc = .ok (i, 1)) (hc : cells ≤ kc) (hs : slots ≤ ks) (hQ : Q (some w) T.heap locs) : Wk p e below (FN s Q kc ks) T (mkF m pc Ls (w :: S)) := by
  obtain ⟨fs, hr, hrun, hended, hW, hsame⟩ := X.leave (v := some w) (fun h => by rw [hret] at h; cases h) hlocks
  exact ⟨_, _, retOut X hx hret hn hi hd hr, hrun, hended, _, _, rfl, hQ, ⟨_, rfl⟩, hW, hsame.mono hc hs⟩
theorem w_retI (X : Stand p l e R s m args below meth c T locs cells slots) (hx : p.tables.exec = Jvm.exec) (hlocks : meth.locks = false) {z : Int32} (hret : meth.sig.returnType = some .int) (hd : decode c.code pc = .ok (.ireturn, 1)) (hc : cells ≤ kc) (hs : slots ≤ ks) (hQ : Q (some (.int z)) T.heap locs) : Wk p e below (FN s Q kc ks) T (mkF m pc Ls (.int z :: S)) :=
  w_retO X hx hlocks hret rfl (Or.inl ⟨rfl, Or.inl rfl, _, rfl⟩) hd hc hs hQ
theorem w_retA (X : Stand p l e R s m args below meth c T locs cells slots) (hx : p.tables.exec = Jvm.exec) (hlocks : meth.locks = false) {t : FieldType} {w : Value} (hret : meth.sig.returnType = some t) (ht : t.isReference = true) (hw : w.isRef = true) (hd : decode c.code pc = .ok (.areturn, 1)) (hc : cells ≤ kc) (hs : slots ≤ ks) (hQ : Q (some w) T.heap locs) : Wk p e below (FN s Q kc ks) T (mkF m pc Ls (w :: S)) :=
  w_retO X hx hlocks hret (by cases t <;> first | (cases ht; done) | (cases w <;> first | rfl | (cases hw; done))) (Or.inr (Or.inr (Or.inr (Or.inr ⟨rfl, ht, hw⟩)))) hd hc hs hQ
theorem w_ret0 (X : Stand p l e R s m args below meth c T locs cells slots) (hx : p.tables.exec = Jvm.exec) (hlocks : meth.locks = false) (hret : meth.sig.returnType = none) (hd : decode c.code pc = .ok (.return_, 1)) (hc : cells ≤ kc) (hs : slots ≤ ks) (hQ : Q none T.heap locs) : Wk p e below (FN s Q kc ks) T (mkF m pc Ls []) := by
  obtain ⟨fs, hr, hrun, hended, hW, hsame⟩ := X.leave (v := none) (fun _ => rfl) hlocks
  exact ⟨_, _, X.returnOut hx hret hd hr, hrun, hended, _, _, rfl, hQ, ⟨_, rfl⟩, hW, hsame.mono hc hs⟩
theorem w_callS (X : Stand p l e R s m args below meth c T locs cells slots) (hx : p.tables.exec = Jvm.exec) (hZ : Z.Warmed39 s.vm) {own : String} {index : Nat} {y : MethodName} {bytes : ByteArray} {maxL : Nat} {ret : Option FieldType} {rm : Room} {as' : Array Value} {Qc : Option Value → Heap → List Loc → Prop} (hown : s.vm.findClass own = some m.cls) (eT : T.heap = h)
    (hM : MetFree l y (head1 [Cond.code y bytes maxL ret] rm) (fun a U => a = as' ∧ Z.Warmed39 U.vm ∧ U.heap = h) (fun _ _ _ _ _ => True) (fun _ U o U' => ∃ v L, o = .returned v ∧ Qc v U'.heap L ∧ FrameEnd U o U' L rm.cells rm.slots))
    (w1 : (Cond.methodLink own index y).before a0 Z = true) (w2 : (Cond.static y).before a0 Z = true) (w3 : (Cond.initialized y.cls).before a0 Z = true) (w4 : (Cond.code y bytes maxL ret).before a0 Z = true) (hy : y.cls ≠ "java/lang/invoke/MethodHandle" ∧ y.cls ≠ "java/lang/invoke/VarHandle")
    (hsize : Ls.size = c.maxLocals) (argsL rest : List Value) (hlen : ∀ sig, parseMethodDescriptor y.desc = some sig → argsL.length = sig.parameters.length) (hst : S = argsL.reverse ++ rest) (has : argsL.toArray = as')
    (hf : rm.frames + 1 ≤ R.frames) (W : Nat) (hW : (rest.map fun v => v.category).sum = W) (hl : W + (maxL + 11) + rm.locals ≤ R.locals) (hc : cells + rm.cells ≤ R.cells) (hs : slots + rm.slots ≤ R.slots) (hd : decode c.code pc = .ok (.invokestatic index, 3)) (pc' : Nat) (hp : pc + 3 = pc')
    (k : ∀ (v : Option Value) (T' : State) (L : List Loc), Stand p l e R s m args below meth c T' (locs ++ L) (cells + rm.cells) (slots + rm.slots) → Qc v T'.heap L → Wk p e below Fe T' (mkF m pc' Ls (v.toList ++ rest))) : Wk p e below Fe T (mkF m pc Ls S) := by
  subst hp hst has hW
  obtain ⟨v, _, ⟨T', L', k', n'⟩, -, X', ⟨Lc, q1, q2, q3, q4⟩, st⟩ := Jvm.LawKit.callS X hx hown (mvT hZ w1) (mvT hZ w2) (mvT hZ w3) (mvT hZ w4) hy (backOf hM hZ w4 w3 hf hl) (g := mkF m pc Ls (argsL.reverse ++ rest)) rfl hsize hlen rfl (by show 2 * 0 + _ ≤ _; rw [Nat.mul_zero, Nat.zero_add]; exact Nat.le_refl _) hd (fun _ _ => ⟨rfl, eT, hc, hs⟩)
  dsimp only [Pt.U, Pt.locs, Pt.cells, Pt.slots] at X' q2 q3 q4 st q1
  subst q2 q3 q4
  exact (k v T' Lc X' q1).step st
theorem w_init (X : Stand p l e R s m args below meth c T locs cells slots) (hx : p.tables.exec = Jvm.exec) (hZ : Z.Warmed39 s.vm) {own : String} {index : Nat} {y : MethodName} {bytes : ByteArray} {maxL : Nat} {rm : Room} {as' : Array Value} {Qc : Option Value → Heap → List Loc → Prop} (hy1 : y.name = "<init>") (hown : s.vm.findClass own = some m.cls) (eT : T.heap = h)
    (hM : MetFree l y (head1 [Cond.code y bytes maxL none] rm) (fun a U => a = as' ∧ Z.Warmed39 U.vm ∧ U.heap = h) (fun _ _ _ _ _ => True) (fun _ U o U' => ∃ v L, o = .returned v ∧ Qc v U'.heap L ∧ FrameEnd U o U' L rm.cells rm.slots))
    (w1 : (Cond.methodLink own index y).before a0 Z = true) (w2 : (Cond.instanceMethod y).before a0 Z = true) (w3 : (Cond.initialized y.cls).before a0 Z = true) (w4 : (Cond.code y bytes maxL none).before a0 Z = true) (hy : y.cls ≠ "java/lang/invoke/MethodHandle" ∧ y.cls ≠ "java/lang/invoke/VarHandle")
    (hsize : Ls.size = c.maxLocals) (a : Addr) (argsL rest : List Value) (hlen : ∀ sig, parseMethodDescriptor y.desc = some sig → argsL.length = sig.parameters.length) (hst : S = argsL.reverse ++ .ref a :: rest) (has : (Value.ref a :: argsL).toArray = as')
    (hf : rm.frames + 1 ≤ R.frames) (W : Nat) (hW : (rest.map fun v => v.category).sum = W) (hl : W + (maxL + 11) + rm.locals ≤ R.locals) (hc : cells + rm.cells ≤ R.cells) (hs : slots + rm.slots ≤ R.slots) (hd : decode c.code pc = .ok (.invokespecial index, 3)) (pc' : Nat) (hp : pc + 3 = pc')
    (k : ∀ (v : Option Value) (T' : State) (L : List Loc), Stand p l e R s m args below meth c T' (locs ++ L) (cells + rm.cells) (slots + rm.slots) → Qc v T'.heap L → Wk p e below Fe T' (mkF m pc' Ls (v.toList ++ rest))) : Wk p e below Fe T (mkF m pc Ls S) := by
  subst hp hst has hW
  obtain ⟨v, _, ⟨T', L', k', n'⟩, -, X', ⟨Lc, q1, q2, q3, q4⟩, st⟩ := X.specialBack hx hy1 hown (mvT hZ w1) (mvT hZ w2) (mvT hZ w4) hy (backOf hM hZ w4 w3 hf hl) (g := mkF m pc Ls (argsL.reverse ++ .ref a :: rest)) rfl hsize (Steps.refl _) hlen rfl (by show 2 * 0 + _ ≤ _; rw [Nat.mul_zero, Nat.zero_add]; exact Nat.le_refl _) hd (fun _ _ => ⟨rfl, eT, hc, hs⟩)
  dsimp only [Pt.U, Pt.locs, Pt.cells, Pt.slots] at X' q2 q3 q4 st q1
  subst q2 q3 q4
  exact (k v T' Lc X' q1).come st
theorem w_virt (X : Stand p l e R s m args below meth c T locs cells slots) (hx : p.tables.exec = Jvm.exec) (hZ : Z.Warmed39 s.vm) {own : String} {index : Nat} {y : MethodName} {bytes : ByteArray} {maxL : Nat} {ret : Option FieldType} {rm : Room} {as' : Array Value} {Qc : Option Value → Heap → List Loc → Prop} {C : String} {y0 : MethodName} (hown : s.vm.findClass own = some m.cls) (eT : T.heap = h)
    (hM : MetFree l y (head1 [Cond.code y bytes maxL ret] rm) (fun a U => a = as' ∧ Z.Warmed39 U.vm ∧ U.heap = h) (fun _ _ _ _ _ => True) (fun _ U o U' => ∃ v L, o = .returned v ∧ Qc v U'.heap L ∧ FrameEnd U o U' L rm.cells rm.slots))
    (w1 : (Cond.methodLink own index y0).before a0 Z = true) (w2 : (Cond.declares y0).before a0 Z = true) (nf : NotFace s y0) (w5 : (Cond.selects C y0 y).before a0 Z = true) (w6 : (Cond.instanceMethod y).before a0 Z = true) (w3 : (Cond.initialized y.cls).before a0 Z = true) (w4 : (Cond.code y bytes maxL ret).before a0 Z = true) (hy : y0.cls ≠ "java/lang/invoke/MethodHandle" ∧ y0.cls ≠ "java/lang/invoke/VarHandle")
    (a : Addr) (E : Exa Z h a C)
    (hsize : Ls.size = c.maxLocals) (argsL rest : List Value) (hlen : ∀ sig, parseMethodDescriptor y0.desc = some sig → argsL.length = sig.parameters.length) (hst : S = argsL.reverse ++ .ref a :: rest) (has : (Value.ref a :: argsL).toArray = as')
    (hf : rm.frames + 1 ≤ R.frames) (W : Nat) (hW : (rest.map fun v => v.category).sum = W) (hl : W + (maxL + 11) + rm.locals ≤ R.locals) (hc : cells + rm.cells ≤ R.cells) (hs : slots + rm.slots ≤ R.slots) (hd : decode c.code pc = .ok (.invokevirtual index, 3)) (pc' : Nat) (hp : pc + 3 = pc')
    (k : ∀ (v : Option Value) (T' : State) (L : List Loc), Stand p l e R s m args below meth c T' (locs ++ L) (cells + rm.cells) (slots + rm.slots) → Qc v T'.heap L → Wk p e below Fe T' (mkF m pc' Ls (v.toList ++ rest))) : Wk p e below Fe T (mkF m pc Ls S) := by
  subst hp hst has hW
  obtain ⟨cq, kq, qa, qb, qc⟩ := isOf hZ eT E
  obtain ⟨v, _, ⟨T', L', k', n'⟩, -, X', ⟨Lc, q1, q2, q3, q4⟩, st⟩ := X.virtualBack hx hown (mvT hZ w1) (mvT hZ w2) nf (mvT hZ w5) (mvT hZ w6) hy (backOf hM hZ w4 w3 hf hl) qa qc (g := mkF m pc Ls (argsL.reverse ++ .ref a :: rest)) rfl hsize (Steps.refl _) hlen rfl (by show 2 * 0 + _ ≤ _; rw [Nat.mul_zero, Nat.zero_add]; exact Nat.le_refl _) hd (fun _ _ => ⟨rfl, eT, hc, hs⟩)
  dsimp only [Pt.U, Pt.locs, Pt.cells, Pt.slots] at X' q2 q3 q4 st q1
  subst q2 q3 q4
  exact (k v T' Lc X' q1).come st
theorem w_objinit (X : Stand p l e R s m args below meth c T locs cells slots) (hx : p.tables.exec = Jvm.exec) (hZ : Z.Warmed39 s.vm) {own : String} {idx : Nat} (hown : s.vm.findClass own = some m.cls) (eT : T.heap = h) (w1 : (Cond.methodLink own idx Lib.objectInit).before a0 Z = true) (w2 : (Cond.instanceMethod Lib.objectInit).before a0 Z = true) (w3 : (Cond.code Lib.objectInit ⟨#[0xb1]⟩ 1 none).before a0 Z = true)
    (hsize : Ls.size = c.maxLocals) {a : Addr} (hf : 1 ≤ R.frames) (W : Nat) (hW : (S.map fun v => v.category).sum = W) (hl : W + 12 ≤ R.locals) (hd : decode c.code pc = .ok (.invokespecial idx, 3)) (pc' : Nat) (hp : pc + 3 = pc')
    (k : ∀ T' : State, Stand p l e R s m args below meth c T' locs cells slots → T'.heap = h → Wk p e below Fe T' (mkF m pc' Ls S)) : Wk p e below Fe T (mkF m pc Ls (.ref a :: S)) := by
  subst hp hW
  obtain ⟨T', X', e', st⟩ := initO X hx hZ hown w1 w2 w3 eT (g := mkF m pc Ls (.ref a :: S)) rfl hsize rfl hd hf (by show 2 * 0 + _ ≤ _; rw [Nat.mul_zero, Nat.zero_add]; exact Nat.le_refl _) hl
  exact (k T' X' e').step st
theorem w_getF (X : Stand p l e R s m args below meth c T locs cells slots) (hx : p.tables.exec = Jvm.exec) (hZ : Z.Warmed39 s.vm) {own R0 O n d host : String} {index : Nat} (hown : s.vm.findClass own = some m.cls) (eT : T.heap = h) (w : (Cond.fieldLink own index R0 n d).before a0 Z = true ∨ (Cond.fieldLinkNest own index R0 n d host).before a0 Z = true) (via : Via Z R0 O n d)
    {a : Addr} {v : Value} (F : Fld Z h a O n d v) (hd : decode c.code pc = .ok (.getfield index, 3)) (pc' : Nat) (hp : pc + 3 = pc')
    (k : ∀ T' : State, Stand p l e R s m args below meth c T' locs cells slots → T'.heap = h → Wk p e below Fe T' (mkF m pc' Ls (v :: S))) : Wk p e below Fe T (mkF m pc Ls (.ref a :: S)) := by
  subst hp
  obtain ⟨T', X', e', st⟩ := getF X hx hZ hown w via eT F (g := mkF m pc Ls (.ref a :: S)) rfl rfl hd
  exact (k T' X' e').step st
theorem w_putF (X : Stand p l e R s m args below meth c T locs cells slots) (hx : p.tables.exec = Jvm.exec) (hZ : Z.Warmed39 s.vm) {own R0 O n d host C : String} {index kk : Nat} {ty : FieldType} (hown : s.vm.findClass own = some m.cls) (eT : T.heap = h) (w : (Cond.fieldLink own index R0 n d).before a0 Z = true ∨ (Cond.fieldLinkNest own index R0 n d host).before a0 Z = true) (via : Via Z R0 O n d)
    {a : Addr} {v old : Value} (F : Fld Z h a O n d old) (E : Exa Z h a C) (L : (Cond.lays C O n d).before a0 Z = true ∨ ((Cond.laysFinal C O n d).before a0 Z = true ∧ own = O ∧ meth.name = "<init>")) (wi : (Cond.instantiable C kk).before a0 Z = true)
    (hty : parseFieldDescriptor d = some ty) (hn : narrow ty v = v) (hf : fits ty v = true) (hd : decode c.code pc = .ok (.putfield index, 3)) (pc' : Nat) (hp : pc + 3 = pc')
    (k : ∀ (T' : State) (h' : Heap), Stand p l e R s m args below meth c T' (locs ++ [⟨a, Jvm.RoadKit.slotOf Z O n d⟩]) cells slots → T'.heap = h' → Wr h h' a (Jvm.RoadKit.slotOf Z O n d) v → Wk p e below Fe T' (mkF m pc' Ls S)) : Wk p e below Fe T (mkF m pc Ls (v :: .ref a :: S)) := by
  subst hp
  obtain ⟨T', h', X', e', W', st⟩ := putF X hx hZ hown w via eT F E L wi hty hn hf (g := mkF m pc Ls (v :: .ref a :: S)) rfl rfl hd
  exact (k T' h' X' e' W').step st
theorem w_new (X : Stand p l e R s m args below meth c T locs cells slots) (hx : p.tables.exec = Jvm.exec) (hZ : Z.Warmed39 s.vm) {own C : String} {index n : Nat} (hown : s.vm.findClass own = some m.cls) (eT : T.heap = h) (w : (Cond.classLink own index C).before a0 Z = true) (wi : (Cond.instantiable C n).before a0 Z = true) (wz : (Cond.initialized C).before a0 Z = true)
    (hc : cells + 1 ≤ R.cells) (hl : slots + n ≤ R.slots) (hd : decode c.code pc = .ok (.new index, 3)) (pc' : Nat) (hp : pc + 3 = pc')
    (k : ∀ (T' : State) (h' : Heap) (a : Addr), Stand p l e R s m args below meth c T' locs (cells + 1) (slots + n) → T'.heap = h' → a = h.size → Ext h h' → Exa Z h' a C → (∀ {O nm d : String} {ty : FieldType}, Laid Z a0 C O nm d → parseFieldDescriptor d = some ty → Fld Z h' a O nm d (defaultValue ty)) → Wk p e below Fe T' (mkF m pc' Ls (.ref a :: S))) : Wk p e below Fe T (mkF m pc Ls S) := by
  subst hp
  obtain ⟨T', h', X', e', E', A', D', -, st⟩ := newO X hx hZ hown w wi wz eT (g := mkF m pc Ls S) rfl hd hc hl
  exact (k T' h' _ X' e' rfl E' A' D').step st
theorem w_newP (X : Stand p l e R s m args below meth c T locs cells slots) (hx : p.tables.exec = Jvm.exec) (hZ : Z.Warmed39 s.vm) (eT : T.heap = h) {aty : ArrayType} (w : (Cond.arrayClass (newarray.typeOf aty)).before a0 Z = true) {n : Int32} (hn : ¬ n < 0) (cap : Nat) (hcap : n.toNatClampNeg ≤ cap) (hb : cap * 8 ≤ 536870912) (hc : cells + 1 ≤ R.cells) (hl : slots + cap ≤ R.slots) (hd : decode c.code pc = .ok (.newarray aty, 2)) (pc' : Nat) (hp : pc + 2 = pc')
    (k : ∀ (T' : State) (h' : Heap) (a : Addr) (cA : ClassId), Stand p l e R s m args below meth c T' locs (cells + 1) (slots + cap) → T'.heap = h' → a = h.size → Ext h h' → Arv Z h' a cA (newarray.typeOf aty) n [] (defaultValue (newarray.typeOf aty)) → Wk p e below Fe T' (mkF m pc' Ls (.ref a :: S))) : Wk p e below Fe T (mkF m pc Ls (.int n :: S)) := by
  subst hp
  obtain ⟨T', h', cA, X', e', E', A', st⟩ := newP X hx hZ w eT (g := mkF m pc Ls (.int n :: S)) rfl hd rfl hn hcap hb hc hl
  exact (k T' h' _ cA X' e' rfl E' (Arv.new A' hn)).step st
theorem w_iastore (X : Stand p l e R s m args below meth c T locs cells slots) (hx : p.tables.exec = Jvm.exec) (hZ : Z.Warmed39 s.vm) (eT : T.heap = h) {a : Addr} {kA : ClassId} {z : Int32} {vs : List Value} {dv : Value} (A : Arv Z h a kA .int z vs dv) {j x : Int32} (hj : 0 ≤ j.toInt ∧ j.toInt < z.toInt) (i : Nat) (hi : j.toNatClampNeg = i) (hv : i < vs.length) (hd : decode c.code pc = .ok (.iastore, 1)) (pc' : Nat) (hp : pc + 1 = pc')
    (k : ∀ (T' : State) (h' : Heap), Stand p l e R s m args below meth c T' (locs ++ [⟨a, j.toNatClampNeg⟩]) cells slots → T'.heap = h' → Wr h h' a j.toNatClampNeg (.int x) → Arv Z h' a kA .int z (vs.set i (.int x)) dv → Wk p e below Fe T' (mkF m pc' Ls S)) : Wk p e below Fe T (mkF m pc Ls (.int x :: .int j :: .ref a :: S)) := by
  subst hp
  obtain ⟨cl, Ar, q, Sz, Nz, H, G⟩ := A
  have hin : ¬ (j < 0 ∨ cl.slots.size ≤ j.toNatClampNeg) := inb_of Sz ⟨fun r => by have := Int32.lt_iff_toInt_lt.mp r; have h0 : (0 : Int32).toInt = 0 := rfl; omega, Int32.lt_iff_toInt_lt.mpr hj.2⟩
  obtain ⟨T', h', X', e', W', st⟩ := stI X hx hZ eT Ar hin (g := mkF m pc Ls (.int x :: .int j :: .ref a :: S)) rfl rfl hd
  exact (k T' h' X' e' W' (Arv.set Ar q Sz Nz H G rfl W' i hi hv)).step st
theorem w_iaload (X : Stand p l e R s m args below meth c T locs cells slots) (hx : p.tables.exec = Jvm.exec) (hZ : Z.Warmed39 s.vm) (eT : T.heap = h) {a : Addr} {kA : ClassId} {z : Int32} {vs : List Value} {dv : Value} (A : Arv Z h a kA .int z vs dv) {j : Int32} (hj : 0 ≤ j.toInt ∧ j.toInt < z.toInt) {v : Value} (hv : vs.getD j.toNatClampNeg dv = v) (hd : decode c.code pc = .ok (.iaload, 1)) (pc' : Nat) (hp : pc + 1 = pc')
    (k : Wk p e below Fe T (mkF m pc' Ls (v :: S))) : Wk p e below Fe T (mkF m pc Ls (.int j :: .ref a :: S)) := by
  subst hp
  obtain ⟨cl, Ar, q, Sz, Nz, H, G⟩ := A
  have hin : ¬ (j < 0 ∨ cl.slots.size ≤ j.toNatClampNeg) := inb_of Sz ⟨fun r => by have := Int32.lt_iff_toInt_lt.mp r; have h0 : (0 : Int32).toInt = 0 := rfl; omega, Int32.lt_iff_toInt_lt.mpr hj.2⟩
  exact k.step fun t r => X.iaload hx (by rw [eT]; exact Ar.1) (State.isArrayOf_alike hZ.alike Ar.2.1) Ar.2.2 hin (Has.at H hin hv) (g := mkF m pc Ls (.int j :: .ref a :: S)) rfl rfl hd t r
theorem w_newR (X : Stand p l e R s m args below meth c T locs cells slots) (hx : p.tables.exec = Jvm.exec) (hZ : Z.Warmed39 s.vm) {own C : String} {index : Nat} (hown : s.vm.findClass own = some m.cls) (eT : T.heap = h) (w1 : (Cond.classLink own index C).before a0 Z = true) (w2 : (Cond.arrayOver (.object C)).before a0 Z = true) {n : Int32} (hn : ¬ n < 0) (cap : Nat) (hcap : n.toNatClampNeg ≤ cap) (hb : cap * 8 ≤ 536870912) (hc : cells + 1 ≤ R.cells) (hl : slots + cap ≤ R.slots) (hd : decode c.code pc = .ok (.anewarray index, 3)) (pc' : Nat) (hp : pc + 3 = pc')
    (k : ∀ (T' : State) (h' : Heap) (a : Addr) (cA : ClassId), Stand p l e R s m args below meth c T' locs (cells + 1) (slots + cap) → T'.heap = h' → a = h.size → Ext h h' → Arv Z h' a cA (.object C) n [] .null → Ovr Z cA C → Wk p e below Fe T' (mkF m pc' Ls (.ref a :: S))) : Wk p e below Fe T (mkF m pc Ls (.int n :: S)) := by
  subst hp
  obtain ⟨T', h', cA, X', e', E', A', O', st⟩ := newR X hx hZ hown w1 w2 eT (g := mkF m pc Ls (.int n :: S)) rfl hd rfl hn hcap hb hc hl
  exact (k T' h' _ cA X' e' rfl E' (Arv.new A' hn) O').step st
theorem w_aastore (X : Stand p l e R s m args below meth c T locs cells slots) (hx : p.tables.exec = Jvm.exec) (hZ : Z.Warmed39 s.vm) (eT : T.heap = h) {a : Addr} {kA : ClassId} {C : String} {z : Int32} {vs : List Value} {dv : Value} (A : Arv Z h a kA (.object C) z vs dv) {j : Int32} {v : Value} (hj : 0 ≤ j.toInt ∧ j.toInt < z.toInt) (i : Nat) (hi : j.toNatClampNeg = i) (hv : i < vs.length) (hr : v.isRef = true) (F : v = .null ∨ ∃ y, v = .ref y ∧ Ovr Z kA C ∧ Ins Z h y C true) (hd : decode c.code pc = .ok (.aastore, 1)) (pc' : Nat) (hp : pc + 1 = pc')
    (k : ∀ (T' : State) (h' : Heap), Stand p l e R s m args below meth c T' (locs ++ [⟨a, j.toNatClampNeg⟩]) cells slots → T'.heap = h' → Wr h h' a j.toNatClampNeg v → Arv Z h' a kA (.object C) z (vs.set i v) dv → Wk p e below Fe T' (mkF m pc' Ls S)) : Wk p e below Fe T (mkF m pc Ls (v :: .int j :: .ref a :: S)) := by
  subst hp
  obtain ⟨cl, Ar, q, Sz, Nz, H, G⟩ := A
  have hin : ¬ (j < 0 ∨ cl.slots.size ≤ j.toNatClampNeg) := inb_of Sz ⟨fun r => by have := Int32.lt_iff_toInt_lt.mp r; have h0 : (0 : Int32).toInt = 0 := rfl; omega, Int32.lt_iff_toInt_lt.mpr hj.2⟩
  have Fs : Sto Z h a v := by
    rcases F with rfl | ⟨y, rfl, O, I⟩
    · exact Or.inl rfl
    · exact Sto.ofV Ar q O I
  obtain ⟨T', h', X', e', W', st⟩ := stR X hx hZ eT Ar hin rfl Fs (g := mkF m pc Ls (v :: .int j :: .ref a :: S)) rfl rfl hd
  exact (k T' h' X' e' W' (Arv.set Ar q Sz Nz H G (by rcases F with rfl | ⟨y, rfl, -⟩ <;> rfl) W' i hi hv)).step st
theorem w_aaload (X : Stand p l e R s m args below meth c T locs cells slots) (hx : p.tables.exec = Jvm.exec) (hZ : Z.Warmed39 s.vm) (eT : T.heap = h) {a : Addr} {kA : ClassId} {C : String} {z : Int32} {vs : List Value} {dv : Value} (A : Arv Z h a kA (.object C) z vs dv) {j : Int32} (hj : 0 ≤ j.toInt ∧ j.toInt < z.toInt) {v : Value} (hv : vs.getD j.toNatClampNeg dv = v) (hd : decode c.code pc = .ok (.aaload, 1)) (pc' : Nat) (hp : pc + 1 = pc')
    (k : Wk p e below Fe T (mkF m pc' Ls (v :: S))) : Wk p e below Fe T (mkF m pc Ls (.int j :: .ref a :: S)) := by
  subst hp
  obtain ⟨cl, Ar, q, Sz, Nz, H, G⟩ := A
  have hin : ¬ (j < 0 ∨ cl.slots.size ≤ j.toNatClampNeg) := inb_of Sz ⟨fun r => by have := Int32.lt_iff_toInt_lt.mp r; have h0 : (0 : Int32).toInt = 0 := rfl; omega, Int32.lt_iff_toInt_lt.mpr hj.2⟩
  exact k.step fun t r => X.aaload hx (by rw [eT]; exact Ar.1) (State.isArrayOf_alike hZ.alike Ar.2.1) rfl Ar.2.2 hin (Has.at H hin hv) (g := mkF m pc Ls (.int j :: .ref a :: S)) rfl rfl hd t r
abbrev CT (l : Launch) (y : MethodName) (bytes : ByteArray) (maxL : Nat) (ret : Option FieldType) (ws : List Cond) (rm : Room) (as' : Array Value) (Z : State) (h0 : Heap) (Q : Option Value → Heap → List Loc → Prop) : Prop :=
  MetFree l y (head1 (Cond.code y bytes maxL ret :: ws) rm) (fun a U => a = as' ∧ Z.Warmed39 U.vm ∧ U.heap = h0) (fun _ _ _ _ _ => True) (fun _ U o U' => ∃ v L, o = .returned v ∧ Q v U'.heap L ∧ FrameEnd U o U' L rm.cells rm.slots)
theorem body_of {y : MethodName} {bytes : ByteArray} {maxL : Nat} {ret : Option FieldType} {ws : List Cond} {rm : Room} {as' : Array Value} {h0 : Heap} (hpl : plainFor y = true)
    (k : ∀ (p : Program) (e : Env) (s : State) (m : MethodId) (below : List Frame) (meth : Method) (c : Code) (s₁ : State), p.tables.exec = Jvm.exec → (∀ {pc : Nat} {r : Except DecodeError (Instr × Nat)}, decode bytes pc = r → decode c.code pc = r) → meth.sig.returnType = ret → meth.locks = false → c.maxLocals = maxL → s.vm.findClass y.cls = some m.cls → meth.name = y.name → Stand p l e rm s m as' below meth c s₁ [] 0 0 → s₁.heap = h0 → Z.Warmed39 s.vm → Wk p e below (FN s Q kc ks) s₁ (entryFrame m as' maxL)) :
    MetFree l y (head1 (Cond.code y bytes maxL ret :: ws) rm) (fun a U => a = as' ∧ Z.Warmed39 U.vm ∧ U.heap = h0) (fun _ _ _ _ _ => True) (fun _ U o U' => ∃ v L, o = .returned v ∧ Q v U'.heap L ∧ FrameEnd U o U' L kc ks) := by
  refine MetFree.of_bodySF hpl hisR ?_
  intro p e s m args below meth c s₁ Bd hml0 hP hK
  obtain ⟨rfl, hZ, hh⟩ := hP
  obtain ⟨s₂, o, h1, h2⟩ := k p e s m below meth c s₁ Bd.exec (fun q => hb Bd.bytes q) Bd.returns Bd.notSynchronized hml0 (findClass_of_methodNamed Bd.named) (name_of_methodNamed Bd.named Bd.method).1 (Stand.of_body Bd) (by rw [← hh, Bd.state]; rfl) hZ
  exact ⟨s₂, o, h1, h2⟩
theorem ne_arv {a b : Addr} {C : String} {k : Nat} {kA : ClassId} {ty : FieldType} {z : Int32} {vs : List Value} {dv : Value} (F : Exa Z h a C) (wi : (Cond.instantiable C k).before a0 Z = true) (G : Arv Z h b kA ty z vs dv) : a ≠ b := by
  obtain ⟨c, A, -⟩ := G; exact ne_arr F wi A
end Walk
/-! plain facts on Int32 and Int64, in Ints -/
theorem eqI {x y : Int32} (h : x.toInt = y.toInt) : x = y := Int32.toInt_inj.mp h
theorem maskX {x m : Int32} {A : Int} (k : Nat) (ha : x.toInt = A) (hk : k ≤ 31) (hm : m.toBitVec.toNat = 2 ^ k - 1) : (x &&& m).toInt = A % (2 ^ k : Nat) := by subst ha; exact c_mask x m k hk hm
theorem iremX {x y : Int32} {A d : Int} (ha : x.toInt = A) (hy : y.toInt = d) (h0 : 0 ≤ A) : (x % y).toInt = A % d := by subst ha; exact (c_irem x y d hy).1 h0
theorem i2lX {x : Int32} {A : Int} (ha : x.toInt = A) : x.toInt64.toInt = A := by subst ha; exact c_i2l x
end Jvm.Own
namespace Jvm.Pilot.@@N@@
open Jvm Jvm.ClassFile Sem Op Lib Jvm.Free Jvm.Stand Jvm.LawKit Jvm.RoadKit Bundle Jvm.Own Jvm.Pilot.@@N@@.Jvm.D
abbrev cN_0 : String := "java/lang/Record"
abbrev cN_1 : String := "com/example/simpagation/simpagation/Term$Int"
abbrev cN_2 : String := "com/example/simpagation/simpagation/Bindings"
abbrev cN_3 : String := "[Lcom/example/simpagation/simpagation/Term;"
abbrev cN_4 : String := "com/example/simpagation/simpagation/Term"
abbrev cN_5 : String := "java/lang/Math"
abbrev cN_6 : String := "com/example/simpagation/simpagation/BindingsUndoPinLaw"
theorem tw_0 {Z : State} {a0 : Array Value} (hw : ∀ d ∈ tables_1, d.before a0 Z = true) : (Jvm.Cond.constant "com/example/simpagation/simpagation/BindingsUndoPinLaw" (7 : Nat) (2147483647 : Int32)).before a0 Z = true := hw _ (List.mem_of_getElem? (i := 0) rfl)
theorem tw_1 {Z : State} {a0 : Array Value} (hw : ∀ d ∈ tables_1, d.before a0 Z = true) : (Jvm.Cond.classLink "com/example/simpagation/simpagation/BindingsUndoPinLaw" (8 : Nat) "com/example/simpagation/simpagation/Term$Int").before a0 Z = true := hw _ (List.mem_of_getElem? (i := 1) rfl)
theorem tw_2 {Z : State} {a0 : Array Value} (hw : ∀ d ∈ tables_1, d.before a0 Z = true) : (Jvm.Cond.instantiable "com/example/simpagation/simpagation/Term$Int" (1 : Nat)).before a0 Z = true := hw _ (List.mem_of_getElem? (i := 2) rfl)
theorem tw_3 {Z : State} {a0 : Array Value} (hw : ∀ d ∈ tables_1, d.before a0 Z = true) : (Jvm.Cond.initialized "com/example/simpagation/simpagation/Term$Int").before a0 Z = true := hw _ (List.mem_of_getElem? (i := 3) rfl)
theorem tw_4 {Z : State} {a0 : Array Value} (hw : ∀ d ∈ tables_1, d.before a0 Z = true) : (Jvm.Cond.methodLink "com/example/simpagation/simpagation/BindingsUndoPinLaw" (10 : Nat) ({ cls := "com/example/simpagation/simpagation/Term$Int", name := "<init>", desc := "(J)V" } : Jvm.MethodName)).before a0 Z = true := hw _ (List.mem_of_getElem? (i := 4) rfl)
theorem tw_5 {Z : State} {a0 : Array Value} (hw : ∀ d ∈ tables_1, d.before a0 Z = true) : (Jvm.Cond.instanceMethod ({ cls := "com/example/simpagation/simpagation/Term$Int", name := "<init>", desc := "(J)V" } : Jvm.MethodName)).before a0 Z = true := hw _ (List.mem_of_getElem? (i := 5) rfl)
theorem tw_6 {Z : State} {a0 : Array Value} (hw : ∀ d ∈ tables_1, d.before a0 Z = true) : (Jvm.Cond.code ({ cls := "com/example/simpagation/simpagation/Term$Int", name := "<init>", desc := "(J)V" } : Jvm.MethodName) prog_60_method_1_code (3 : Nat) (Option.none : Option Jvm.ClassFile.FieldType)).before a0 Z = true := hw _ (List.mem_of_getElem? (i := 6) rfl)
theorem tw_7 {Z : State} {a0 : Array Value} (hw : ∀ d ∈ tables_1, d.before a0 Z = true) : (Jvm.Cond.methodLink "com/example/simpagation/simpagation/Term$Int" (1 : Nat) ({ cls := "java/lang/Record", name := "<init>", desc := "()V" } : Jvm.MethodName)).before a0 Z = true := hw _ (List.mem_of_getElem? (i := 7) rfl)
theorem tw_8 {Z : State} {a0 : Array Value} (hw : ∀ d ∈ tables_1, d.before a0 Z = true) : (Jvm.Cond.instanceMethod ({ cls := "java/lang/Record", name := "<init>", desc := "()V" } : Jvm.MethodName)).before a0 Z = true := hw _ (List.mem_of_getElem? (i := 8) rfl)
theorem tw_10 {Z : State} {a0 : Array Value} (hw : ∀ d ∈ tables_1, d.before a0 Z = true) : (Jvm.Cond.initialized "java/lang/Record").before a0 Z = true := hw _ (List.mem_of_getElem? (i := 10) rfl)
theorem tw_11 {Z : State} {a0 : Array Value} (hw : ∀ d ∈ tables_1, d.before a0 Z = true) : (Jvm.Cond.code ({ cls := "java/lang/Record", name := "<init>", desc := "()V" } : Jvm.MethodName) jdk_30_method_1_code (1 : Nat) (Option.none : Option Jvm.ClassFile.FieldType)).before a0 Z = true := hw _ (List.mem_of_getElem? (i := 11) rfl)
theorem tw_12 {Z : State} {a0 : Array Value} (hw : ∀ d ∈ tables_1, d.before a0 Z = true) : (Jvm.Cond.methodLink "java/lang/Record" (1 : Nat) ({ cls := "java/lang/Object", name := "<init>", desc := "()V" } : Jvm.MethodName)).before a0 Z = true := hw _ (List.mem_of_getElem? (i := 12) rfl)
theorem tw_13 {Z : State} {a0 : Array Value} (hw : ∀ d ∈ tables_1, d.before a0 Z = true) : (Jvm.Cond.instanceMethod ({ cls := "java/lang/Object", name := "<init>", desc := "()V" } : Jvm.MethodName)).before a0 Z = true := hw _ (List.mem_of_getElem? (i := 13) rfl)
theorem tw_14 {Z : State} {a0 : Array Value} (hw : ∀ d ∈ tables_1, d.before a0 Z = true) : (Jvm.Cond.code ({ cls := "java/lang/Object", name := "<init>", desc := "()V" } : Jvm.MethodName) object_method_1_code (1 : Nat) (Option.none : Option Jvm.ClassFile.FieldType)).before a0 Z = true := hw _ (List.mem_of_getElem? (i := 14) rfl)
theorem tw_15 {Z : State} {a0 : Array Value} (hw : ∀ d ∈ tables_1, d.before a0 Z = true) : (Jvm.Cond.fieldLink "com/example/simpagation/simpagation/Term$Int" (7 : Nat) "com/example/simpagation/simpagation/Term$Int" "value" "J").before a0 Z = true := hw _ (List.mem_of_getElem? (i := 15) rfl)
theorem tw_16 {Z : State} {a0 : Array Value} (hw : ∀ d ∈ tables_1, d.before a0 Z = true) : (Jvm.Cond.laysFinal "com/example/simpagation/simpagation/Term$Int" "com/example/simpagation/simpagation/Term$Int" "value" "J").before a0 Z = true := hw _ (List.mem_of_getElem? (i := 16) rfl)
theorem tw_17 {Z : State} {a0 : Array Value} (hw : ∀ d ∈ tables_1, d.before a0 Z = true) : (Jvm.Cond.classLink "com/example/simpagation/simpagation/BindingsUndoPinLaw" (13 : Nat) "com/example/simpagation/simpagation/Bindings").before a0 Z = true := hw _ (List.mem_of_getElem? (i := 17) rfl)
theorem tw_18 {Z : State} {a0 : Array Value} (hw : ∀ d ∈ tables_1, d.before a0 Z = true) : (Jvm.Cond.instantiable "com/example/simpagation/simpagation/Bindings" (3 : Nat)).before a0 Z = true := hw _ (List.mem_of_getElem? (i := 18) rfl)
theorem tw_19 {Z : State} {a0 : Array Value} (hw : ∀ d ∈ tables_1, d.before a0 Z = true) : (Jvm.Cond.initialized "com/example/simpagation/simpagation/Bindings").before a0 Z = true := hw _ (List.mem_of_getElem? (i := 19) rfl)
theorem tw_20 {Z : State} {a0 : Array Value} (hw : ∀ d ∈ tables_1, d.before a0 Z = true) : (Jvm.Cond.methodLink "com/example/simpagation/simpagation/BindingsUndoPinLaw" (15 : Nat) ({ cls := "com/example/simpagation/simpagation/Bindings", name := "<init>", desc := "(I)V" } : Jvm.MethodName)).before a0 Z = true := hw _ (List.mem_of_getElem? (i := 20) rfl)
theorem tw_21 {Z : State} {a0 : Array Value} (hw : ∀ d ∈ tables_1, d.before a0 Z = true) : (Jvm.Cond.instanceMethod ({ cls := "com/example/simpagation/simpagation/Bindings", name := "<init>", desc := "(I)V" } : Jvm.MethodName)).before a0 Z = true := hw _ (List.mem_of_getElem? (i := 21) rfl)
theorem tw_22 {Z : State} {a0 : Array Value} (hw : ∀ d ∈ tables_1, d.before a0 Z = true) : (Jvm.Cond.code ({ cls := "com/example/simpagation/simpagation/Bindings", name := "<init>", desc := "(I)V" } : Jvm.MethodName) prog_1_method_1_code (2 : Nat) (Option.none : Option Jvm.ClassFile.FieldType)).before a0 Z = true := hw _ (List.mem_of_getElem? (i := 22) rfl)
theorem tw_23 {Z : State} {a0 : Array Value} (hw : ∀ d ∈ tables_1, d.before a0 Z = true) : (Jvm.Cond.methodLink "com/example/simpagation/simpagation/Bindings" (1 : Nat) ({ cls := "java/lang/Object", name := "<init>", desc := "()V" } : Jvm.MethodName)).before a0 Z = true := hw _ (List.mem_of_getElem? (i := 23) rfl)
theorem tw_24 {Z : State} {a0 : Array Value} (hw : ∀ d ∈ tables_1, d.before a0 Z = true) : (Jvm.Cond.classLink "com/example/simpagation/simpagation/Bindings" (7 : Nat) "com/example/simpagation/simpagation/Term").before a0 Z = true := hw _ (List.mem_of_getElem? (i := 24) rfl)
theorem tw_25 {Z : State} {a0 : Array Value} (hw : ∀ d ∈ tables_1, d.before a0 Z = true) : (Jvm.Cond.arrayOver (Jvm.ClassFile.FieldType.object "com/example/simpagation/simpagation/Term")).before a0 Z = true := hw _ (List.mem_of_getElem? (i := 25) rfl)
theorem tw_26 {Z : State} {a0 : Array Value} (hw : ∀ d ∈ tables_1, d.before a0 Z = true) : (Jvm.Cond.fieldLink "com/example/simpagation/simpagation/Bindings" (9 : Nat) "com/example/simpagation/simpagation/Bindings" "values" "[Lcom/example/simpagation/simpagation/Term;").before a0 Z = true := hw _ (List.mem_of_getElem? (i := 26) rfl)
theorem tw_27 {Z : State} {a0 : Array Value} (hw : ∀ d ∈ tables_1, d.before a0 Z = true) : (Jvm.Cond.laysFinal "com/example/simpagation/simpagation/Bindings" "com/example/simpagation/simpagation/Bindings" "values" "[Lcom/example/simpagation/simpagation/Term;").before a0 Z = true := hw _ (List.mem_of_getElem? (i := 27) rfl)
theorem tw_28 {Z : State} {a0 : Array Value} (hw : ∀ d ∈ tables_1, d.before a0 Z = true) : (Jvm.Cond.arrayClass Jvm.ClassFile.FieldType.int).before a0 Z = true := hw _ (List.mem_of_getElem? (i := 28) rfl)
theorem tw_29 {Z : State} {a0 : Array Value} (hw : ∀ d ∈ tables_1, d.before a0 Z = true) : (Jvm.Cond.fieldLink "com/example/simpagation/simpagation/Bindings" (15 : Nat) "com/example/simpagation/simpagation/Bindings" "trail" "[I").before a0 Z = true := hw _ (List.mem_of_getElem? (i := 29) rfl)
theorem tw_30 {Z : State} {a0 : Array Value} (hw : ∀ d ∈ tables_1, d.before a0 Z = true) : (Jvm.Cond.laysFinal "com/example/simpagation/simpagation/Bindings" "com/example/simpagation/simpagation/Bindings" "trail" "[I").before a0 Z = true := hw _ (List.mem_of_getElem? (i := 30) rfl)
theorem tw_31 {Z : State} {a0 : Array Value} (hw : ∀ d ∈ tables_1, d.before a0 Z = true) : (Jvm.Cond.methodLink "com/example/simpagation/simpagation/BindingsUndoPinLaw" (18 : Nat) ({ cls := "com/example/simpagation/simpagation/Bindings", name := "bind", desc := "(ILcom/example/simpagation/simpagation/Term;)V" } : Jvm.MethodName)).before a0 Z = true := hw _ (List.mem_of_getElem? (i := 31) rfl)
theorem tw_32 {Z : State} {a0 : Array Value} (hw : ∀ d ∈ tables_1, d.before a0 Z = true) : (Jvm.Cond.declares ({ cls := "com/example/simpagation/simpagation/Bindings", name := "bind", desc := "(ILcom/example/simpagation/simpagation/Term;)V" } : Jvm.MethodName)).before a0 Z = true := hw _ (List.mem_of_getElem? (i := 32) rfl)
theorem tw_33 {Z : State} {a0 : Array Value} (hw : ∀ d ∈ tables_1, d.before a0 Z = true) : (Jvm.Cond.instanceMethod ({ cls := "com/example/simpagation/simpagation/Bindings", name := "bind", desc := "(ILcom/example/simpagation/simpagation/Term;)V" } : Jvm.MethodName)).before a0 Z = true := hw _ (List.mem_of_getElem? (i := 33) rfl)
theorem tw_34 {Z : State} {a0 : Array Value} (hw : ∀ d ∈ tables_1, d.before a0 Z = true) : (Jvm.Cond.selects "com/example/simpagation/simpagation/Bindings" ({ cls := "com/example/simpagation/simpagation/Bindings", name := "bind", desc := "(ILcom/example/simpagation/simpagation/Term;)V" } : Jvm.MethodName) ({ cls := "com/example/simpagation/simpagation/Bindings", name := "bind", desc := "(ILcom/example/simpagation/simpagation/Term;)V" } : Jvm.MethodName)).before a0 Z = true := hw _ (List.mem_of_getElem? (i := 34) rfl)
theorem tw_35 {Z : State} {a0 : Array Value} (hw : ∀ d ∈ tables_1, d.before a0 Z = true) : (Jvm.Cond.code ({ cls := "com/example/simpagation/simpagation/Bindings", name := "bind", desc := "(ILcom/example/simpagation/simpagation/Term;)V" } : Jvm.MethodName) prog_1_method_5_code (3 : Nat) (Option.none : Option Jvm.ClassFile.FieldType)).before a0 Z = true := hw _ (List.mem_of_getElem? (i := 35) rfl)
theorem tw_36 {Z : State} {a0 : Array Value} (hw : ∀ d ∈ tables_1, d.before a0 Z = true) : (Jvm.Cond.fieldLink "com/example/simpagation/simpagation/Bindings" (42 : Nat) "com/example/simpagation/simpagation/Bindings" "trailSize" "I").before a0 Z = true := hw _ (List.mem_of_getElem? (i := 36) rfl)
theorem tw_37 {Z : State} {a0 : Array Value} (hw : ∀ d ∈ tables_1, d.before a0 Z = true) : (Jvm.Cond.lays "com/example/simpagation/simpagation/Bindings" "com/example/simpagation/simpagation/Bindings" "trailSize" "I").before a0 Z = true := hw _ (List.mem_of_getElem? (i := 37) rfl)
theorem tw_38 {Z : State} {a0 : Array Value} (hw : ∀ d ∈ tables_1, d.before a0 Z = true) : (Jvm.Cond.castable "com/example/simpagation/simpagation/Term$Int" "com/example/simpagation/simpagation/Term").before a0 Z = true := hw _ (List.mem_of_getElem? (i := 38) rfl)
theorem tw_39 {Z : State} {a0 : Array Value} (hw : ∀ d ∈ tables_1, d.before a0 Z = true) : (Jvm.Cond.methodLink "com/example/simpagation/simpagation/BindingsUndoPinLaw" (22 : Nat) ({ cls := "com/example/simpagation/simpagation/Bindings", name := "undo", desc := "(I)V" } : Jvm.MethodName)).before a0 Z = true := hw _ (List.mem_of_getElem? (i := 39) rfl)
theorem tw_40 {Z : State} {a0 : Array Value} (hw : ∀ d ∈ tables_1, d.before a0 Z = true) : (Jvm.Cond.declares ({ cls := "com/example/simpagation/simpagation/Bindings", name := "undo", desc := "(I)V" } : Jvm.MethodName)).before a0 Z = true := hw _ (List.mem_of_getElem? (i := 40) rfl)
theorem tw_41 {Z : State} {a0 : Array Value} (hw : ∀ d ∈ tables_1, d.before a0 Z = true) : (Jvm.Cond.instanceMethod ({ cls := "com/example/simpagation/simpagation/Bindings", name := "undo", desc := "(I)V" } : Jvm.MethodName)).before a0 Z = true := hw _ (List.mem_of_getElem? (i := 41) rfl)
theorem tw_42 {Z : State} {a0 : Array Value} (hw : ∀ d ∈ tables_1, d.before a0 Z = true) : (Jvm.Cond.selects "com/example/simpagation/simpagation/Bindings" ({ cls := "com/example/simpagation/simpagation/Bindings", name := "undo", desc := "(I)V" } : Jvm.MethodName) ({ cls := "com/example/simpagation/simpagation/Bindings", name := "undo", desc := "(I)V" } : Jvm.MethodName)).before a0 Z = true := hw _ (List.mem_of_getElem? (i := 42) rfl)
theorem tw_43 {Z : State} {a0 : Array Value} (hw : ∀ d ∈ tables_1, d.before a0 Z = true) : (Jvm.Cond.code ({ cls := "com/example/simpagation/simpagation/Bindings", name := "undo", desc := "(I)V" } : Jvm.MethodName) prog_1_method_7_code (2 : Nat) (Option.none : Option Jvm.ClassFile.FieldType)).before a0 Z = true := hw _ (List.mem_of_getElem? (i := 43) rfl)
theorem tw_44 {Z : State} {a0 : Array Value} (hw : ∀ d ∈ tables_1, d.before a0 Z = true) : (Jvm.Cond.methodLink "com/example/simpagation/simpagation/BindingsUndoPinLaw" (25 : Nat) ({ cls := "java/lang/Math", name := "min", desc := "(II)I" } : Jvm.MethodName)).before a0 Z = true := hw _ (List.mem_of_getElem? (i := 44) rfl)
theorem tw_45 {Z : State} {a0 : Array Value} (hw : ∀ d ∈ tables_1, d.before a0 Z = true) : (Jvm.Cond.static ({ cls := "java/lang/Math", name := "min", desc := "(II)I" } : Jvm.MethodName)).before a0 Z = true := hw _ (List.mem_of_getElem? (i := 45) rfl)
theorem tw_46 {Z : State} {a0 : Array Value} (hw : ∀ d ∈ tables_1, d.before a0 Z = true) : (Jvm.Cond.initialized "java/lang/Math").before a0 Z = true := hw _ (List.mem_of_getElem? (i := 46) rfl)
theorem tw_47 {Z : State} {a0 : Array Value} (hw : ∀ d ∈ tables_1, d.before a0 Z = true) : (Jvm.Cond.code ({ cls := "java/lang/Math", name := "min", desc := "(II)I" } : Jvm.MethodName) jdk_29_method_69_code (2 : Nat) (Option.some Jvm.ClassFile.FieldType.int)).before a0 Z = true := hw _ (List.mem_of_getElem? (i := 47) rfl)
theorem tw_48 {Z : State} {a0 : Array Value} (hw : ∀ d ∈ tables_1, d.before a0 Z = true) : (Jvm.Cond.methodLink "com/example/simpagation/simpagation/BindingsUndoPinLaw" (31 : Nat) ({ cls := "com/example/simpagation/simpagation/Bindings", name := "mark", desc := "()I" } : Jvm.MethodName)).before a0 Z = true := hw _ (List.mem_of_getElem? (i := 48) rfl)
theorem tw_49 {Z : State} {a0 : Array Value} (hw : ∀ d ∈ tables_1, d.before a0 Z = true) : (Jvm.Cond.declares ({ cls := "com/example/simpagation/simpagation/Bindings", name := "mark", desc := "()I" } : Jvm.MethodName)).before a0 Z = true := hw _ (List.mem_of_getElem? (i := 49) rfl)
theorem tw_50 {Z : State} {a0 : Array Value} (hw : ∀ d ∈ tables_1, d.before a0 Z = true) : (Jvm.Cond.instanceMethod ({ cls := "com/example/simpagation/simpagation/Bindings", name := "mark", desc := "()I" } : Jvm.MethodName)).before a0 Z = true := hw _ (List.mem_of_getElem? (i := 50) rfl)
theorem tw_51 {Z : State} {a0 : Array Value} (hw : ∀ d ∈ tables_1, d.before a0 Z = true) : (Jvm.Cond.selects "com/example/simpagation/simpagation/Bindings" ({ cls := "com/example/simpagation/simpagation/Bindings", name := "mark", desc := "()I" } : Jvm.MethodName) ({ cls := "com/example/simpagation/simpagation/Bindings", name := "mark", desc := "()I" } : Jvm.MethodName)).before a0 Z = true := hw _ (List.mem_of_getElem? (i := 51) rfl)
theorem tw_52 {Z : State} {a0 : Array Value} (hw : ∀ d ∈ tables_1, d.before a0 Z = true) : (Jvm.Cond.code ({ cls := "com/example/simpagation/simpagation/Bindings", name := "mark", desc := "()I" } : Jvm.MethodName) prog_1_method_6_code (1 : Nat) (Option.some Jvm.ClassFile.FieldType.int)).before a0 Z = true := hw _ (List.mem_of_getElem? (i := 52) rfl)
theorem tw_53 {Z : State} {a0 : Array Value} (hw : ∀ d ∈ tables_1, d.before a0 Z = true) : (Jvm.Cond.methodLink "com/example/simpagation/simpagation/BindingsUndoPinLaw" (35 : Nat) ({ cls := "com/example/simpagation/simpagation/Bindings", name := "get", desc := "(I)Lcom/example/simpagation/simpagation/Term;" } : Jvm.MethodName)).before a0 Z = true := hw _ (List.mem_of_getElem? (i := 53) rfl)
theorem tw_54 {Z : State} {a0 : Array Value} (hw : ∀ d ∈ tables_1, d.before a0 Z = true) : (Jvm.Cond.declares ({ cls := "com/example/simpagation/simpagation/Bindings", name := "get", desc := "(I)Lcom/example/simpagation/simpagation/Term;" } : Jvm.MethodName)).before a0 Z = true := hw _ (List.mem_of_getElem? (i := 54) rfl)
theorem tw_55 {Z : State} {a0 : Array Value} (hw : ∀ d ∈ tables_1, d.before a0 Z = true) : (Jvm.Cond.instanceMethod ({ cls := "com/example/simpagation/simpagation/Bindings", name := "get", desc := "(I)Lcom/example/simpagation/simpagation/Term;" } : Jvm.MethodName)).before a0 Z = true := hw _ (List.mem_of_getElem? (i := 55) rfl)
theorem tw_56 {Z : State} {a0 : Array Value} (hw : ∀ d ∈ tables_1, d.before a0 Z = true) : (Jvm.Cond.selects "com/example/simpagation/simpagation/Bindings" ({ cls := "com/example/simpagation/simpagation/Bindings", name := "get", desc := "(I)Lcom/example/simpagation/simpagation/Term;" } : Jvm.MethodName) ({ cls := "com/example/simpagation/simpagation/Bindings", name := "get", desc := "(I)Lcom/example/simpagation/simpagation/Term;" } : Jvm.MethodName)).before a0 Z = true := hw _ (List.mem_of_getElem? (i := 56) rfl)
theorem tw_57 {Z : State} {a0 : Array Value} (hw : ∀ d ∈ tables_1, d.before a0 Z = true) : (Jvm.Cond.code ({ cls := "com/example/simpagation/simpagation/Bindings", name := "get", desc := "(I)Lcom/example/simpagation/simpagation/Term;" } : Jvm.MethodName) prog_1_method_2_code (2 : Nat) (Option.some (Jvm.ClassFile.FieldType.object "com/example/simpagation/simpagation/Term"))).before a0 Z = true := hw _ (List.mem_of_getElem? (i := 57) rfl)
theorem d2_0 : decode jdk_30_method_1_code 0 = .ok (.aload_n 0, 1) := by decide +kernel
theorem d2_1 : decode jdk_30_method_1_code 1 = .ok (.invokespecial 1, 3) := by decide +kernel
theorem d2_4 : decode jdk_30_method_1_code 4 = .ok (.return_, 1) := by decide +kernel
theorem pn_0 : plainName "java/lang/Record" = true := by first | (simp [plainName, overriddenIn]; done) | decide +kernel
abbrev mN_2 : MethodName := ⟨"java/lang/Record", "<init>", "()V"⟩
theorem pd_0 : parseMethodDescriptor "()V" = some ⟨[], none⟩ := by decide +kernel
theorem d1_0 : decode prog_60_method_1_code 0 = .ok (.aload_n 0, 1) := by decide +kernel
theorem d1_1 : decode prog_60_method_1_code 1 = .ok (.invokespecial 1, 3) := by decide +kernel
theorem d1_4 : decode prog_60_method_1_code 4 = .ok (.aload_n 0, 1) := by decide +kernel
theorem d1_5 : decode prog_60_method_1_code 5 = .ok (.lload_n 1, 1) := by decide +kernel
theorem d1_6 : decode prog_60_method_1_code 6 = .ok (.putfield 7, 3) := by decide +kernel
theorem d1_9 : decode prog_60_method_1_code 9 = .ok (.return_, 1) := by decide +kernel
theorem pn_1 : plainName "com/example/simpagation/simpagation/Term$Int" = true := by first | (simp [plainName, overriddenIn]; done) | decide +kernel
abbrev mN_1 : MethodName := ⟨"com/example/simpagation/simpagation/Term$Int", "<init>", "(J)V"⟩
theorem d4_0 : decode prog_1_method_1_code 0 = .ok (.aload_n 0, 1) := by decide +kernel
theorem d4_1 : decode prog_1_method_1_code 1 = .ok (.invokespecial 1, 3) := by decide +kernel
theorem d4_4 : decode prog_1_method_1_code 4 = .ok (.aload_n 0, 1) := by decide +kernel
theorem d4_5 : decode prog_1_method_1_code 5 = .ok (.iload_n 1, 1) := by decide +kernel
theorem d4_6 : decode prog_1_method_1_code 6 = .ok (.anewarray 7, 3) := by decide +kernel
theorem d4_9 : decode prog_1_method_1_code 9 = .ok (.putfield 9, 3) := by decide +kernel
theorem d4_12 : decode prog_1_method_1_code 12 = .ok (.aload_n 0, 1) := by decide +kernel
theorem d4_13 : decode prog_1_method_1_code 13 = .ok (.iload_n 1, 1) := by decide +kernel
theorem d4_14 : decode prog_1_method_1_code 14 = .ok (.newarray .int, 2) := by decide +kernel
theorem d4_16 : decode prog_1_method_1_code 16 = .ok (.putfield 15, 3) := by decide +kernel
theorem d4_19 : decode prog_1_method_1_code 19 = .ok (.return_, 1) := by decide +kernel
theorem pn_2 : plainName "com/example/simpagation/simpagation/Bindings" = true := by first | (simp [plainName, overriddenIn]; done) | decide +kernel
abbrev mN_4 : MethodName := ⟨"com/example/simpagation/simpagation/Bindings", "<init>", "(I)V"⟩
theorem d5_0 : decode prog_1_method_5_code 0 = .ok (.aload_n 0, 1) := by decide +kernel
theorem d5_1 : decode prog_1_method_5_code 1 = .ok (.getfield 15, 3) := by decide +kernel
theorem d5_4 : decode prog_1_method_5_code 4 = .ok (.aload_n 0, 1) := by decide +kernel
theorem d5_5 : decode prog_1_method_5_code 5 = .ok (.dup, 1) := by decide +kernel
theorem d5_6 : decode prog_1_method_5_code 6 = .ok (.getfield 42, 3) := by decide +kernel
theorem d5_9 : decode prog_1_method_5_code 9 = .ok (.dup_x1, 1) := by decide +kernel
theorem d5_10 : decode prog_1_method_5_code 10 = .ok (.iconst 1, 1) := by decide +kernel
theorem d5_11 : decode prog_1_method_5_code 11 = .ok (.iadd, 1) := by decide +kernel
theorem d5_12 : decode prog_1_method_5_code 12 = .ok (.putfield 42, 3) := by decide +kernel
theorem d5_15 : decode prog_1_method_5_code 15 = .ok (.iload_n 1, 1) := by decide +kernel
theorem d5_16 : decode prog_1_method_5_code 16 = .ok (.iastore, 1) := by decide +kernel
theorem d5_17 : decode prog_1_method_5_code 17 = .ok (.aload_n 0, 1) := by decide +kernel
theorem d5_18 : decode prog_1_method_5_code 18 = .ok (.getfield 9, 3) := by decide +kernel
theorem d5_21 : decode prog_1_method_5_code 21 = .ok (.iload_n 1, 1) := by decide +kernel
theorem d5_22 : decode prog_1_method_5_code 22 = .ok (.aload_n 2, 1) := by decide +kernel
theorem d5_23 : decode prog_1_method_5_code 23 = .ok (.aastore, 1) := by decide +kernel
theorem d5_24 : decode prog_1_method_5_code 24 = .ok (.return_, 1) := by decide +kernel
abbrev mN_5 : MethodName := ⟨"com/example/simpagation/simpagation/Bindings", "bind", "(ILcom/example/simpagation/simpagation/Term;)V"⟩
theorem d6_0 : decode prog_1_method_7_code 0 = .ok (.aload_n 0, 1) := by decide +kernel
theorem d6_1 : decode prog_1_method_7_code 1 = .ok (.getfield 42, 3) := by decide +kernel
theorem d6_4 : decode prog_1_method_7_code 4 = .ok (.iload_n 1, 1) := by decide +kernel
theorem d6_5 : decode prog_1_method_7_code 5 = .ok (.if_icmp .le 28, 3) := by decide +kernel
theorem d6_33 : decode prog_1_method_7_code 33 = .ok (.return_, 1) := by decide +kernel
abbrev mN_6 : MethodName := ⟨"com/example/simpagation/simpagation/Bindings", "undo", "(I)V"⟩
theorem d6_8 : decode prog_1_method_7_code 8 = .ok (.aload_n 0, 1) := by decide +kernel
theorem d6_9 : decode prog_1_method_7_code 9 = .ok (.getfield 9, 3) := by decide +kernel
theorem d6_12 : decode prog_1_method_7_code 12 = .ok (.aload_n 0, 1) := by decide +kernel
theorem d6_13 : decode prog_1_method_7_code 13 = .ok (.getfield 15, 3) := by decide +kernel
theorem d6_16 : decode prog_1_method_7_code 16 = .ok (.aload_n 0, 1) := by decide +kernel
theorem d6_17 : decode prog_1_method_7_code 17 = .ok (.dup, 1) := by decide +kernel
theorem d6_18 : decode prog_1_method_7_code 18 = .ok (.getfield 42, 3) := by decide +kernel
theorem d6_21 : decode prog_1_method_7_code 21 = .ok (.iconst 1, 1) := by decide +kernel
theorem d6_22 : decode prog_1_method_7_code 22 = .ok (.isub, 1) := by decide +kernel
theorem d6_23 : decode prog_1_method_7_code 23 = .ok (.dup_x1, 1) := by decide +kernel
theorem d6_24 : decode prog_1_method_7_code 24 = .ok (.putfield 42, 3) := by decide +kernel
theorem d6_27 : decode prog_1_method_7_code 27 = .ok (.iaload, 1) := by decide +kernel
theorem d6_28 : decode prog_1_method_7_code 28 = .ok (.aconst_null, 1) := by decide +kernel
theorem d6_29 : decode prog_1_method_7_code 29 = .ok (.aastore, 1) := by decide +kernel
theorem d6_30 : decode prog_1_method_7_code 30 = .ok (.goto (-30), 3) := by decide +kernel
theorem d7_0 : decode jdk_29_method_69_code 0 = .ok (.iload_n 0, 1) := by decide +kernel
theorem d7_1 : decode jdk_29_method_69_code 1 = .ok (.iload_n 1, 1) := by decide +kernel
theorem d7_2 : decode jdk_29_method_69_code 2 = .ok (.if_icmp .gt 7, 3) := by decide +kernel
theorem d7_5 : decode jdk_29_method_69_code 5 = .ok (.iload_n 0, 1) := by decide +kernel
theorem d7_6 : decode jdk_29_method_69_code 6 = .ok (.goto 4, 3) := by decide +kernel
theorem d7_9 : decode jdk_29_method_69_code 9 = .ok (.iload_n 1, 1) := by decide +kernel
theorem d7_10 : decode jdk_29_method_69_code 10 = .ok (.ireturn, 1) := by decide +kernel
abbrev mN_7 : MethodName := ⟨"java/lang/Math", "min", "(II)I"⟩
theorem d8_0 : decode prog_1_method_6_code 0 = .ok (.aload_n 0, 1) := by decide +kernel
theorem d8_1 : decode prog_1_method_6_code 1 = .ok (.getfield 42, 3) := by decide +kernel
theorem d8_4 : decode prog_1_method_6_code 4 = .ok (.ireturn, 1) := by decide +kernel
abbrev mN_8 : MethodName := ⟨"com/example/simpagation/simpagation/Bindings", "mark", "()I"⟩
theorem d9_0 : decode prog_1_method_2_code 0 = .ok (.aload_n 0, 1) := by decide +kernel
theorem d9_1 : decode prog_1_method_2_code 1 = .ok (.getfield 9, 3) := by decide +kernel
theorem d9_4 : decode prog_1_method_2_code 4 = .ok (.iload_n 1, 1) := by decide +kernel
theorem d9_5 : decode prog_1_method_2_code 5 = .ok (.aaload, 1) := by decide +kernel
theorem d9_6 : decode prog_1_method_2_code 6 = .ok (.areturn, 1) := by decide +kernel
abbrev mN_9 : MethodName := ⟨"com/example/simpagation/simpagation/Bindings", "get", "(I)Lcom/example/simpagation/simpagation/Term;"⟩
theorem pd_1 : parseMethodDescriptor "(J)V" = some ⟨[.long], none⟩ := by decide +kernel
theorem pd_2 : parseMethodDescriptor "(I)V" = some ⟨[.int], none⟩ := by decide +kernel
theorem pd_3 : parseMethodDescriptor "(II)I" = some ⟨[.int, .int], some .int⟩ := by decide +kernel
theorem pd_4 : parseMethodDescriptor "()I" = some ⟨[], some .int⟩ := by decide +kernel
theorem pd_5 : parseMethodDescriptor "(I)Lcom/example/simpagation/simpagation/Term;" = some ⟨[.int], some (.object "com/example/simpagation/simpagation/Term")⟩ := by decide +kernel
theorem pd_6 : parseMethodDescriptor "(ILcom/example/simpagation/simpagation/Term;)V" = some ⟨[.int, (.object "com/example/simpagation/simpagation/Term")], none⟩ := by decide +kernel
theorem pn_3 : plainName "com/example/simpagation/simpagation/BindingsUndoPinLaw" = true := by first | (simp [plainName, overriddenIn]; done) | decide +kernel
theorem ef_2 (m : MethodId) (x0 : Addr) : entryFrame m #[(.ref x0)] 1 = mkF m 0 #[.val (.ref x0)] [] := by first | (simp [entryFrame, mkF, argsToLocals, Value.category]; done) | rfl
def Q2 (Z : State) (a : Addr) (h0 : Heap) (n0 : Nat) (v : Option Value) (h : Heap) (L : List Loc) : Prop := v = none ∧ Fr n0 L ∧ h = h0
set_option maxRecDepth 65536 in
set_option maxHeartbeats 40000000 in
theorem rm2 (l : Launch) (Z : State) (a0 : Array Value) (hw : ∀ d ∈ tables_1, d.before a0 Z = true) (ws : List Jvm.Cond) (a : Addr) (h0 : Heap) (n0 : Nat) (Z0 : n0 ≤ h0.size) :
    CT l mN_2 jdk_30_method_1_code 1 none ws ({ frames := 1, cells := 0, slots := 0, locals := 12 } : Room) #[(.ref a)] Z h0 (Q2 Z a h0 n0) := by
  refine body_of (plainFor_of_name pn_0) ?_
  intro p e s m below meth c s₁ hx dB hret hlk hml hown0 hnm X0 e0 hZ
  have hown : s.vm.findClass cN_0 = some m.cls := hown0
  have N0 := Fr.nil n0
  rw [ef_2]
  show Wk p e below (FN s (Q2 Z a h0 n0) 0 0) s₁ (mkF m 0 #[.val (.ref a)] [])
  refine w_aloadN X0 hx (.ref a) (dB d2_0) 1 rfl rfl rfl ?_
  refine w_objinit X0 hx hZ hown e0 (tw_12 hw) (tw_13 hw) (tw_14 hw) (by rw [hml]; rfl) (by decide) 0 rfl (by decide) (dB d2_1) 4 rfl (fun T1 X1 e1 => ?_)
  refine w_ret0 X1 hx hlk hret (dB d2_4) (by decide) (by decide) ?_
  rw [e1]
  exact ⟨rfl, N0, rfl⟩
theorem ef_1 (m : MethodId) (x0 : Addr) (x1 : Int64) : entryFrame m #[(.ref x0), (.long x1)] 3 = mkF m 0 #[.val (.ref x0), .val (.long x1), .second] [] := by first | (simp [entryFrame, mkF, argsToLocals, Value.category]; done) | rfl
def Q1 (Z : State) (a : Addr) (x : Int64) (h0 : Heap) (n0 : Nat) (v : Option Value) (h : Heap) (L : List Loc) : Prop := v = none ∧ Fr n0 L ∧ Keep h0 h [a]
set_option maxRecDepth 65536 in
set_option maxHeartbeats 40000000 in
theorem rm1 (l : Launch) (Z : State) (a0 : Array Value) (hw : ∀ d ∈ tables_1, d.before a0 Z = true) (ws : List Jvm.Cond) (a : Addr) (x : Int64) (h0 : Heap) (n0 : Nat) (Z0 : n0 ≤ h0.size) (E_a : Exa Z h0 a cN_1) (F_value_a : Fld Z h0 a cN_1 "value" "J" (.long (0 : Int64))) (g_a : n0 ≤ a) :
    CT l mN_1 prog_60_method_1_code 3 none ws ({ frames := 2, cells := 0, slots := 0, locals := 24 } : Room) #[(.ref a), (.long x)] Z h0 (Q1 Z a x h0 n0) := by
  refine body_of (plainFor_of_name pn_1) ?_
  intro p e s m below meth c s₁ hx dB hret hlk hml hown0 hnm X0 e0 hZ
  have hown : s.vm.findClass cN_1 = some m.cls := hown0
  have N0 := Fr.nil n0
  rw [ef_1]
  show Wk p e below (FN s (Q1 Z a x h0 n0) 0 0) s₁ (mkF m 0 #[.val (.ref a), .val (.long x), .second] [])
  have r_x := rng64 x
  refine w_aloadN X0 hx (.ref a) (dB d1_0) 1 rfl rfl rfl ?_
  refine w_init X0 hx hZ rfl hown e0 (rm2 l Z a0 hw [] a h0 n0 Z0 ) (tw_7 hw) (tw_8 hw) (tw_10 hw) (tw_11 hw) (by decide) (by rw [hml]; rfl) a [] [] (lenOf pd_0 rfl) rfl rfl (by decide) 0 rfl (by decide) (by decide) (by decide) (dB d1_1) 4 rfl (fun r2 T2 L2 X2 q2 => ?_)
  obtain ⟨rfl, Nq2, eq2⟩ := q2
  have N2 := Fr.app N0 Nq2
  dsimp only [oD1, oD2, oD3, oD4]
  refine w_aloadN X2 hx (.ref a) (dB d1_4) 5 rfl rfl rfl ?_
  refine w_lloadN X2 hx x (dB d1_5) 6 rfl rfl ?_
  refine w_putF X2 hx hZ hown eq2 (host := "") (Or.inl (tw_15 hw)) Via.refl F_value_a E_a (Or.inr ⟨(tw_16 hw), rfl, hnm⟩) (tw_2 hw) (ty := .long) (by decide) rfl rfl (dB d1_6) 9 rfl (fun T3 h3 X3 e3 W3 => ?_)
  have F4 : Exa Z h3 a cN_1 := E_a.wr W3
  have F5 : Fld Z h3 a cN_1 "value" "J" (.long x) := F_value_a.same W3
  have Z3 : n0 ≤ h3.size := by rw [W3.size]; exact Z0
  have K3 : Keep h0 h3 [a] := (Keep.refl h0 [a]).wr W3 (Or.inl (List.mem_of_getElem? (i := 0) rfl))
  have N3 := Fr.snoc X3 N2 g_a
  refine w_ret0 X3 hx hlk hret (dB d1_9) (by decide) (by decide) ?_
  rw [e3]
  exact ⟨rfl, N3, K3⟩
theorem ef_4 (m : MethodId) (x0 : Addr) : entryFrame m #[(.ref x0), (.int (3 : Int32))] 2 = mkF m 0 #[.val (.ref x0), .val (.int (3 : Int32))] [] := by first | (simp [entryFrame, mkF, argsToLocals, Value.category]; done) | rfl
def Q4 (Z : State) (a : Addr) (h0 : Heap) (n0 : Nat) (v : Option Value) (h : Heap) (L : List Loc) : Prop := ∃ va : Addr, ∃ ta : Addr, ∃ kv : ClassId, ∃ kt : ClassId, v = none ∧ Fr n0 L ∧ Keep h0 h [a] ∧ h0.size ≤ va ∧ h0.size ≤ ta ∧ va ≠ ta ∧ Ovr Z kv "com/example/simpagation/simpagation/Term" ∧ Fld Z h a cN_2 "values" cN_3 (.ref va) ∧ Fld Z h a cN_2 "trail" "[I" (.ref ta) ∧ Fld Z h a cN_2 "trailSize" "I" (.int (0 : Int32)) ∧ Arv Z h va kv (.object cN_4) (3 : Int32) [.null, .null, .null] .null ∧ Arv Z h ta kt .int (3 : Int32) [(.int (0 : Int32)), (.int (0 : Int32)), (.int (0 : Int32))] (.int (0 : Int32))
set_option maxRecDepth 65536 in
set_option maxHeartbeats 40000000 in
theorem rm4 (l : Launch) (Z : State) (a0 : Array Value) (hw : ∀ d ∈ tables_1, d.before a0 Z = true) (ws : List Jvm.Cond) (a : Addr) (h0 : Heap) (n0 : Nat) (Z0 : n0 ≤ h0.size) (E_a : Exa Z h0 a cN_2) (F_values_a : Fld Z h0 a cN_2 "values" cN_3 .null) (F_trail_a : Fld Z h0 a cN_2 "trail" "[I" .null) (F_trailSize_a : Fld Z h0 a cN_2 "trailSize" "I" (.int (0 : Int32))) (g_a : n0 ≤ a) :
    CT l mN_4 prog_1_method_1_code 2 none ws ({ frames := 1, cells := 2, slots := 6, locals := 12 } : Room) #[(.ref a), (.int (3 : Int32))] Z h0 (Q4 Z a h0 n0) := by
  refine body_of (plainFor_of_name pn_2) ?_
  intro p e s m below meth c s₁ hx dB hret hlk hml hown0 hnm X0 e0 hZ
  have hown : s.vm.findClass cN_2 = some m.cls := hown0
  have N0 := Fr.nil n0
  rw [ef_4]
  show Wk p e below (FN s (Q4 Z a h0 n0) 2 6) s₁ (mkF m 0 #[.val (.ref a), .val (.int (3 : Int32))] [])
  refine w_aloadN X0 hx (.ref a) (dB d4_0) 1 rfl rfl rfl ?_
  refine w_objinit X0 hx hZ hown e0 (tw_23 hw) (tw_13 hw) (tw_14 hw) (by rw [hml]; rfl) (by decide) 0 rfl (by decide) (dB d4_1) 4 rfl (fun T6 X6 e6 => ?_)
  refine w_aloadN X6 hx (.ref a) (dB d4_4) 5 rfl rfl rfl ?_
  refine w_iloadN X6 hx (3 : Int32) (dB d4_5) 6 rfl rfl ?_
  refine w_newR X6 hx hZ hown e6 (tw_24 hw) (tw_25 hw) (by decide) 3 (by decide) (by decide) (by decide) (by decide) (dB d4_6) 9 rfl (fun T7 h7 a7 k7 X7 e7 g7 E7 A7 O7 => ?_)
  have ne_a_a7 : a ≠ a7 := Nat.ne_of_lt (Nat.lt_of_lt_of_le E_a.lt (Nat.le_of_eq g7.symm))
  have g_a7 : n0 ≤ a7 := Nat.le_trans Z0 (Nat.le_of_eq g7.symm)
  have s_a7 : h0.size ≤ a7 := Nat.le_trans (Keep.refl h0 [a]).1 (Nat.le_of_eq g7.symm)
  have F8 : Exa Z h7 a cN_2 := E_a.ext E7
  have F9 : Fld Z h7 a cN_2 "values" cN_3 .null := F_values_a.ext E7
  have F10 : Fld Z h7 a cN_2 "trail" "[I" .null := F_trail_a.ext E7
  have F11 : Fld Z h7 a cN_2 "trailSize" "I" (.int (0 : Int32)) := F_trailSize_a.ext E7
  have Z7 : n0 ≤ h7.size := Nat.le_trans Z0 E7.1
  have K7 : Keep h0 h7 [a] := (Keep.refl h0 [a]).ext E7
  have V7 : Arv Z h7 a7 k7 (.object cN_4) (3 : Int32) [.null, .null, .null] .null := A7.pad (pad_rep [] .null 3)
  refine w_putF X7 hx hZ hown e7 (host := "") (Or.inl (tw_26 hw)) Via.refl F9 F8 (Or.inr ⟨(tw_27 hw), rfl, hnm⟩) (tw_18 hw) (ty := (.array (.object "com/example/simpagation/simpagation/Term"))) (by decide) rfl rfl (dB d4_9) 12 rfl (fun T12 h12 X12 e12 W12 => ?_)
  have F13 : Exa Z h12 a cN_2 := F8.wr W12
  have F14 : Fld Z h12 a cN_2 "values" cN_3 (.ref a7) := F9.same W12
  have F15 : Fld Z h12 a cN_2 "trail" "[I" .null := F10.other W12 (Or.inr (slot_ne (Or.inr (tw_30 hw)) (Or.inr (tw_27 hw)) (by decide) (t := (.array .int)) (t' := (.array (.object "com/example/simpagation/simpagation/Term"))) (by decide) (by decide)))
  have F16 : Fld Z h12 a cN_2 "trailSize" "I" (.int (0 : Int32)) := F11.other W12 (Or.inr (slot_ne (Or.inl (tw_37 hw)) (Or.inr (tw_27 hw)) (by decide) (t := .int) (t' := (.array (.object "com/example/simpagation/simpagation/Term"))) (by decide) (by decide)))
  have F17 : Arv Z h12 a7 k7 (.object cN_4) (3 : Int32) [.null, .null, .null] .null := V7.other W12 (Ne.symm ne_a_a7)
  have Z12 : n0 ≤ h12.size := by rw [W12.size]; exact Z7
  have K12 : Keep h0 h12 [a] := K7.wr W12 (Or.inl (List.mem_of_getElem? (i := 0) rfl))
  have N12 := Fr.snoc X12 N0 g_a
  refine w_aloadN X12 hx (.ref a) (dB d4_12) 13 rfl rfl rfl ?_
  refine w_iloadN X12 hx (3 : Int32) (dB d4_13) 14 rfl rfl ?_
  refine w_newP X12 hx hZ e12 (aty := .int) (tw_28 hw) (by decide) 3 (by decide) (by decide) (by decide) (by decide) (dB d4_14) 16 rfl (fun T18 h18 a18 k18 X18 e18 g18 E18 A18 => ?_)
  have ne_a_a18 : a ≠ a18 := Nat.ne_of_lt (Nat.lt_of_lt_of_le F13.lt (Nat.le_of_eq g18.symm))
  have ne_a7_a18 : a7 ≠ a18 := Nat.ne_of_lt (Nat.lt_of_lt_of_le F17.lt (Nat.le_of_eq g18.symm))
  have g_a18 : n0 ≤ a18 := Nat.le_trans Z12 (Nat.le_of_eq g18.symm)
  have s_a18 : h0.size ≤ a18 := Nat.le_trans K12.1 (Nat.le_of_eq g18.symm)
  have F19 : Exa Z h18 a cN_2 := F13.ext E18
  have F20 : Fld Z h18 a cN_2 "values" cN_3 (.ref a7) := F14.ext E18
  have F21 : Fld Z h18 a cN_2 "trail" "[I" .null := F15.ext E18
  have F22 : Fld Z h18 a cN_2 "trailSize" "I" (.int (0 : Int32)) := F16.ext E18
  have F23 : Arv Z h18 a7 k7 (.object cN_4) (3 : Int32) [.null, .null, .null] .null := F17.ext E18
  have Z18 : n0 ≤ h18.size := Nat.le_trans Z12 E18.1
  have K18 : Keep h0 h18 [a] := K12.ext E18
  have V18 : Arv Z h18 a18 k18 .int (3 : Int32) [(.int (0 : Int32)), (.int (0 : Int32)), (.int (0 : Int32))] (.int (0 : Int32)) := A18.pad (pad_rep [] (.int (0 : Int32)) 3)
  refine w_putF X18 hx hZ hown e18 (host := "") (Or.inl (tw_29 hw)) Via.refl F21 F19 (Or.inr ⟨(tw_30 hw), rfl, hnm⟩) (tw_18 hw) (ty := (.array .int)) (by decide) rfl rfl (dB d4_16) 19 rfl (fun T24 h24 X24 e24 W24 => ?_)
  have F25 : Exa Z h24 a cN_2 := F19.wr W24
  have F26 : Fld Z h24 a cN_2 "values" cN_3 (.ref a7) := F20.other W24 (Or.inr (slot_ne (Or.inr (tw_27 hw)) (Or.inr (tw_30 hw)) (by decide) (t := (.array (.object "com/example/simpagation/simpagation/Term"))) (t' := (.array .int)) (by decide) (by decide)))
  have F27 : Fld Z h24 a cN_2 "trail" "[I" (.ref a18) := F21.same W24
  have F28 : Fld Z h24 a cN_2 "trailSize" "I" (.int (0 : Int32)) := F22.other W24 (Or.inr (slot_ne (Or.inl (tw_37 hw)) (Or.inr (tw_30 hw)) (by decide) (t := .int) (t' := (.array .int)) (by decide) (by decide)))
  have F29 : Arv Z h24 a7 k7 (.object cN_4) (3 : Int32) [.null, .null, .null] .null := F23.other W24 (Ne.symm ne_a_a7)
  have F30 : Arv Z h24 a18 k18 .int (3 : Int32) [(.int (0 : Int32)), (.int (0 : Int32)), (.int (0 : Int32))] (.int (0 : Int32)) := V18.other W24 (Ne.symm ne_a_a18)
  have Z24 : n0 ≤ h24.size := by rw [W24.size]; exact Z18
  have K24 : Keep h0 h24 [a] := K18.wr W24 (Or.inl (List.mem_of_getElem? (i := 0) rfl))
  have N24 := Fr.snoc X24 N12 g_a
  refine w_ret0 X24 hx hlk hret (dB d4_19) (by decide) (by decide) ?_
  rw [e24]
  exact ⟨a7, a18, k7, k18, rfl, N24, K24, s_a7, s_a18, ne_a7_a18, O7, F26, F27, F28, F29, F30⟩
theorem ef_5ti0 (m : MethodId) (x0 : Addr) (x2 : Addr) : entryFrame m #[(.ref x0), (.int (0 : Int32)), (.ref x2)] 3 = mkF m 0 #[.val (.ref x0), .val (.int (0 : Int32)), .val (.ref x2)] [] := by first | (simp [entryFrame, mkF, argsToLocals, Value.category]; done) | rfl
def Q5ti0 (Z : State) (a : Addr) (vv : Addr) (va : Addr) (ta : Addr) (kv : ClassId) (kt : ClassId) (h0 : Heap) (n0 : Nat) (v : Option Value) (h : Heap) (L : List Loc) : Prop := v = none ∧ Fr n0 L ∧ Keep h0 h [a, ta, va] ∧ Fld Z h a cN_2 "values" cN_3 (.ref va) ∧ Fld Z h a cN_2 "trail" "[I" (.ref ta) ∧ Fld Z h a cN_2 "trailSize" "I" (.int (1 : Int32)) ∧ Arv Z h va kv (.object cN_4) (3 : Int32) [(.ref vv), .null, .null] .null ∧ Arv Z h ta kt .int (3 : Int32) [(.int (0 : Int32)), (.int (0 : Int32)), (.int (0 : Int32))] (.int (0 : Int32))
set_option maxRecDepth 65536 in
set_option maxHeartbeats 40000000 in
theorem rm5ti0 (l : Launch) (Z : State) (a0 : Array Value) (hw : ∀ d ∈ tables_1, d.before a0 Z = true) (ws : List Jvm.Cond) (a : Addr) (vv : Addr) (va : Addr) (ta : Addr) (kv : ClassId) (kt : ClassId) (h0 : Heap) (n0 : Nat) (Z0 : n0 ≤ h0.size) (E_a : Exa Z h0 a cN_2) (F_values_a : Fld Z h0 a cN_2 "values" cN_3 (.ref va)) (F_trail_a : Fld Z h0 a cN_2 "trail" "[I" (.ref ta)) (F_trailSize_a : Fld Z h0 a cN_2 "trailSize" "I" (.int (0 : Int32))) (V_va : Arv Z h0 va kv (.object cN_4) (3 : Int32) [.null, .null, .null] .null) (V_ta : Arv Z h0 ta kt .int (3 : Int32) [(.int (0 : Int32)), (.int (0 : Int32)), (.int (0 : Int32))] (.int (0 : Int32))) (E_vv : Exa Z h0 vv cN_1) (g_a : n0 ≤ a) (g_ta : n0 ≤ ta) (g_va : n0 ≤ va) (ne1 : va ≠ ta) (ov : Ovr Z kv "com/example/simpagation/simpagation/Term") :
    CT l mN_5 prog_1_method_5_code 3 none ws ({ frames := 0, cells := 0, slots := 0, locals := 0 } : Room) #[(.ref a), (.int (0 : Int32)), (.ref vv)] Z h0 (Q5ti0 Z a vv va ta kv kt h0 n0) := by
  refine body_of (plainFor_of_name pn_2) ?_
  intro p e s m below meth c s₁ hx dB hret hlk hml hown0 hnm X0 e0 hZ
  have hown : s.vm.findClass cN_2 = some m.cls := hown0
  have N0 := Fr.nil n0
  rw [ef_5ti0]
  show Wk p e below (FN s (Q5ti0 Z a vv va ta kv kt h0 n0) 0 0) s₁ (mkF m 0 #[.val (.ref a), .val (.int (0 : Int32)), .val (.ref vv)] [])
  refine w_aloadN X0 hx (.ref a) (dB d5_0) 1 rfl rfl rfl ?_
  refine w_getF X0 hx hZ hown e0 (host := "") (Or.inl (tw_29 hw)) Via.refl F_trail_a (dB d5_1) 4 rfl (fun T31 X31 e31 => ?_)
  refine w_aloadN X31 hx (.ref a) (dB d5_4) 5 rfl rfl rfl ?_
  refine w_dup X31 hx (dB d5_5) 6 rfl rfl ?_
  refine w_getF X31 hx hZ hown e31 (host := "") (Or.inl (tw_36 hw)) Via.refl F_trailSize_a (dB d5_6) 9 rfl (fun T32 X32 e32 => ?_)
  refine w_dupX1 X32 hx (dB d5_9) 10 rfl rfl rfl ?_
  refine w_iconst X32 hx (dB d5_10) 11 rfl (1 : Int32) (by decide) ?_
  refine w_iadd X32 hx (dB d5_11) 12 rfl (show (1 : Int32) = (0 : Int32) + (1 : Int32) from by decide) ?_
  refine w_putF X32 hx hZ hown e32 (host := "") (Or.inl (tw_36 hw)) Via.refl F_trailSize_a E_a (Or.inl (tw_37 hw)) (tw_18 hw) (ty := .int) (by decide) rfl rfl (dB d5_12) 15 rfl (fun T33 h33 X33 e33 W33 => ?_)
  have F34 : Exa Z h33 a cN_2 := E_a.wr W33
  have F35 : Fld Z h33 a cN_2 "values" cN_3 (.ref va) := F_values_a.other W33 (Or.inr (slot_ne (Or.inr (tw_27 hw)) (Or.inl (tw_37 hw)) (by decide) (t := (.array (.object "com/example/simpagation/simpagation/Term"))) (t' := .int) (by decide) (by decide)))
  have F36 : Fld Z h33 a cN_2 "trail" "[I" (.ref ta) := F_trail_a.other W33 (Or.inr (slot_ne (Or.inr (tw_30 hw)) (Or.inl (tw_37 hw)) (by decide) (t := (.array .int)) (t' := .int) (by decide) (by decide)))
  have F37 : Fld Z h33 a cN_2 "trailSize" "I" (.int (1 : Int32)) := F_trailSize_a.same W33
  have F38 : Arv Z h33 va kv (.object cN_4) (3 : Int32) [.null, .null, .null] .null := V_va.other W33 (Ne.symm (ne_arv E_a (tw_18 hw) V_va))
  have F39 : Arv Z h33 ta kt .int (3 : Int32) [(.int (0 : Int32)), (.int (0 : Int32)), (.int (0 : Int32))] (.int (0 : Int32)) := V_ta.other W33 (Ne.symm (ne_arv E_a (tw_18 hw) V_ta))
  have F40 : Exa Z h33 vv cN_1 := E_vv.wr W33
  have Z33 : n0 ≤ h33.size := by rw [W33.size]; exact Z0
  have K33 : Keep h0 h33 [a, ta, va] := (Keep.refl h0 [a, ta, va]).wr W33 (Or.inl (List.mem_of_getElem? (i := 0) rfl))
  have N33 := Fr.snoc X33 N0 g_a
  refine w_iloadN X33 hx (0 : Int32) (dB d5_15) 16 rfl rfl ?_
  refine w_iastore X33 hx hZ e33 F39 ⟨by decide, by decide⟩ 0 (by decide) (show 0 < 3 from (by decide)) (dB d5_16) 17 rfl (fun T41 h41 X41 e41 W41 V41 => ?_)
  have F42 : Exa Z h41 a cN_2 := F34.wr W41
  have F43 : Fld Z h41 a cN_2 "values" cN_3 (.ref va) := F35.other W41 (Or.inl (ne_arv F34 (tw_18 hw) F39))
  have F44 : Fld Z h41 a cN_2 "trail" "[I" (.ref ta) := F36.other W41 (Or.inl (ne_arv F34 (tw_18 hw) F39))
  have F45 : Fld Z h41 a cN_2 "trailSize" "I" (.int (1 : Int32)) := F37.other W41 (Or.inl (ne_arv F34 (tw_18 hw) F39))
  have F46 : Arv Z h41 va kv (.object cN_4) (3 : Int32) [.null, .null, .null] .null := F38.other W41 ne1
  have F47 : Arv Z h41 ta kt .int (3 : Int32) [(.int (0 : Int32)), (.int (0 : Int32)), (.int (0 : Int32))] (.int (0 : Int32)) := V41
  have F48 : Exa Z h41 vv cN_1 := F40.wr W41
  have Z41 : n0 ≤ h41.size := by rw [W41.size]; exact Z33
  have K41 : Keep h0 h41 [a, ta, va] := K33.wr W41 (Or.inl (List.mem_of_getElem? (i := 1) rfl))
  have N41 := Fr.snoc X41 N33 g_ta
  refine w_aloadN X41 hx (.ref a) (dB d5_17) 18 rfl rfl rfl ?_
  refine w_getF X41 hx hZ hown e41 (host := "") (Or.inl (tw_26 hw)) Via.refl F43 (dB d5_18) 21 rfl (fun T49 X49 e49 => ?_)
  refine w_iloadN X49 hx (0 : Int32) (dB d5_21) 22 rfl rfl ?_
  refine w_aloadN X49 hx (.ref vv) (dB d5_22) 23 rfl rfl rfl ?_
  refine w_aastore X49 hx hZ e49 F46 ⟨by decide, by decide⟩ 0 (by decide) (show 0 < 3 from (by decide)) rfl (Or.inr ⟨_, rfl, ov, (Ins.of_exa F48 (tw_38 hw))⟩) (dB d5_23) 24 rfl (fun T50 h50 X50 e50 W50 V50 => ?_)
  have F51 : Exa Z h50 a cN_2 := F42.wr W50
  have F52 : Fld Z h50 a cN_2 "values" cN_3 (.ref va) := F43.other W50 (Or.inl (ne_arv F42 (tw_18 hw) F46))
  have F53 : Fld Z h50 a cN_2 "trail" "[I" (.ref ta) := F44.other W50 (Or.inl (ne_arv F42 (tw_18 hw) F46))
  have F54 : Fld Z h50 a cN_2 "trailSize" "I" (.int (1 : Int32)) := F45.other W50 (Or.inl (ne_arv F42 (tw_18 hw) F46))
  have F55 : Arv Z h50 va kv (.object cN_4) (3 : Int32) [(.ref vv), .null, .null] .null := V50
  have F56 : Arv Z h50 ta kt .int (3 : Int32) [(.int (0 : Int32)), (.int (0 : Int32)), (.int (0 : Int32))] (.int (0 : Int32)) := F47.other W50 (Ne.symm ne1)
  have F57 : Exa Z h50 vv cN_1 := F48.wr W50
  have Z50 : n0 ≤ h50.size := by rw [W50.size]; exact Z41
  have K50 : Keep h0 h50 [a, ta, va] := K41.wr W50 (Or.inl (List.mem_of_getElem? (i := 2) rfl))
  have N50 := Fr.snoc X50 N41 g_va
  refine w_ret0 X50 hx hlk hret (dB d5_24) (by decide) (by decide) ?_
  rw [e50]
  exact ⟨rfl, N50, K50, F52, F53, F54, F55, F56⟩
theorem ef_5ti1 (m : MethodId) (x0 : Addr) (x2 : Addr) : entryFrame m #[(.ref x0), (.int (1 : Int32)), (.ref x2)] 3 = mkF m 0 #[.val (.ref x0), .val (.int (1 : Int32)), .val (.ref x2)] [] := by first | (simp [entryFrame, mkF, argsToLocals, Value.category]; done) | rfl
def Q5ti1 (Z : State) (a : Addr) (vv : Addr) (va : Addr) (ta : Addr) (kv : ClassId) (kt : ClassId) (h0 : Heap) (n0 : Nat) (v : Option Value) (h : Heap) (L : List Loc) : Prop := v = none ∧ Fr n0 L ∧ Keep h0 h [a, ta, va] ∧ Fld Z h a cN_2 "values" cN_3 (.ref va) ∧ Fld Z h a cN_2 "trail" "[I" (.ref ta) ∧ Fld Z h a cN_2 "trailSize" "I" (.int (1 : Int32)) ∧ Arv Z h va kv (.object cN_4) (3 : Int32) [.null, (.ref vv), .null] .null ∧ Arv Z h ta kt .int (3 : Int32) [(.int (1 : Int32)), (.int (0 : Int32)), (.int (0 : Int32))] (.int (0 : Int32))
set_option maxRecDepth 65536 in
set_option maxHeartbeats 40000000 in
theorem rm5ti1 (l : Launch) (Z : State) (a0 : Array Value) (hw : ∀ d ∈ tables_1, d.before a0 Z = true) (ws : List Jvm.Cond) (a : Addr) (vv : Addr) (va : Addr) (ta : Addr) (kv : ClassId) (kt : ClassId) (h0 : Heap) (n0 : Nat) (Z0 : n0 ≤ h0.size) (E_a : Exa Z h0 a cN_2) (F_values_a : Fld Z h0 a cN_2 "values" cN_3 (.ref va)) (F_trail_a : Fld Z h0 a cN_2 "trail" "[I" (.ref ta)) (F_trailSize_a : Fld Z h0 a cN_2 "trailSize" "I" (.int (0 : Int32))) (V_va : Arv Z h0 va kv (.object cN_4) (3 : Int32) [.null, .null, .null] .null) (V_ta : Arv Z h0 ta kt .int (3 : Int32) [(.int (0 : Int32)), (.int (0 : Int32)), (.int (0 : Int32))] (.int (0 : Int32))) (E_vv : Exa Z h0 vv cN_1) (g_a : n0 ≤ a) (g_ta : n0 ≤ ta) (g_va : n0 ≤ va) (ne1 : va ≠ ta) (ov : Ovr Z kv "com/example/simpagation/simpagation/Term") :
    CT l mN_5 prog_1_method_5_code 3 none ws ({ frames := 0, cells := 0, slots := 0, locals := 0 } : Room) #[(.ref a), (.int (1 : Int32)), (.ref vv)] Z h0 (Q5ti1 Z a vv va ta kv kt h0 n0) := by
  refine body_of (plainFor_of_name pn_2) ?_
  intro p e s m below meth c s₁ hx dB hret hlk hml hown0 hnm X0 e0 hZ
  have hown : s.vm.findClass cN_2 = some m.cls := hown0
  have N0 := Fr.nil n0
  rw [ef_5ti1]
  show Wk p e below (FN s (Q5ti1 Z a vv va ta kv kt h0 n0) 0 0) s₁ (mkF m 0 #[.val (.ref a), .val (.int (1 : Int32)), .val (.ref vv)] [])
  refine w_aloadN X0 hx (.ref a) (dB d5_0) 1 rfl rfl rfl ?_
  refine w_getF X0 hx hZ hown e0 (host := "") (Or.inl (tw_29 hw)) Via.refl F_trail_a (dB d5_1) 4 rfl (fun T58 X58 e58 => ?_)
  refine w_aloadN X58 hx (.ref a) (dB d5_4) 5 rfl rfl rfl ?_
  refine w_dup X58 hx (dB d5_5) 6 rfl rfl ?_
  refine w_getF X58 hx hZ hown e58 (host := "") (Or.inl (tw_36 hw)) Via.refl F_trailSize_a (dB d5_6) 9 rfl (fun T59 X59 e59 => ?_)
  refine w_dupX1 X59 hx (dB d5_9) 10 rfl rfl rfl ?_
  refine w_iconst X59 hx (dB d5_10) 11 rfl (1 : Int32) (by decide) ?_
  refine w_iadd X59 hx (dB d5_11) 12 rfl (show (1 : Int32) = (0 : Int32) + (1 : Int32) from by decide) ?_
  refine w_putF X59 hx hZ hown e59 (host := "") (Or.inl (tw_36 hw)) Via.refl F_trailSize_a E_a (Or.inl (tw_37 hw)) (tw_18 hw) (ty := .int) (by decide) rfl rfl (dB d5_12) 15 rfl (fun T60 h60 X60 e60 W60 => ?_)
  have F61 : Exa Z h60 a cN_2 := E_a.wr W60
  have F62 : Fld Z h60 a cN_2 "values" cN_3 (.ref va) := F_values_a.other W60 (Or.inr (slot_ne (Or.inr (tw_27 hw)) (Or.inl (tw_37 hw)) (by decide) (t := (.array (.object "com/example/simpagation/simpagation/Term"))) (t' := .int) (by decide) (by decide)))
  have F63 : Fld Z h60 a cN_2 "trail" "[I" (.ref ta) := F_trail_a.other W60 (Or.inr (slot_ne (Or.inr (tw_30 hw)) (Or.inl (tw_37 hw)) (by decide) (t := (.array .int)) (t' := .int) (by decide) (by decide)))
  have F64 : Fld Z h60 a cN_2 "trailSize" "I" (.int (1 : Int32)) := F_trailSize_a.same W60
  have F65 : Arv Z h60 va kv (.object cN_4) (3 : Int32) [.null, .null, .null] .null := V_va.other W60 (Ne.symm (ne_arv E_a (tw_18 hw) V_va))
  have F66 : Arv Z h60 ta kt .int (3 : Int32) [(.int (0 : Int32)), (.int (0 : Int32)), (.int (0 : Int32))] (.int (0 : Int32)) := V_ta.other W60 (Ne.symm (ne_arv E_a (tw_18 hw) V_ta))
  have F67 : Exa Z h60 vv cN_1 := E_vv.wr W60
  have Z60 : n0 ≤ h60.size := by rw [W60.size]; exact Z0
  have K60 : Keep h0 h60 [a, ta, va] := (Keep.refl h0 [a, ta, va]).wr W60 (Or.inl (List.mem_of_getElem? (i := 0) rfl))
  have N60 := Fr.snoc X60 N0 g_a
  refine w_iloadN X60 hx (1 : Int32) (dB d5_15) 16 rfl rfl ?_
  refine w_iastore X60 hx hZ e60 F66 ⟨by decide, by decide⟩ 0 (by decide) (show 0 < 3 from (by decide)) (dB d5_16) 17 rfl (fun T68 h68 X68 e68 W68 V68 => ?_)
  have F69 : Exa Z h68 a cN_2 := F61.wr W68
  have F70 : Fld Z h68 a cN_2 "values" cN_3 (.ref va) := F62.other W68 (Or.inl (ne_arv F61 (tw_18 hw) F66))
  have F71 : Fld Z h68 a cN_2 "trail" "[I" (.ref ta) := F63.other W68 (Or.inl (ne_arv F61 (tw_18 hw) F66))
  have F72 : Fld Z h68 a cN_2 "trailSize" "I" (.int (1 : Int32)) := F64.other W68 (Or.inl (ne_arv F61 (tw_18 hw) F66))
  have F73 : Arv Z h68 va kv (.object cN_4) (3 : Int32) [.null, .null, .null] .null := F65.other W68 ne1
  have F74 : Arv Z h68 ta kt .int (3 : Int32) [(.int (1 : Int32)), (.int (0 : Int32)), (.int (0 : Int32))] (.int (0 : Int32)) := V68
  have F75 : Exa Z h68 vv cN_1 := F67.wr W68
  have Z68 : n0 ≤ h68.size := by rw [W68.size]; exact Z60
  have K68 : Keep h0 h68 [a, ta, va] := K60.wr W68 (Or.inl (List.mem_of_getElem? (i := 1) rfl))
  have N68 := Fr.snoc X68 N60 g_ta
  refine w_aloadN X68 hx (.ref a) (dB d5_17) 18 rfl rfl rfl ?_
  refine w_getF X68 hx hZ hown e68 (host := "") (Or.inl (tw_26 hw)) Via.refl F70 (dB d5_18) 21 rfl (fun T76 X76 e76 => ?_)
  refine w_iloadN X76 hx (1 : Int32) (dB d5_21) 22 rfl rfl ?_
  refine w_aloadN X76 hx (.ref vv) (dB d5_22) 23 rfl rfl rfl ?_
  refine w_aastore X76 hx hZ e76 F73 ⟨by decide, by decide⟩ 1 (by decide) (show 1 < 3 from (by decide)) rfl (Or.inr ⟨_, rfl, ov, (Ins.of_exa F75 (tw_38 hw))⟩) (dB d5_23) 24 rfl (fun T77 h77 X77 e77 W77 V77 => ?_)
  have F78 : Exa Z h77 a cN_2 := F69.wr W77
  have F79 : Fld Z h77 a cN_2 "values" cN_3 (.ref va) := F70.other W77 (Or.inl (ne_arv F69 (tw_18 hw) F73))
  have F80 : Fld Z h77 a cN_2 "trail" "[I" (.ref ta) := F71.other W77 (Or.inl (ne_arv F69 (tw_18 hw) F73))
  have F81 : Fld Z h77 a cN_2 "trailSize" "I" (.int (1 : Int32)) := F72.other W77 (Or.inl (ne_arv F69 (tw_18 hw) F73))
  have F82 : Arv Z h77 va kv (.object cN_4) (3 : Int32) [.null, (.ref vv), .null] .null := V77
  have F83 : Arv Z h77 ta kt .int (3 : Int32) [(.int (1 : Int32)), (.int (0 : Int32)), (.int (0 : Int32))] (.int (0 : Int32)) := F74.other W77 (Ne.symm ne1)
  have F84 : Exa Z h77 vv cN_1 := F75.wr W77
  have Z77 : n0 ≤ h77.size := by rw [W77.size]; exact Z68
  have K77 : Keep h0 h77 [a, ta, va] := K68.wr W77 (Or.inl (List.mem_of_getElem? (i := 2) rfl))
  have N77 := Fr.snoc X77 N68 g_va
  refine w_ret0 X77 hx hlk hret (dB d5_24) (by decide) (by decide) ?_
  rw [e77]
  exact ⟨rfl, N77, K77, F79, F80, F81, F82, F83⟩
theorem ef_5ti2 (m : MethodId) (x0 : Addr) (x2 : Addr) : entryFrame m #[(.ref x0), (.int (2 : Int32)), (.ref x2)] 3 = mkF m 0 #[.val (.ref x0), .val (.int (2 : Int32)), .val (.ref x2)] [] := by first | (simp [entryFrame, mkF, argsToLocals, Value.category]; done) | rfl
def Q5ti2 (Z : State) (a : Addr) (vv : Addr) (va : Addr) (ta : Addr) (kv : ClassId) (kt : ClassId) (h0 : Heap) (n0 : Nat) (v : Option Value) (h : Heap) (L : List Loc) : Prop := v = none ∧ Fr n0 L ∧ Keep h0 h [a, ta, va] ∧ Fld Z h a cN_2 "values" cN_3 (.ref va) ∧ Fld Z h a cN_2 "trail" "[I" (.ref ta) ∧ Fld Z h a cN_2 "trailSize" "I" (.int (1 : Int32)) ∧ Arv Z h va kv (.object cN_4) (3 : Int32) [.null, .null, (.ref vv)] .null ∧ Arv Z h ta kt .int (3 : Int32) [(.int (2 : Int32)), (.int (0 : Int32)), (.int (0 : Int32))] (.int (0 : Int32))
set_option maxRecDepth 65536 in
set_option maxHeartbeats 40000000 in
theorem rm5ti2 (l : Launch) (Z : State) (a0 : Array Value) (hw : ∀ d ∈ tables_1, d.before a0 Z = true) (ws : List Jvm.Cond) (a : Addr) (vv : Addr) (va : Addr) (ta : Addr) (kv : ClassId) (kt : ClassId) (h0 : Heap) (n0 : Nat) (Z0 : n0 ≤ h0.size) (E_a : Exa Z h0 a cN_2) (F_values_a : Fld Z h0 a cN_2 "values" cN_3 (.ref va)) (F_trail_a : Fld Z h0 a cN_2 "trail" "[I" (.ref ta)) (F_trailSize_a : Fld Z h0 a cN_2 "trailSize" "I" (.int (0 : Int32))) (V_va : Arv Z h0 va kv (.object cN_4) (3 : Int32) [.null, .null, .null] .null) (V_ta : Arv Z h0 ta kt .int (3 : Int32) [(.int (0 : Int32)), (.int (0 : Int32)), (.int (0 : Int32))] (.int (0 : Int32))) (E_vv : Exa Z h0 vv cN_1) (g_a : n0 ≤ a) (g_ta : n0 ≤ ta) (g_va : n0 ≤ va) (ne1 : va ≠ ta) (ov : Ovr Z kv "com/example/simpagation/simpagation/Term") :
    CT l mN_5 prog_1_method_5_code 3 none ws ({ frames := 0, cells := 0, slots := 0, locals := 0 } : Room) #[(.ref a), (.int (2 : Int32)), (.ref vv)] Z h0 (Q5ti2 Z a vv va ta kv kt h0 n0) := by
  refine body_of (plainFor_of_name pn_2) ?_
  intro p e s m below meth c s₁ hx dB hret hlk hml hown0 hnm X0 e0 hZ
  have hown : s.vm.findClass cN_2 = some m.cls := hown0
  have N0 := Fr.nil n0
  rw [ef_5ti2]
  show Wk p e below (FN s (Q5ti2 Z a vv va ta kv kt h0 n0) 0 0) s₁ (mkF m 0 #[.val (.ref a), .val (.int (2 : Int32)), .val (.ref vv)] [])
  refine w_aloadN X0 hx (.ref a) (dB d5_0) 1 rfl rfl rfl ?_
  refine w_getF X0 hx hZ hown e0 (host := "") (Or.inl (tw_29 hw)) Via.refl F_trail_a (dB d5_1) 4 rfl (fun T85 X85 e85 => ?_)
  refine w_aloadN X85 hx (.ref a) (dB d5_4) 5 rfl rfl rfl ?_
  refine w_dup X85 hx (dB d5_5) 6 rfl rfl ?_
  refine w_getF X85 hx hZ hown e85 (host := "") (Or.inl (tw_36 hw)) Via.refl F_trailSize_a (dB d5_6) 9 rfl (fun T86 X86 e86 => ?_)
  refine w_dupX1 X86 hx (dB d5_9) 10 rfl rfl rfl ?_
  refine w_iconst X86 hx (dB d5_10) 11 rfl (1 : Int32) (by decide) ?_
  refine w_iadd X86 hx (dB d5_11) 12 rfl (show (1 : Int32) = (0 : Int32) + (1 : Int32) from by decide) ?_
  refine w_putF X86 hx hZ hown e86 (host := "") (Or.inl (tw_36 hw)) Via.refl F_trailSize_a E_a (Or.inl (tw_37 hw)) (tw_18 hw) (ty := .int) (by decide) rfl rfl (dB d5_12) 15 rfl (fun T87 h87 X87 e87 W87 => ?_)
  have F88 : Exa Z h87 a cN_2 := E_a.wr W87
  have F89 : Fld Z h87 a cN_2 "values" cN_3 (.ref va) := F_values_a.other W87 (Or.inr (slot_ne (Or.inr (tw_27 hw)) (Or.inl (tw_37 hw)) (by decide) (t := (.array (.object "com/example/simpagation/simpagation/Term"))) (t' := .int) (by decide) (by decide)))
  have F90 : Fld Z h87 a cN_2 "trail" "[I" (.ref ta) := F_trail_a.other W87 (Or.inr (slot_ne (Or.inr (tw_30 hw)) (Or.inl (tw_37 hw)) (by decide) (t := (.array .int)) (t' := .int) (by decide) (by decide)))
  have F91 : Fld Z h87 a cN_2 "trailSize" "I" (.int (1 : Int32)) := F_trailSize_a.same W87
  have F92 : Arv Z h87 va kv (.object cN_4) (3 : Int32) [.null, .null, .null] .null := V_va.other W87 (Ne.symm (ne_arv E_a (tw_18 hw) V_va))
  have F93 : Arv Z h87 ta kt .int (3 : Int32) [(.int (0 : Int32)), (.int (0 : Int32)), (.int (0 : Int32))] (.int (0 : Int32)) := V_ta.other W87 (Ne.symm (ne_arv E_a (tw_18 hw) V_ta))
  have F94 : Exa Z h87 vv cN_1 := E_vv.wr W87
  have Z87 : n0 ≤ h87.size := by rw [W87.size]; exact Z0
  have K87 : Keep h0 h87 [a, ta, va] := (Keep.refl h0 [a, ta, va]).wr W87 (Or.inl (List.mem_of_getElem? (i := 0) rfl))
  have N87 := Fr.snoc X87 N0 g_a
  refine w_iloadN X87 hx (2 : Int32) (dB d5_15) 16 rfl rfl ?_
  refine w_iastore X87 hx hZ e87 F93 ⟨by decide, by decide⟩ 0 (by decide) (show 0 < 3 from (by decide)) (dB d5_16) 17 rfl (fun T95 h95 X95 e95 W95 V95 => ?_)
  have F96 : Exa Z h95 a cN_2 := F88.wr W95
  have F97 : Fld Z h95 a cN_2 "values" cN_3 (.ref va) := F89.other W95 (Or.inl (ne_arv F88 (tw_18 hw) F93))
  have F98 : Fld Z h95 a cN_2 "trail" "[I" (.ref ta) := F90.other W95 (Or.inl (ne_arv F88 (tw_18 hw) F93))
  have F99 : Fld Z h95 a cN_2 "trailSize" "I" (.int (1 : Int32)) := F91.other W95 (Or.inl (ne_arv F88 (tw_18 hw) F93))
  have F100 : Arv Z h95 va kv (.object cN_4) (3 : Int32) [.null, .null, .null] .null := F92.other W95 ne1
  have F101 : Arv Z h95 ta kt .int (3 : Int32) [(.int (2 : Int32)), (.int (0 : Int32)), (.int (0 : Int32))] (.int (0 : Int32)) := V95
  have F102 : Exa Z h95 vv cN_1 := F94.wr W95
  have Z95 : n0 ≤ h95.size := by rw [W95.size]; exact Z87
  have K95 : Keep h0 h95 [a, ta, va] := K87.wr W95 (Or.inl (List.mem_of_getElem? (i := 1) rfl))
  have N95 := Fr.snoc X95 N87 g_ta
  refine w_aloadN X95 hx (.ref a) (dB d5_17) 18 rfl rfl rfl ?_
  refine w_getF X95 hx hZ hown e95 (host := "") (Or.inl (tw_26 hw)) Via.refl F97 (dB d5_18) 21 rfl (fun T103 X103 e103 => ?_)
  refine w_iloadN X103 hx (2 : Int32) (dB d5_21) 22 rfl rfl ?_
  refine w_aloadN X103 hx (.ref vv) (dB d5_22) 23 rfl rfl rfl ?_
  refine w_aastore X103 hx hZ e103 F100 ⟨by decide, by decide⟩ 2 (by decide) (show 2 < 3 from (by decide)) rfl (Or.inr ⟨_, rfl, ov, (Ins.of_exa F102 (tw_38 hw))⟩) (dB d5_23) 24 rfl (fun T104 h104 X104 e104 W104 V104 => ?_)
  have F105 : Exa Z h104 a cN_2 := F96.wr W104
  have F106 : Fld Z h104 a cN_2 "values" cN_3 (.ref va) := F97.other W104 (Or.inl (ne_arv F96 (tw_18 hw) F100))
  have F107 : Fld Z h104 a cN_2 "trail" "[I" (.ref ta) := F98.other W104 (Or.inl (ne_arv F96 (tw_18 hw) F100))
  have F108 : Fld Z h104 a cN_2 "trailSize" "I" (.int (1 : Int32)) := F99.other W104 (Or.inl (ne_arv F96 (tw_18 hw) F100))
  have F109 : Arv Z h104 va kv (.object cN_4) (3 : Int32) [.null, .null, (.ref vv)] .null := V104
  have F110 : Arv Z h104 ta kt .int (3 : Int32) [(.int (2 : Int32)), (.int (0 : Int32)), (.int (0 : Int32))] (.int (0 : Int32)) := F101.other W104 (Ne.symm ne1)
  have F111 : Exa Z h104 vv cN_1 := F102.wr W104
  have Z104 : n0 ≤ h104.size := by rw [W104.size]; exact Z95
  have K104 : Keep h0 h104 [a, ta, va] := K95.wr W104 (Or.inl (List.mem_of_getElem? (i := 2) rfl))
  have N104 := Fr.snoc X104 N95 g_va
  refine w_ret0 X104 hx hlk hret (dB d5_24) (by decide) (by decide) ?_
  rw [e104]
  exact ⟨rfl, N104, K104, F106, F107, F108, F109, F110⟩
theorem ef_5t0i1 (m : MethodId) (x0 : Addr) (x2 : Addr) : entryFrame m #[(.ref x0), (.int (1 : Int32)), (.ref x2)] 3 = mkF m 0 #[.val (.ref x0), .val (.int (1 : Int32)), .val (.ref x2)] [] := by first | (simp [entryFrame, mkF, argsToLocals, Value.category]; done) | rfl
def Q5t0i1 (Z : State) (a : Addr) (vv : Addr) (va : Addr) (ta : Addr) (kv : ClassId) (kt : ClassId) (h0 : Heap) (n0 : Nat) (v : Option Value) (h : Heap) (L : List Loc) : Prop := v = none ∧ Fr n0 L ∧ Keep h0 h [a, ta, va] ∧ Fld Z h a cN_2 "values" cN_3 (.ref va) ∧ Fld Z h a cN_2 "trail" "[I" (.ref ta) ∧ Fld Z h a cN_2 "trailSize" "I" (.int (2 : Int32)) ∧ Arv Z h va kv (.object cN_4) (3 : Int32) [(.ref vv), (.ref vv), .null] .null ∧ Arv Z h ta kt .int (3 : Int32) [(.int (0 : Int32)), (.int (1 : Int32)), (.int (0 : Int32))] (.int (0 : Int32))
set_option maxRecDepth 65536 in
set_option maxHeartbeats 40000000 in
theorem rm5t0i1 (l : Launch) (Z : State) (a0 : Array Value) (hw : ∀ d ∈ tables_1, d.before a0 Z = true) (ws : List Jvm.Cond) (a : Addr) (vv : Addr) (va : Addr) (ta : Addr) (kv : ClassId) (kt : ClassId) (h0 : Heap) (n0 : Nat) (Z0 : n0 ≤ h0.size) (E_a : Exa Z h0 a cN_2) (F_values_a : Fld Z h0 a cN_2 "values" cN_3 (.ref va)) (F_trail_a : Fld Z h0 a cN_2 "trail" "[I" (.ref ta)) (F_trailSize_a : Fld Z h0 a cN_2 "trailSize" "I" (.int (1 : Int32))) (V_va : Arv Z h0 va kv (.object cN_4) (3 : Int32) [(.ref vv), .null, .null] .null) (V_ta : Arv Z h0 ta kt .int (3 : Int32) [(.int (0 : Int32)), (.int (0 : Int32)), (.int (0 : Int32))] (.int (0 : Int32))) (E_vv : Exa Z h0 vv cN_1) (g_a : n0 ≤ a) (g_ta : n0 ≤ ta) (g_va : n0 ≤ va) (ne1 : va ≠ ta) (ov : Ovr Z kv "com/example/simpagation/simpagation/Term") :
    CT l mN_5 prog_1_method_5_code 3 none ws ({ frames := 0, cells := 0, slots := 0, locals := 0 } : Room) #[(.ref a), (.int (1 : Int32)), (.ref vv)] Z h0 (Q5t0i1 Z a vv va ta kv kt h0 n0) := by
  refine body_of (plainFor_of_name pn_2) ?_
  intro p e s m below meth c s₁ hx dB hret hlk hml hown0 hnm X0 e0 hZ
  have hown : s.vm.findClass cN_2 = some m.cls := hown0
  have N0 := Fr.nil n0
  rw [ef_5t0i1]
  show Wk p e below (FN s (Q5t0i1 Z a vv va ta kv kt h0 n0) 0 0) s₁ (mkF m 0 #[.val (.ref a), .val (.int (1 : Int32)), .val (.ref vv)] [])
  refine w_aloadN X0 hx (.ref a) (dB d5_0) 1 rfl rfl rfl ?_
  refine w_getF X0 hx hZ hown e0 (host := "") (Or.inl (tw_29 hw)) Via.refl F_trail_a (dB d5_1) 4 rfl (fun T112 X112 e112 => ?_)
  refine w_aloadN X112 hx (.ref a) (dB d5_4) 5 rfl rfl rfl ?_
  refine w_dup X112 hx (dB d5_5) 6 rfl rfl ?_
  refine w_getF X112 hx hZ hown e112 (host := "") (Or.inl (tw_36 hw)) Via.refl F_trailSize_a (dB d5_6) 9 rfl (fun T113 X113 e113 => ?_)
  refine w_dupX1 X113 hx (dB d5_9) 10 rfl rfl rfl ?_
  refine w_iconst X113 hx (dB d5_10) 11 rfl (1 : Int32) (by decide) ?_
  refine w_iadd X113 hx (dB d5_11) 12 rfl (show (2 : Int32) = (1 : Int32) + (1 : Int32) from by decide) ?_
  refine w_putF X113 hx hZ hown e113 (host := "") (Or.inl (tw_36 hw)) Via.refl F_trailSize_a E_a (Or.inl (tw_37 hw)) (tw_18 hw) (ty := .int) (by decide) rfl rfl (dB d5_12) 15 rfl (fun T114 h114 X114 e114 W114 => ?_)
  have F115 : Exa Z h114 a cN_2 := E_a.wr W114
  have F116 : Fld Z h114 a cN_2 "values" cN_3 (.ref va) := F_values_a.other W114 (Or.inr (slot_ne (Or.inr (tw_27 hw)) (Or.inl (tw_37 hw)) (by decide) (t := (.array (.object "com/example/simpagation/simpagation/Term"))) (t' := .int) (by decide) (by decide)))
  have F117 : Fld Z h114 a cN_2 "trail" "[I" (.ref ta) := F_trail_a.other W114 (Or.inr (slot_ne (Or.inr (tw_30 hw)) (Or.inl (tw_37 hw)) (by decide) (t := (.array .int)) (t' := .int) (by decide) (by decide)))
  have F118 : Fld Z h114 a cN_2 "trailSize" "I" (.int (2 : Int32)) := F_trailSize_a.same W114
  have F119 : Arv Z h114 va kv (.object cN_4) (3 : Int32) [(.ref vv), .null, .null] .null := V_va.other W114 (Ne.symm (ne_arv E_a (tw_18 hw) V_va))
  have F120 : Arv Z h114 ta kt .int (3 : Int32) [(.int (0 : Int32)), (.int (0 : Int32)), (.int (0 : Int32))] (.int (0 : Int32)) := V_ta.other W114 (Ne.symm (ne_arv E_a (tw_18 hw) V_ta))
  have F121 : Exa Z h114 vv cN_1 := E_vv.wr W114
  have Z114 : n0 ≤ h114.size := by rw [W114.size]; exact Z0
  have K114 : Keep h0 h114 [a, ta, va] := (Keep.refl h0 [a, ta, va]).wr W114 (Or.inl (List.mem_of_getElem? (i := 0) rfl))
  have N114 := Fr.snoc X114 N0 g_a
  refine w_iloadN X114 hx (1 : Int32) (dB d5_15) 16 rfl rfl ?_
  refine w_iastore X114 hx hZ e114 F120 ⟨by decide, by decide⟩ 1 (by decide) (show 1 < 3 from (by decide)) (dB d5_16) 17 rfl (fun T122 h122 X122 e122 W122 V122 => ?_)
  have F123 : Exa Z h122 a cN_2 := F115.wr W122
  have F124 : Fld Z h122 a cN_2 "values" cN_3 (.ref va) := F116.other W122 (Or.inl (ne_arv F115 (tw_18 hw) F120))
  have F125 : Fld Z h122 a cN_2 "trail" "[I" (.ref ta) := F117.other W122 (Or.inl (ne_arv F115 (tw_18 hw) F120))
  have F126 : Fld Z h122 a cN_2 "trailSize" "I" (.int (2 : Int32)) := F118.other W122 (Or.inl (ne_arv F115 (tw_18 hw) F120))
  have F127 : Arv Z h122 va kv (.object cN_4) (3 : Int32) [(.ref vv), .null, .null] .null := F119.other W122 ne1
  have F128 : Arv Z h122 ta kt .int (3 : Int32) [(.int (0 : Int32)), (.int (1 : Int32)), (.int (0 : Int32))] (.int (0 : Int32)) := V122
  have F129 : Exa Z h122 vv cN_1 := F121.wr W122
  have Z122 : n0 ≤ h122.size := by rw [W122.size]; exact Z114
  have K122 : Keep h0 h122 [a, ta, va] := K114.wr W122 (Or.inl (List.mem_of_getElem? (i := 1) rfl))
  have N122 := Fr.snoc X122 N114 g_ta
  refine w_aloadN X122 hx (.ref a) (dB d5_17) 18 rfl rfl rfl ?_
  refine w_getF X122 hx hZ hown e122 (host := "") (Or.inl (tw_26 hw)) Via.refl F124 (dB d5_18) 21 rfl (fun T130 X130 e130 => ?_)
  refine w_iloadN X130 hx (1 : Int32) (dB d5_21) 22 rfl rfl ?_
  refine w_aloadN X130 hx (.ref vv) (dB d5_22) 23 rfl rfl rfl ?_
  refine w_aastore X130 hx hZ e130 F127 ⟨by decide, by decide⟩ 1 (by decide) (show 1 < 3 from (by decide)) rfl (Or.inr ⟨_, rfl, ov, (Ins.of_exa F129 (tw_38 hw))⟩) (dB d5_23) 24 rfl (fun T131 h131 X131 e131 W131 V131 => ?_)
  have F132 : Exa Z h131 a cN_2 := F123.wr W131
  have F133 : Fld Z h131 a cN_2 "values" cN_3 (.ref va) := F124.other W131 (Or.inl (ne_arv F123 (tw_18 hw) F127))
  have F134 : Fld Z h131 a cN_2 "trail" "[I" (.ref ta) := F125.other W131 (Or.inl (ne_arv F123 (tw_18 hw) F127))
  have F135 : Fld Z h131 a cN_2 "trailSize" "I" (.int (2 : Int32)) := F126.other W131 (Or.inl (ne_arv F123 (tw_18 hw) F127))
  have F136 : Arv Z h131 va kv (.object cN_4) (3 : Int32) [(.ref vv), (.ref vv), .null] .null := V131
  have F137 : Arv Z h131 ta kt .int (3 : Int32) [(.int (0 : Int32)), (.int (1 : Int32)), (.int (0 : Int32))] (.int (0 : Int32)) := F128.other W131 (Ne.symm ne1)
  have F138 : Exa Z h131 vv cN_1 := F129.wr W131
  have Z131 : n0 ≤ h131.size := by rw [W131.size]; exact Z122
  have K131 : Keep h0 h131 [a, ta, va] := K122.wr W131 (Or.inl (List.mem_of_getElem? (i := 2) rfl))
  have N131 := Fr.snoc X131 N122 g_va
  refine w_ret0 X131 hx hlk hret (dB d5_24) (by decide) (by decide) ?_
  rw [e131]
  exact ⟨rfl, N131, K131, F133, F134, F135, F136, F137⟩
theorem ef_5t0i2 (m : MethodId) (x0 : Addr) (x2 : Addr) : entryFrame m #[(.ref x0), (.int (2 : Int32)), (.ref x2)] 3 = mkF m 0 #[.val (.ref x0), .val (.int (2 : Int32)), .val (.ref x2)] [] := by first | (simp [entryFrame, mkF, argsToLocals, Value.category]; done) | rfl
def Q5t0i2 (Z : State) (a : Addr) (vv : Addr) (va : Addr) (ta : Addr) (kv : ClassId) (kt : ClassId) (h0 : Heap) (n0 : Nat) (v : Option Value) (h : Heap) (L : List Loc) : Prop := v = none ∧ Fr n0 L ∧ Keep h0 h [a, ta, va] ∧ Fld Z h a cN_2 "values" cN_3 (.ref va) ∧ Fld Z h a cN_2 "trail" "[I" (.ref ta) ∧ Fld Z h a cN_2 "trailSize" "I" (.int (2 : Int32)) ∧ Arv Z h va kv (.object cN_4) (3 : Int32) [(.ref vv), .null, (.ref vv)] .null ∧ Arv Z h ta kt .int (3 : Int32) [(.int (0 : Int32)), (.int (2 : Int32)), (.int (0 : Int32))] (.int (0 : Int32))
set_option maxRecDepth 65536 in
set_option maxHeartbeats 40000000 in
theorem rm5t0i2 (l : Launch) (Z : State) (a0 : Array Value) (hw : ∀ d ∈ tables_1, d.before a0 Z = true) (ws : List Jvm.Cond) (a : Addr) (vv : Addr) (va : Addr) (ta : Addr) (kv : ClassId) (kt : ClassId) (h0 : Heap) (n0 : Nat) (Z0 : n0 ≤ h0.size) (E_a : Exa Z h0 a cN_2) (F_values_a : Fld Z h0 a cN_2 "values" cN_3 (.ref va)) (F_trail_a : Fld Z h0 a cN_2 "trail" "[I" (.ref ta)) (F_trailSize_a : Fld Z h0 a cN_2 "trailSize" "I" (.int (1 : Int32))) (V_va : Arv Z h0 va kv (.object cN_4) (3 : Int32) [(.ref vv), .null, .null] .null) (V_ta : Arv Z h0 ta kt .int (3 : Int32) [(.int (0 : Int32)), (.int (0 : Int32)), (.int (0 : Int32))] (.int (0 : Int32))) (E_vv : Exa Z h0 vv cN_1) (g_a : n0 ≤ a) (g_ta : n0 ≤ ta) (g_va : n0 ≤ va) (ne1 : va ≠ ta) (ov : Ovr Z kv "com/example/simpagation/simpagation/Term") :
    CT l mN_5 prog_1_method_5_code 3 none ws ({ frames := 0, cells := 0, slots := 0, locals := 0 } : Room) #[(.ref a), (.int (2 : Int32)), (.ref vv)] Z h0 (Q5t0i2 Z a vv va ta kv kt h0 n0) := by
  refine body_of (plainFor_of_name pn_2) ?_
  intro p e s m below meth c s₁ hx dB hret hlk hml hown0 hnm X0 e0 hZ
  have hown : s.vm.findClass cN_2 = some m.cls := hown0
  have N0 := Fr.nil n0
  rw [ef_5t0i2]
  show Wk p e below (FN s (Q5t0i2 Z a vv va ta kv kt h0 n0) 0 0) s₁ (mkF m 0 #[.val (.ref a), .val (.int (2 : Int32)), .val (.ref vv)] [])
  refine w_aloadN X0 hx (.ref a) (dB d5_0) 1 rfl rfl rfl ?_
  refine w_getF X0 hx hZ hown e0 (host := "") (Or.inl (tw_29 hw)) Via.refl F_trail_a (dB d5_1) 4 rfl (fun T139 X139 e139 => ?_)
  refine w_aloadN X139 hx (.ref a) (dB d5_4) 5 rfl rfl rfl ?_
  refine w_dup X139 hx (dB d5_5) 6 rfl rfl ?_
  refine w_getF X139 hx hZ hown e139 (host := "") (Or.inl (tw_36 hw)) Via.refl F_trailSize_a (dB d5_6) 9 rfl (fun T140 X140 e140 => ?_)
  refine w_dupX1 X140 hx (dB d5_9) 10 rfl rfl rfl ?_
  refine w_iconst X140 hx (dB d5_10) 11 rfl (1 : Int32) (by decide) ?_
  refine w_iadd X140 hx (dB d5_11) 12 rfl (show (2 : Int32) = (1 : Int32) + (1 : Int32) from by decide) ?_
  refine w_putF X140 hx hZ hown e140 (host := "") (Or.inl (tw_36 hw)) Via.refl F_trailSize_a E_a (Or.inl (tw_37 hw)) (tw_18 hw) (ty := .int) (by decide) rfl rfl (dB d5_12) 15 rfl (fun T141 h141 X141 e141 W141 => ?_)
  have F142 : Exa Z h141 a cN_2 := E_a.wr W141
  have F143 : Fld Z h141 a cN_2 "values" cN_3 (.ref va) := F_values_a.other W141 (Or.inr (slot_ne (Or.inr (tw_27 hw)) (Or.inl (tw_37 hw)) (by decide) (t := (.array (.object "com/example/simpagation/simpagation/Term"))) (t' := .int) (by decide) (by decide)))
  have F144 : Fld Z h141 a cN_2 "trail" "[I" (.ref ta) := F_trail_a.other W141 (Or.inr (slot_ne (Or.inr (tw_30 hw)) (Or.inl (tw_37 hw)) (by decide) (t := (.array .int)) (t' := .int) (by decide) (by decide)))
  have F145 : Fld Z h141 a cN_2 "trailSize" "I" (.int (2 : Int32)) := F_trailSize_a.same W141
  have F146 : Arv Z h141 va kv (.object cN_4) (3 : Int32) [(.ref vv), .null, .null] .null := V_va.other W141 (Ne.symm (ne_arv E_a (tw_18 hw) V_va))
  have F147 : Arv Z h141 ta kt .int (3 : Int32) [(.int (0 : Int32)), (.int (0 : Int32)), (.int (0 : Int32))] (.int (0 : Int32)) := V_ta.other W141 (Ne.symm (ne_arv E_a (tw_18 hw) V_ta))
  have F148 : Exa Z h141 vv cN_1 := E_vv.wr W141
  have Z141 : n0 ≤ h141.size := by rw [W141.size]; exact Z0
  have K141 : Keep h0 h141 [a, ta, va] := (Keep.refl h0 [a, ta, va]).wr W141 (Or.inl (List.mem_of_getElem? (i := 0) rfl))
  have N141 := Fr.snoc X141 N0 g_a
  refine w_iloadN X141 hx (2 : Int32) (dB d5_15) 16 rfl rfl ?_
  refine w_iastore X141 hx hZ e141 F147 ⟨by decide, by decide⟩ 1 (by decide) (show 1 < 3 from (by decide)) (dB d5_16) 17 rfl (fun T149 h149 X149 e149 W149 V149 => ?_)
  have F150 : Exa Z h149 a cN_2 := F142.wr W149
  have F151 : Fld Z h149 a cN_2 "values" cN_3 (.ref va) := F143.other W149 (Or.inl (ne_arv F142 (tw_18 hw) F147))
  have F152 : Fld Z h149 a cN_2 "trail" "[I" (.ref ta) := F144.other W149 (Or.inl (ne_arv F142 (tw_18 hw) F147))
  have F153 : Fld Z h149 a cN_2 "trailSize" "I" (.int (2 : Int32)) := F145.other W149 (Or.inl (ne_arv F142 (tw_18 hw) F147))
  have F154 : Arv Z h149 va kv (.object cN_4) (3 : Int32) [(.ref vv), .null, .null] .null := F146.other W149 ne1
  have F155 : Arv Z h149 ta kt .int (3 : Int32) [(.int (0 : Int32)), (.int (2 : Int32)), (.int (0 : Int32))] (.int (0 : Int32)) := V149
  have F156 : Exa Z h149 vv cN_1 := F148.wr W149
  have Z149 : n0 ≤ h149.size := by rw [W149.size]; exact Z141
  have K149 : Keep h0 h149 [a, ta, va] := K141.wr W149 (Or.inl (List.mem_of_getElem? (i := 1) rfl))
  have N149 := Fr.snoc X149 N141 g_ta
  refine w_aloadN X149 hx (.ref a) (dB d5_17) 18 rfl rfl rfl ?_
  refine w_getF X149 hx hZ hown e149 (host := "") (Or.inl (tw_26 hw)) Via.refl F151 (dB d5_18) 21 rfl (fun T157 X157 e157 => ?_)
  refine w_iloadN X157 hx (2 : Int32) (dB d5_21) 22 rfl rfl ?_
  refine w_aloadN X157 hx (.ref vv) (dB d5_22) 23 rfl rfl rfl ?_
  refine w_aastore X157 hx hZ e157 F154 ⟨by decide, by decide⟩ 2 (by decide) (show 2 < 3 from (by decide)) rfl (Or.inr ⟨_, rfl, ov, (Ins.of_exa F156 (tw_38 hw))⟩) (dB d5_23) 24 rfl (fun T158 h158 X158 e158 W158 V158 => ?_)
  have F159 : Exa Z h158 a cN_2 := F150.wr W158
  have F160 : Fld Z h158 a cN_2 "values" cN_3 (.ref va) := F151.other W158 (Or.inl (ne_arv F150 (tw_18 hw) F154))
  have F161 : Fld Z h158 a cN_2 "trail" "[I" (.ref ta) := F152.other W158 (Or.inl (ne_arv F150 (tw_18 hw) F154))
  have F162 : Fld Z h158 a cN_2 "trailSize" "I" (.int (2 : Int32)) := F153.other W158 (Or.inl (ne_arv F150 (tw_18 hw) F154))
  have F163 : Arv Z h158 va kv (.object cN_4) (3 : Int32) [(.ref vv), .null, (.ref vv)] .null := V158
  have F164 : Arv Z h158 ta kt .int (3 : Int32) [(.int (0 : Int32)), (.int (2 : Int32)), (.int (0 : Int32))] (.int (0 : Int32)) := F155.other W158 (Ne.symm ne1)
  have F165 : Exa Z h158 vv cN_1 := F156.wr W158
  have Z158 : n0 ≤ h158.size := by rw [W158.size]; exact Z149
  have K158 : Keep h0 h158 [a, ta, va] := K149.wr W158 (Or.inl (List.mem_of_getElem? (i := 2) rfl))
  have N158 := Fr.snoc X158 N149 g_va
  refine w_ret0 X158 hx hlk hret (dB d5_24) (by decide) (by decide) ?_
  rw [e158]
  exact ⟨rfl, N158, K158, F160, F161, F162, F163, F164⟩
theorem ef_5t1i0 (m : MethodId) (x0 : Addr) (x2 : Addr) : entryFrame m #[(.ref x0), (.int (0 : Int32)), (.ref x2)] 3 = mkF m 0 #[.val (.ref x0), .val (.int (0 : Int32)), .val (.ref x2)] [] := by first | (simp [entryFrame, mkF, argsToLocals, Value.category]; done) | rfl
def Q5t1i0 (Z : State) (a : Addr) (vv : Addr) (va : Addr) (ta : Addr) (kv : ClassId) (kt : ClassId) (h0 : Heap) (n0 : Nat) (v : Option Value) (h : Heap) (L : List Loc) : Prop := v = none ∧ Fr n0 L ∧ Keep h0 h [a, ta, va] ∧ Fld Z h a cN_2 "values" cN_3 (.ref va) ∧ Fld Z h a cN_2 "trail" "[I" (.ref ta) ∧ Fld Z h a cN_2 "trailSize" "I" (.int (2 : Int32)) ∧ Arv Z h va kv (.object cN_4) (3 : Int32) [(.ref vv), (.ref vv), .null] .null ∧ Arv Z h ta kt .int (3 : Int32) [(.int (1 : Int32)), (.int (0 : Int32)), (.int (0 : Int32))] (.int (0 : Int32))
set_option maxRecDepth 65536 in
set_option maxHeartbeats 40000000 in
theorem rm5t1i0 (l : Launch) (Z : State) (a0 : Array Value) (hw : ∀ d ∈ tables_1, d.before a0 Z = true) (ws : List Jvm.Cond) (a : Addr) (vv : Addr) (va : Addr) (ta : Addr) (kv : ClassId) (kt : ClassId) (h0 : Heap) (n0 : Nat) (Z0 : n0 ≤ h0.size) (E_a : Exa Z h0 a cN_2) (F_values_a : Fld Z h0 a cN_2 "values" cN_3 (.ref va)) (F_trail_a : Fld Z h0 a cN_2 "trail" "[I" (.ref ta)) (F_trailSize_a : Fld Z h0 a cN_2 "trailSize" "I" (.int (1 : Int32))) (V_va : Arv Z h0 va kv (.object cN_4) (3 : Int32) [.null, (.ref vv), .null] .null) (V_ta : Arv Z h0 ta kt .int (3 : Int32) [(.int (1 : Int32)), (.int (0 : Int32)), (.int (0 : Int32))] (.int (0 : Int32))) (E_vv : Exa Z h0 vv cN_1) (g_a : n0 ≤ a) (g_ta : n0 ≤ ta) (g_va : n0 ≤ va) (ne1 : va ≠ ta) (ov : Ovr Z kv "com/example/simpagation/simpagation/Term") :
    CT l mN_5 prog_1_method_5_code 3 none ws ({ frames := 0, cells := 0, slots := 0, locals := 0 } : Room) #[(.ref a), (.int (0 : Int32)), (.ref vv)] Z h0 (Q5t1i0 Z a vv va ta kv kt h0 n0) := by
  refine body_of (plainFor_of_name pn_2) ?_
  intro p e s m below meth c s₁ hx dB hret hlk hml hown0 hnm X0 e0 hZ
  have hown : s.vm.findClass cN_2 = some m.cls := hown0
  have N0 := Fr.nil n0
  rw [ef_5t1i0]
  show Wk p e below (FN s (Q5t1i0 Z a vv va ta kv kt h0 n0) 0 0) s₁ (mkF m 0 #[.val (.ref a), .val (.int (0 : Int32)), .val (.ref vv)] [])
  refine w_aloadN X0 hx (.ref a) (dB d5_0) 1 rfl rfl rfl ?_
  refine w_getF X0 hx hZ hown e0 (host := "") (Or.inl (tw_29 hw)) Via.refl F_trail_a (dB d5_1) 4 rfl (fun T166 X166 e166 => ?_)
  refine w_aloadN X166 hx (.ref a) (dB d5_4) 5 rfl rfl rfl ?_
  refine w_dup X166 hx (dB d5_5) 6 rfl rfl ?_
  refine w_getF X166 hx hZ hown e166 (host := "") (Or.inl (tw_36 hw)) Via.refl F_trailSize_a (dB d5_6) 9 rfl (fun T167 X167 e167 => ?_)
  refine w_dupX1 X167 hx (dB d5_9) 10 rfl rfl rfl ?_
  refine w_iconst X167 hx (dB d5_10) 11 rfl (1 : Int32) (by decide) ?_
  refine w_iadd X167 hx (dB d5_11) 12 rfl (show (2 : Int32) = (1 : Int32) + (1 : Int32) from by decide) ?_
  refine w_putF X167 hx hZ hown e167 (host := "") (Or.inl (tw_36 hw)) Via.refl F_trailSize_a E_a (Or.inl (tw_37 hw)) (tw_18 hw) (ty := .int) (by decide) rfl rfl (dB d5_12) 15 rfl (fun T168 h168 X168 e168 W168 => ?_)
  have F169 : Exa Z h168 a cN_2 := E_a.wr W168
  have F170 : Fld Z h168 a cN_2 "values" cN_3 (.ref va) := F_values_a.other W168 (Or.inr (slot_ne (Or.inr (tw_27 hw)) (Or.inl (tw_37 hw)) (by decide) (t := (.array (.object "com/example/simpagation/simpagation/Term"))) (t' := .int) (by decide) (by decide)))
  have F171 : Fld Z h168 a cN_2 "trail" "[I" (.ref ta) := F_trail_a.other W168 (Or.inr (slot_ne (Or.inr (tw_30 hw)) (Or.inl (tw_37 hw)) (by decide) (t := (.array .int)) (t' := .int) (by decide) (by decide)))
  have F172 : Fld Z h168 a cN_2 "trailSize" "I" (.int (2 : Int32)) := F_trailSize_a.same W168
  have F173 : Arv Z h168 va kv (.object cN_4) (3 : Int32) [.null, (.ref vv), .null] .null := V_va.other W168 (Ne.symm (ne_arv E_a (tw_18 hw) V_va))
  have F174 : Arv Z h168 ta kt .int (3 : Int32) [(.int (1 : Int32)), (.int (0 : Int32)), (.int (0 : Int32))] (.int (0 : Int32)) := V_ta.other W168 (Ne.symm (ne_arv E_a (tw_18 hw) V_ta))
  have F175 : Exa Z h168 vv cN_1 := E_vv.wr W168
  have Z168 : n0 ≤ h168.size := by rw [W168.size]; exact Z0
  have K168 : Keep h0 h168 [a, ta, va] := (Keep.refl h0 [a, ta, va]).wr W168 (Or.inl (List.mem_of_getElem? (i := 0) rfl))
  have N168 := Fr.snoc X168 N0 g_a
  refine w_iloadN X168 hx (0 : Int32) (dB d5_15) 16 rfl rfl ?_
  refine w_iastore X168 hx hZ e168 F174 ⟨by decide, by decide⟩ 1 (by decide) (show 1 < 3 from (by decide)) (dB d5_16) 17 rfl (fun T176 h176 X176 e176 W176 V176 => ?_)
  have F177 : Exa Z h176 a cN_2 := F169.wr W176
  have F178 : Fld Z h176 a cN_2 "values" cN_3 (.ref va) := F170.other W176 (Or.inl (ne_arv F169 (tw_18 hw) F174))
  have F179 : Fld Z h176 a cN_2 "trail" "[I" (.ref ta) := F171.other W176 (Or.inl (ne_arv F169 (tw_18 hw) F174))
  have F180 : Fld Z h176 a cN_2 "trailSize" "I" (.int (2 : Int32)) := F172.other W176 (Or.inl (ne_arv F169 (tw_18 hw) F174))
  have F181 : Arv Z h176 va kv (.object cN_4) (3 : Int32) [.null, (.ref vv), .null] .null := F173.other W176 ne1
  have F182 : Arv Z h176 ta kt .int (3 : Int32) [(.int (1 : Int32)), (.int (0 : Int32)), (.int (0 : Int32))] (.int (0 : Int32)) := V176
  have F183 : Exa Z h176 vv cN_1 := F175.wr W176
  have Z176 : n0 ≤ h176.size := by rw [W176.size]; exact Z168
  have K176 : Keep h0 h176 [a, ta, va] := K168.wr W176 (Or.inl (List.mem_of_getElem? (i := 1) rfl))
  have N176 := Fr.snoc X176 N168 g_ta
  refine w_aloadN X176 hx (.ref a) (dB d5_17) 18 rfl rfl rfl ?_
  refine w_getF X176 hx hZ hown e176 (host := "") (Or.inl (tw_26 hw)) Via.refl F178 (dB d5_18) 21 rfl (fun T184 X184 e184 => ?_)
  refine w_iloadN X184 hx (0 : Int32) (dB d5_21) 22 rfl rfl ?_
  refine w_aloadN X184 hx (.ref vv) (dB d5_22) 23 rfl rfl rfl ?_
  refine w_aastore X184 hx hZ e184 F181 ⟨by decide, by decide⟩ 0 (by decide) (show 0 < 3 from (by decide)) rfl (Or.inr ⟨_, rfl, ov, (Ins.of_exa F183 (tw_38 hw))⟩) (dB d5_23) 24 rfl (fun T185 h185 X185 e185 W185 V185 => ?_)
  have F186 : Exa Z h185 a cN_2 := F177.wr W185
  have F187 : Fld Z h185 a cN_2 "values" cN_3 (.ref va) := F178.other W185 (Or.inl (ne_arv F177 (tw_18 hw) F181))
  have F188 : Fld Z h185 a cN_2 "trail" "[I" (.ref ta) := F179.other W185 (Or.inl (ne_arv F177 (tw_18 hw) F181))
  have F189 : Fld Z h185 a cN_2 "trailSize" "I" (.int (2 : Int32)) := F180.other W185 (Or.inl (ne_arv F177 (tw_18 hw) F181))
  have F190 : Arv Z h185 va kv (.object cN_4) (3 : Int32) [(.ref vv), (.ref vv), .null] .null := V185
  have F191 : Arv Z h185 ta kt .int (3 : Int32) [(.int (1 : Int32)), (.int (0 : Int32)), (.int (0 : Int32))] (.int (0 : Int32)) := F182.other W185 (Ne.symm ne1)
  have F192 : Exa Z h185 vv cN_1 := F183.wr W185
  have Z185 : n0 ≤ h185.size := by rw [W185.size]; exact Z176
  have K185 : Keep h0 h185 [a, ta, va] := K176.wr W185 (Or.inl (List.mem_of_getElem? (i := 2) rfl))
  have N185 := Fr.snoc X185 N176 g_va
  refine w_ret0 X185 hx hlk hret (dB d5_24) (by decide) (by decide) ?_
  rw [e185]
  exact ⟨rfl, N185, K185, F187, F188, F189, F190, F191⟩
theorem ef_5t1i2 (m : MethodId) (x0 : Addr) (x2 : Addr) : entryFrame m #[(.ref x0), (.int (2 : Int32)), (.ref x2)] 3 = mkF m 0 #[.val (.ref x0), .val (.int (2 : Int32)), .val (.ref x2)] [] := by first | (simp [entryFrame, mkF, argsToLocals, Value.category]; done) | rfl
def Q5t1i2 (Z : State) (a : Addr) (vv : Addr) (va : Addr) (ta : Addr) (kv : ClassId) (kt : ClassId) (h0 : Heap) (n0 : Nat) (v : Option Value) (h : Heap) (L : List Loc) : Prop := v = none ∧ Fr n0 L ∧ Keep h0 h [a, ta, va] ∧ Fld Z h a cN_2 "values" cN_3 (.ref va) ∧ Fld Z h a cN_2 "trail" "[I" (.ref ta) ∧ Fld Z h a cN_2 "trailSize" "I" (.int (2 : Int32)) ∧ Arv Z h va kv (.object cN_4) (3 : Int32) [.null, (.ref vv), (.ref vv)] .null ∧ Arv Z h ta kt .int (3 : Int32) [(.int (1 : Int32)), (.int (2 : Int32)), (.int (0 : Int32))] (.int (0 : Int32))
set_option maxRecDepth 65536 in
set_option maxHeartbeats 40000000 in
theorem rm5t1i2 (l : Launch) (Z : State) (a0 : Array Value) (hw : ∀ d ∈ tables_1, d.before a0 Z = true) (ws : List Jvm.Cond) (a : Addr) (vv : Addr) (va : Addr) (ta : Addr) (kv : ClassId) (kt : ClassId) (h0 : Heap) (n0 : Nat) (Z0 : n0 ≤ h0.size) (E_a : Exa Z h0 a cN_2) (F_values_a : Fld Z h0 a cN_2 "values" cN_3 (.ref va)) (F_trail_a : Fld Z h0 a cN_2 "trail" "[I" (.ref ta)) (F_trailSize_a : Fld Z h0 a cN_2 "trailSize" "I" (.int (1 : Int32))) (V_va : Arv Z h0 va kv (.object cN_4) (3 : Int32) [.null, (.ref vv), .null] .null) (V_ta : Arv Z h0 ta kt .int (3 : Int32) [(.int (1 : Int32)), (.int (0 : Int32)), (.int (0 : Int32))] (.int (0 : Int32))) (E_vv : Exa Z h0 vv cN_1) (g_a : n0 ≤ a) (g_ta : n0 ≤ ta) (g_va : n0 ≤ va) (ne1 : va ≠ ta) (ov : Ovr Z kv "com/example/simpagation/simpagation/Term") :
    CT l mN_5 prog_1_method_5_code 3 none ws ({ frames := 0, cells := 0, slots := 0, locals := 0 } : Room) #[(.ref a), (.int (2 : Int32)), (.ref vv)] Z h0 (Q5t1i2 Z a vv va ta kv kt h0 n0) := by
  refine body_of (plainFor_of_name pn_2) ?_
  intro p e s m below meth c s₁ hx dB hret hlk hml hown0 hnm X0 e0 hZ
  have hown : s.vm.findClass cN_2 = some m.cls := hown0
  have N0 := Fr.nil n0
  rw [ef_5t1i2]
  show Wk p e below (FN s (Q5t1i2 Z a vv va ta kv kt h0 n0) 0 0) s₁ (mkF m 0 #[.val (.ref a), .val (.int (2 : Int32)), .val (.ref vv)] [])
  refine w_aloadN X0 hx (.ref a) (dB d5_0) 1 rfl rfl rfl ?_
  refine w_getF X0 hx hZ hown e0 (host := "") (Or.inl (tw_29 hw)) Via.refl F_trail_a (dB d5_1) 4 rfl (fun T193 X193 e193 => ?_)
  refine w_aloadN X193 hx (.ref a) (dB d5_4) 5 rfl rfl rfl ?_
  refine w_dup X193 hx (dB d5_5) 6 rfl rfl ?_
  refine w_getF X193 hx hZ hown e193 (host := "") (Or.inl (tw_36 hw)) Via.refl F_trailSize_a (dB d5_6) 9 rfl (fun T194 X194 e194 => ?_)
  refine w_dupX1 X194 hx (dB d5_9) 10 rfl rfl rfl ?_
  refine w_iconst X194 hx (dB d5_10) 11 rfl (1 : Int32) (by decide) ?_
  refine w_iadd X194 hx (dB d5_11) 12 rfl (show (2 : Int32) = (1 : Int32) + (1 : Int32) from by decide) ?_
  refine w_putF X194 hx hZ hown e194 (host := "") (Or.inl (tw_36 hw)) Via.refl F_trailSize_a E_a (Or.inl (tw_37 hw)) (tw_18 hw) (ty := .int) (by decide) rfl rfl (dB d5_12) 15 rfl (fun T195 h195 X195 e195 W195 => ?_)
  have F196 : Exa Z h195 a cN_2 := E_a.wr W195
  have F197 : Fld Z h195 a cN_2 "values" cN_3 (.ref va) := F_values_a.other W195 (Or.inr (slot_ne (Or.inr (tw_27 hw)) (Or.inl (tw_37 hw)) (by decide) (t := (.array (.object "com/example/simpagation/simpagation/Term"))) (t' := .int) (by decide) (by decide)))
  have F198 : Fld Z h195 a cN_2 "trail" "[I" (.ref ta) := F_trail_a.other W195 (Or.inr (slot_ne (Or.inr (tw_30 hw)) (Or.inl (tw_37 hw)) (by decide) (t := (.array .int)) (t' := .int) (by decide) (by decide)))
  have F199 : Fld Z h195 a cN_2 "trailSize" "I" (.int (2 : Int32)) := F_trailSize_a.same W195
  have F200 : Arv Z h195 va kv (.object cN_4) (3 : Int32) [.null, (.ref vv), .null] .null := V_va.other W195 (Ne.symm (ne_arv E_a (tw_18 hw) V_va))
  have F201 : Arv Z h195 ta kt .int (3 : Int32) [(.int (1 : Int32)), (.int (0 : Int32)), (.int (0 : Int32))] (.int (0 : Int32)) := V_ta.other W195 (Ne.symm (ne_arv E_a (tw_18 hw) V_ta))
  have F202 : Exa Z h195 vv cN_1 := E_vv.wr W195
  have Z195 : n0 ≤ h195.size := by rw [W195.size]; exact Z0
  have K195 : Keep h0 h195 [a, ta, va] := (Keep.refl h0 [a, ta, va]).wr W195 (Or.inl (List.mem_of_getElem? (i := 0) rfl))
  have N195 := Fr.snoc X195 N0 g_a
  refine w_iloadN X195 hx (2 : Int32) (dB d5_15) 16 rfl rfl ?_
  refine w_iastore X195 hx hZ e195 F201 ⟨by decide, by decide⟩ 1 (by decide) (show 1 < 3 from (by decide)) (dB d5_16) 17 rfl (fun T203 h203 X203 e203 W203 V203 => ?_)
  have F204 : Exa Z h203 a cN_2 := F196.wr W203
  have F205 : Fld Z h203 a cN_2 "values" cN_3 (.ref va) := F197.other W203 (Or.inl (ne_arv F196 (tw_18 hw) F201))
  have F206 : Fld Z h203 a cN_2 "trail" "[I" (.ref ta) := F198.other W203 (Or.inl (ne_arv F196 (tw_18 hw) F201))
  have F207 : Fld Z h203 a cN_2 "trailSize" "I" (.int (2 : Int32)) := F199.other W203 (Or.inl (ne_arv F196 (tw_18 hw) F201))
  have F208 : Arv Z h203 va kv (.object cN_4) (3 : Int32) [.null, (.ref vv), .null] .null := F200.other W203 ne1
  have F209 : Arv Z h203 ta kt .int (3 : Int32) [(.int (1 : Int32)), (.int (2 : Int32)), (.int (0 : Int32))] (.int (0 : Int32)) := V203
  have F210 : Exa Z h203 vv cN_1 := F202.wr W203
  have Z203 : n0 ≤ h203.size := by rw [W203.size]; exact Z195
  have K203 : Keep h0 h203 [a, ta, va] := K195.wr W203 (Or.inl (List.mem_of_getElem? (i := 1) rfl))
  have N203 := Fr.snoc X203 N195 g_ta
  refine w_aloadN X203 hx (.ref a) (dB d5_17) 18 rfl rfl rfl ?_
  refine w_getF X203 hx hZ hown e203 (host := "") (Or.inl (tw_26 hw)) Via.refl F205 (dB d5_18) 21 rfl (fun T211 X211 e211 => ?_)
  refine w_iloadN X211 hx (2 : Int32) (dB d5_21) 22 rfl rfl ?_
  refine w_aloadN X211 hx (.ref vv) (dB d5_22) 23 rfl rfl rfl ?_
  refine w_aastore X211 hx hZ e211 F208 ⟨by decide, by decide⟩ 2 (by decide) (show 2 < 3 from (by decide)) rfl (Or.inr ⟨_, rfl, ov, (Ins.of_exa F210 (tw_38 hw))⟩) (dB d5_23) 24 rfl (fun T212 h212 X212 e212 W212 V212 => ?_)
  have F213 : Exa Z h212 a cN_2 := F204.wr W212
  have F214 : Fld Z h212 a cN_2 "values" cN_3 (.ref va) := F205.other W212 (Or.inl (ne_arv F204 (tw_18 hw) F208))
  have F215 : Fld Z h212 a cN_2 "trail" "[I" (.ref ta) := F206.other W212 (Or.inl (ne_arv F204 (tw_18 hw) F208))
  have F216 : Fld Z h212 a cN_2 "trailSize" "I" (.int (2 : Int32)) := F207.other W212 (Or.inl (ne_arv F204 (tw_18 hw) F208))
  have F217 : Arv Z h212 va kv (.object cN_4) (3 : Int32) [.null, (.ref vv), (.ref vv)] .null := V212
  have F218 : Arv Z h212 ta kt .int (3 : Int32) [(.int (1 : Int32)), (.int (2 : Int32)), (.int (0 : Int32))] (.int (0 : Int32)) := F209.other W212 (Ne.symm ne1)
  have F219 : Exa Z h212 vv cN_1 := F210.wr W212
  have Z212 : n0 ≤ h212.size := by rw [W212.size]; exact Z203
  have K212 : Keep h0 h212 [a, ta, va] := K203.wr W212 (Or.inl (List.mem_of_getElem? (i := 2) rfl))
  have N212 := Fr.snoc X212 N203 g_va
  refine w_ret0 X212 hx hlk hret (dB d5_24) (by decide) (by decide) ?_
  rw [e212]
  exact ⟨rfl, N212, K212, F214, F215, F216, F217, F218⟩
theorem ef_5t2i0 (m : MethodId) (x0 : Addr) (x2 : Addr) : entryFrame m #[(.ref x0), (.int (0 : Int32)), (.ref x2)] 3 = mkF m 0 #[.val (.ref x0), .val (.int (0 : Int32)), .val (.ref x2)] [] := by first | (simp [entryFrame, mkF, argsToLocals, Value.category]; done) | rfl
def Q5t2i0 (Z : State) (a : Addr) (vv : Addr) (va : Addr) (ta : Addr) (kv : ClassId) (kt : ClassId) (h0 : Heap) (n0 : Nat) (v : Option Value) (h : Heap) (L : List Loc) : Prop := v = none ∧ Fr n0 L ∧ Keep h0 h [a, ta, va] ∧ Fld Z h a cN_2 "values" cN_3 (.ref va) ∧ Fld Z h a cN_2 "trail" "[I" (.ref ta) ∧ Fld Z h a cN_2 "trailSize" "I" (.int (2 : Int32)) ∧ Arv Z h va kv (.object cN_4) (3 : Int32) [(.ref vv), .null, (.ref vv)] .null ∧ Arv Z h ta kt .int (3 : Int32) [(.int (2 : Int32)), (.int (0 : Int32)), (.int (0 : Int32))] (.int (0 : Int32))
set_option maxRecDepth 65536 in
set_option maxHeartbeats 40000000 in
theorem rm5t2i0 (l : Launch) (Z : State) (a0 : Array Value) (hw : ∀ d ∈ tables_1, d.before a0 Z = true) (ws : List Jvm.Cond) (a : Addr) (vv : Addr) (va : Addr) (ta : Addr) (kv : ClassId) (kt : ClassId) (h0 : Heap) (n0 : Nat) (Z0 : n0 ≤ h0.size) (E_a : Exa Z h0 a cN_2) (F_values_a : Fld Z h0 a cN_2 "values" cN_3 (.ref va)) (F_trail_a : Fld Z h0 a cN_2 "trail" "[I" (.ref ta)) (F_trailSize_a : Fld Z h0 a cN_2 "trailSize" "I" (.int (1 : Int32))) (V_va : Arv Z h0 va kv (.object cN_4) (3 : Int32) [.null, .null, (.ref vv)] .null) (V_ta : Arv Z h0 ta kt .int (3 : Int32) [(.int (2 : Int32)), (.int (0 : Int32)), (.int (0 : Int32))] (.int (0 : Int32))) (E_vv : Exa Z h0 vv cN_1) (g_a : n0 ≤ a) (g_ta : n0 ≤ ta) (g_va : n0 ≤ va) (ne1 : va ≠ ta) (ov : Ovr Z kv "com/example/simpagation/simpagation/Term") :
    CT l mN_5 prog_1_method_5_code 3 none ws ({ frames := 0, cells := 0, slots := 0, locals := 0 } : Room) #[(.ref a), (.int (0 : Int32)), (.ref vv)] Z h0 (Q5t2i0 Z a vv va ta kv kt h0 n0) := by
  refine body_of (plainFor_of_name pn_2) ?_
  intro p e s m below meth c s₁ hx dB hret hlk hml hown0 hnm X0 e0 hZ
  have hown : s.vm.findClass cN_2 = some m.cls := hown0
  have N0 := Fr.nil n0
  rw [ef_5t2i0]
  show Wk p e below (FN s (Q5t2i0 Z a vv va ta kv kt h0 n0) 0 0) s₁ (mkF m 0 #[.val (.ref a), .val (.int (0 : Int32)), .val (.ref vv)] [])
  refine w_aloadN X0 hx (.ref a) (dB d5_0) 1 rfl rfl rfl ?_
  refine w_getF X0 hx hZ hown e0 (host := "") (Or.inl (tw_29 hw)) Via.refl F_trail_a (dB d5_1) 4 rfl (fun T220 X220 e220 => ?_)
  refine w_aloadN X220 hx (.ref a) (dB d5_4) 5 rfl rfl rfl ?_
  refine w_dup X220 hx (dB d5_5) 6 rfl rfl ?_
  refine w_getF X220 hx hZ hown e220 (host := "") (Or.inl (tw_36 hw)) Via.refl F_trailSize_a (dB d5_6) 9 rfl (fun T221 X221 e221 => ?_)
  refine w_dupX1 X221 hx (dB d5_9) 10 rfl rfl rfl ?_
  refine w_iconst X221 hx (dB d5_10) 11 rfl (1 : Int32) (by decide) ?_
  refine w_iadd X221 hx (dB d5_11) 12 rfl (show (2 : Int32) = (1 : Int32) + (1 : Int32) from by decide) ?_
  refine w_putF X221 hx hZ hown e221 (host := "") (Or.inl (tw_36 hw)) Via.refl F_trailSize_a E_a (Or.inl (tw_37 hw)) (tw_18 hw) (ty := .int) (by decide) rfl rfl (dB d5_12) 15 rfl (fun T222 h222 X222 e222 W222 => ?_)
  have F223 : Exa Z h222 a cN_2 := E_a.wr W222
  have F224 : Fld Z h222 a cN_2 "values" cN_3 (.ref va) := F_values_a.other W222 (Or.inr (slot_ne (Or.inr (tw_27 hw)) (Or.inl (tw_37 hw)) (by decide) (t := (.array (.object "com/example/simpagation/simpagation/Term"))) (t' := .int) (by decide) (by decide)))
  have F225 : Fld Z h222 a cN_2 "trail" "[I" (.ref ta) := F_trail_a.other W222 (Or.inr (slot_ne (Or.inr (tw_30 hw)) (Or.inl (tw_37 hw)) (by decide) (t := (.array .int)) (t' := .int) (by decide) (by decide)))
  have F226 : Fld Z h222 a cN_2 "trailSize" "I" (.int (2 : Int32)) := F_trailSize_a.same W222
  have F227 : Arv Z h222 va kv (.object cN_4) (3 : Int32) [.null, .null, (.ref vv)] .null := V_va.other W222 (Ne.symm (ne_arv E_a (tw_18 hw) V_va))
  have F228 : Arv Z h222 ta kt .int (3 : Int32) [(.int (2 : Int32)), (.int (0 : Int32)), (.int (0 : Int32))] (.int (0 : Int32)) := V_ta.other W222 (Ne.symm (ne_arv E_a (tw_18 hw) V_ta))
  have F229 : Exa Z h222 vv cN_1 := E_vv.wr W222
  have Z222 : n0 ≤ h222.size := by rw [W222.size]; exact Z0
  have K222 : Keep h0 h222 [a, ta, va] := (Keep.refl h0 [a, ta, va]).wr W222 (Or.inl (List.mem_of_getElem? (i := 0) rfl))
  have N222 := Fr.snoc X222 N0 g_a
  refine w_iloadN X222 hx (0 : Int32) (dB d5_15) 16 rfl rfl ?_
  refine w_iastore X222 hx hZ e222 F228 ⟨by decide, by decide⟩ 1 (by decide) (show 1 < 3 from (by decide)) (dB d5_16) 17 rfl (fun T230 h230 X230 e230 W230 V230 => ?_)
  have F231 : Exa Z h230 a cN_2 := F223.wr W230
  have F232 : Fld Z h230 a cN_2 "values" cN_3 (.ref va) := F224.other W230 (Or.inl (ne_arv F223 (tw_18 hw) F228))
  have F233 : Fld Z h230 a cN_2 "trail" "[I" (.ref ta) := F225.other W230 (Or.inl (ne_arv F223 (tw_18 hw) F228))
  have F234 : Fld Z h230 a cN_2 "trailSize" "I" (.int (2 : Int32)) := F226.other W230 (Or.inl (ne_arv F223 (tw_18 hw) F228))
  have F235 : Arv Z h230 va kv (.object cN_4) (3 : Int32) [.null, .null, (.ref vv)] .null := F227.other W230 ne1
  have F236 : Arv Z h230 ta kt .int (3 : Int32) [(.int (2 : Int32)), (.int (0 : Int32)), (.int (0 : Int32))] (.int (0 : Int32)) := V230
  have F237 : Exa Z h230 vv cN_1 := F229.wr W230
  have Z230 : n0 ≤ h230.size := by rw [W230.size]; exact Z222
  have K230 : Keep h0 h230 [a, ta, va] := K222.wr W230 (Or.inl (List.mem_of_getElem? (i := 1) rfl))
  have N230 := Fr.snoc X230 N222 g_ta
  refine w_aloadN X230 hx (.ref a) (dB d5_17) 18 rfl rfl rfl ?_
  refine w_getF X230 hx hZ hown e230 (host := "") (Or.inl (tw_26 hw)) Via.refl F232 (dB d5_18) 21 rfl (fun T238 X238 e238 => ?_)
  refine w_iloadN X238 hx (0 : Int32) (dB d5_21) 22 rfl rfl ?_
  refine w_aloadN X238 hx (.ref vv) (dB d5_22) 23 rfl rfl rfl ?_
  refine w_aastore X238 hx hZ e238 F235 ⟨by decide, by decide⟩ 0 (by decide) (show 0 < 3 from (by decide)) rfl (Or.inr ⟨_, rfl, ov, (Ins.of_exa F237 (tw_38 hw))⟩) (dB d5_23) 24 rfl (fun T239 h239 X239 e239 W239 V239 => ?_)
  have F240 : Exa Z h239 a cN_2 := F231.wr W239
  have F241 : Fld Z h239 a cN_2 "values" cN_3 (.ref va) := F232.other W239 (Or.inl (ne_arv F231 (tw_18 hw) F235))
  have F242 : Fld Z h239 a cN_2 "trail" "[I" (.ref ta) := F233.other W239 (Or.inl (ne_arv F231 (tw_18 hw) F235))
  have F243 : Fld Z h239 a cN_2 "trailSize" "I" (.int (2 : Int32)) := F234.other W239 (Or.inl (ne_arv F231 (tw_18 hw) F235))
  have F244 : Arv Z h239 va kv (.object cN_4) (3 : Int32) [(.ref vv), .null, (.ref vv)] .null := V239
  have F245 : Arv Z h239 ta kt .int (3 : Int32) [(.int (2 : Int32)), (.int (0 : Int32)), (.int (0 : Int32))] (.int (0 : Int32)) := F236.other W239 (Ne.symm ne1)
  have F246 : Exa Z h239 vv cN_1 := F237.wr W239
  have Z239 : n0 ≤ h239.size := by rw [W239.size]; exact Z230
  have K239 : Keep h0 h239 [a, ta, va] := K230.wr W239 (Or.inl (List.mem_of_getElem? (i := 2) rfl))
  have N239 := Fr.snoc X239 N230 g_va
  refine w_ret0 X239 hx hlk hret (dB d5_24) (by decide) (by decide) ?_
  rw [e239]
  exact ⟨rfl, N239, K239, F241, F242, F243, F244, F245⟩
theorem ef_5t2i1 (m : MethodId) (x0 : Addr) (x2 : Addr) : entryFrame m #[(.ref x0), (.int (1 : Int32)), (.ref x2)] 3 = mkF m 0 #[.val (.ref x0), .val (.int (1 : Int32)), .val (.ref x2)] [] := by first | (simp [entryFrame, mkF, argsToLocals, Value.category]; done) | rfl
def Q5t2i1 (Z : State) (a : Addr) (vv : Addr) (va : Addr) (ta : Addr) (kv : ClassId) (kt : ClassId) (h0 : Heap) (n0 : Nat) (v : Option Value) (h : Heap) (L : List Loc) : Prop := v = none ∧ Fr n0 L ∧ Keep h0 h [a, ta, va] ∧ Fld Z h a cN_2 "values" cN_3 (.ref va) ∧ Fld Z h a cN_2 "trail" "[I" (.ref ta) ∧ Fld Z h a cN_2 "trailSize" "I" (.int (2 : Int32)) ∧ Arv Z h va kv (.object cN_4) (3 : Int32) [.null, (.ref vv), (.ref vv)] .null ∧ Arv Z h ta kt .int (3 : Int32) [(.int (2 : Int32)), (.int (1 : Int32)), (.int (0 : Int32))] (.int (0 : Int32))
set_option maxRecDepth 65536 in
set_option maxHeartbeats 40000000 in
theorem rm5t2i1 (l : Launch) (Z : State) (a0 : Array Value) (hw : ∀ d ∈ tables_1, d.before a0 Z = true) (ws : List Jvm.Cond) (a : Addr) (vv : Addr) (va : Addr) (ta : Addr) (kv : ClassId) (kt : ClassId) (h0 : Heap) (n0 : Nat) (Z0 : n0 ≤ h0.size) (E_a : Exa Z h0 a cN_2) (F_values_a : Fld Z h0 a cN_2 "values" cN_3 (.ref va)) (F_trail_a : Fld Z h0 a cN_2 "trail" "[I" (.ref ta)) (F_trailSize_a : Fld Z h0 a cN_2 "trailSize" "I" (.int (1 : Int32))) (V_va : Arv Z h0 va kv (.object cN_4) (3 : Int32) [.null, .null, (.ref vv)] .null) (V_ta : Arv Z h0 ta kt .int (3 : Int32) [(.int (2 : Int32)), (.int (0 : Int32)), (.int (0 : Int32))] (.int (0 : Int32))) (E_vv : Exa Z h0 vv cN_1) (g_a : n0 ≤ a) (g_ta : n0 ≤ ta) (g_va : n0 ≤ va) (ne1 : va ≠ ta) (ov : Ovr Z kv "com/example/simpagation/simpagation/Term") :
    CT l mN_5 prog_1_method_5_code 3 none ws ({ frames := 0, cells := 0, slots := 0, locals := 0 } : Room) #[(.ref a), (.int (1 : Int32)), (.ref vv)] Z h0 (Q5t2i1 Z a vv va ta kv kt h0 n0) := by
  refine body_of (plainFor_of_name pn_2) ?_
  intro p e s m below meth c s₁ hx dB hret hlk hml hown0 hnm X0 e0 hZ
  have hown : s.vm.findClass cN_2 = some m.cls := hown0
  have N0 := Fr.nil n0
  rw [ef_5t2i1]
  show Wk p e below (FN s (Q5t2i1 Z a vv va ta kv kt h0 n0) 0 0) s₁ (mkF m 0 #[.val (.ref a), .val (.int (1 : Int32)), .val (.ref vv)] [])
  refine w_aloadN X0 hx (.ref a) (dB d5_0) 1 rfl rfl rfl ?_
  refine w_getF X0 hx hZ hown e0 (host := "") (Or.inl (tw_29 hw)) Via.refl F_trail_a (dB d5_1) 4 rfl (fun T247 X247 e247 => ?_)
  refine w_aloadN X247 hx (.ref a) (dB d5_4) 5 rfl rfl rfl ?_
  refine w_dup X247 hx (dB d5_5) 6 rfl rfl ?_
  refine w_getF X247 hx hZ hown e247 (host := "") (Or.inl (tw_36 hw)) Via.refl F_trailSize_a (dB d5_6) 9 rfl (fun T248 X248 e248 => ?_)
  refine w_dupX1 X248 hx (dB d5_9) 10 rfl rfl rfl ?_
  refine w_iconst X248 hx (dB d5_10) 11 rfl (1 : Int32) (by decide) ?_
  refine w_iadd X248 hx (dB d5_11) 12 rfl (show (2 : Int32) = (1 : Int32) + (1 : Int32) from by decide) ?_
  refine w_putF X248 hx hZ hown e248 (host := "") (Or.inl (tw_36 hw)) Via.refl F_trailSize_a E_a (Or.inl (tw_37 hw)) (tw_18 hw) (ty := .int) (by decide) rfl rfl (dB d5_12) 15 rfl (fun T249 h249 X249 e249 W249 => ?_)
  have F250 : Exa Z h249 a cN_2 := E_a.wr W249
  have F251 : Fld Z h249 a cN_2 "values" cN_3 (.ref va) := F_values_a.other W249 (Or.inr (slot_ne (Or.inr (tw_27 hw)) (Or.inl (tw_37 hw)) (by decide) (t := (.array (.object "com/example/simpagation/simpagation/Term"))) (t' := .int) (by decide) (by decide)))
  have F252 : Fld Z h249 a cN_2 "trail" "[I" (.ref ta) := F_trail_a.other W249 (Or.inr (slot_ne (Or.inr (tw_30 hw)) (Or.inl (tw_37 hw)) (by decide) (t := (.array .int)) (t' := .int) (by decide) (by decide)))
  have F253 : Fld Z h249 a cN_2 "trailSize" "I" (.int (2 : Int32)) := F_trailSize_a.same W249
  have F254 : Arv Z h249 va kv (.object cN_4) (3 : Int32) [.null, .null, (.ref vv)] .null := V_va.other W249 (Ne.symm (ne_arv E_a (tw_18 hw) V_va))
  have F255 : Arv Z h249 ta kt .int (3 : Int32) [(.int (2 : Int32)), (.int (0 : Int32)), (.int (0 : Int32))] (.int (0 : Int32)) := V_ta.other W249 (Ne.symm (ne_arv E_a (tw_18 hw) V_ta))
  have F256 : Exa Z h249 vv cN_1 := E_vv.wr W249
  have Z249 : n0 ≤ h249.size := by rw [W249.size]; exact Z0
  have K249 : Keep h0 h249 [a, ta, va] := (Keep.refl h0 [a, ta, va]).wr W249 (Or.inl (List.mem_of_getElem? (i := 0) rfl))
  have N249 := Fr.snoc X249 N0 g_a
  refine w_iloadN X249 hx (1 : Int32) (dB d5_15) 16 rfl rfl ?_
  refine w_iastore X249 hx hZ e249 F255 ⟨by decide, by decide⟩ 1 (by decide) (show 1 < 3 from (by decide)) (dB d5_16) 17 rfl (fun T257 h257 X257 e257 W257 V257 => ?_)
  have F258 : Exa Z h257 a cN_2 := F250.wr W257
  have F259 : Fld Z h257 a cN_2 "values" cN_3 (.ref va) := F251.other W257 (Or.inl (ne_arv F250 (tw_18 hw) F255))
  have F260 : Fld Z h257 a cN_2 "trail" "[I" (.ref ta) := F252.other W257 (Or.inl (ne_arv F250 (tw_18 hw) F255))
  have F261 : Fld Z h257 a cN_2 "trailSize" "I" (.int (2 : Int32)) := F253.other W257 (Or.inl (ne_arv F250 (tw_18 hw) F255))
  have F262 : Arv Z h257 va kv (.object cN_4) (3 : Int32) [.null, .null, (.ref vv)] .null := F254.other W257 ne1
  have F263 : Arv Z h257 ta kt .int (3 : Int32) [(.int (2 : Int32)), (.int (1 : Int32)), (.int (0 : Int32))] (.int (0 : Int32)) := V257
  have F264 : Exa Z h257 vv cN_1 := F256.wr W257
  have Z257 : n0 ≤ h257.size := by rw [W257.size]; exact Z249
  have K257 : Keep h0 h257 [a, ta, va] := K249.wr W257 (Or.inl (List.mem_of_getElem? (i := 1) rfl))
  have N257 := Fr.snoc X257 N249 g_ta
  refine w_aloadN X257 hx (.ref a) (dB d5_17) 18 rfl rfl rfl ?_
  refine w_getF X257 hx hZ hown e257 (host := "") (Or.inl (tw_26 hw)) Via.refl F259 (dB d5_18) 21 rfl (fun T265 X265 e265 => ?_)
  refine w_iloadN X265 hx (1 : Int32) (dB d5_21) 22 rfl rfl ?_
  refine w_aloadN X265 hx (.ref vv) (dB d5_22) 23 rfl rfl rfl ?_
  refine w_aastore X265 hx hZ e265 F262 ⟨by decide, by decide⟩ 1 (by decide) (show 1 < 3 from (by decide)) rfl (Or.inr ⟨_, rfl, ov, (Ins.of_exa F264 (tw_38 hw))⟩) (dB d5_23) 24 rfl (fun T266 h266 X266 e266 W266 V266 => ?_)
  have F267 : Exa Z h266 a cN_2 := F258.wr W266
  have F268 : Fld Z h266 a cN_2 "values" cN_3 (.ref va) := F259.other W266 (Or.inl (ne_arv F258 (tw_18 hw) F262))
  have F269 : Fld Z h266 a cN_2 "trail" "[I" (.ref ta) := F260.other W266 (Or.inl (ne_arv F258 (tw_18 hw) F262))
  have F270 : Fld Z h266 a cN_2 "trailSize" "I" (.int (2 : Int32)) := F261.other W266 (Or.inl (ne_arv F258 (tw_18 hw) F262))
  have F271 : Arv Z h266 va kv (.object cN_4) (3 : Int32) [.null, (.ref vv), (.ref vv)] .null := V266
  have F272 : Arv Z h266 ta kt .int (3 : Int32) [(.int (2 : Int32)), (.int (1 : Int32)), (.int (0 : Int32))] (.int (0 : Int32)) := F263.other W266 (Ne.symm ne1)
  have F273 : Exa Z h266 vv cN_1 := F264.wr W266
  have Z266 : n0 ≤ h266.size := by rw [W266.size]; exact Z257
  have K266 : Keep h0 h266 [a, ta, va] := K257.wr W266 (Or.inl (List.mem_of_getElem? (i := 2) rfl))
  have N266 := Fr.snoc X266 N257 g_va
  refine w_ret0 X266 hx hlk hret (dB d5_24) (by decide) (by decide) ?_
  rw [e266]
  exact ⟨rfl, N266, K266, F268, F269, F270, F271, F272⟩
theorem ef_5t01i2 (m : MethodId) (x0 : Addr) (x2 : Addr) : entryFrame m #[(.ref x0), (.int (2 : Int32)), (.ref x2)] 3 = mkF m 0 #[.val (.ref x0), .val (.int (2 : Int32)), .val (.ref x2)] [] := by first | (simp [entryFrame, mkF, argsToLocals, Value.category]; done) | rfl
def Q5t01i2 (Z : State) (a : Addr) (vv : Addr) (va : Addr) (ta : Addr) (kv : ClassId) (kt : ClassId) (h0 : Heap) (n0 : Nat) (v : Option Value) (h : Heap) (L : List Loc) : Prop := v = none ∧ Fr n0 L ∧ Keep h0 h [a, ta, va] ∧ Fld Z h a cN_2 "values" cN_3 (.ref va) ∧ Fld Z h a cN_2 "trail" "[I" (.ref ta) ∧ Fld Z h a cN_2 "trailSize" "I" (.int (3 : Int32)) ∧ Arv Z h va kv (.object cN_4) (3 : Int32) [(.ref vv), (.ref vv), (.ref vv)] .null ∧ Arv Z h ta kt .int (3 : Int32) [(.int (0 : Int32)), (.int (1 : Int32)), (.int (2 : Int32))] (.int (0 : Int32))
set_option maxRecDepth 65536 in
set_option maxHeartbeats 40000000 in
theorem rm5t01i2 (l : Launch) (Z : State) (a0 : Array Value) (hw : ∀ d ∈ tables_1, d.before a0 Z = true) (ws : List Jvm.Cond) (a : Addr) (vv : Addr) (va : Addr) (ta : Addr) (kv : ClassId) (kt : ClassId) (h0 : Heap) (n0 : Nat) (Z0 : n0 ≤ h0.size) (E_a : Exa Z h0 a cN_2) (F_values_a : Fld Z h0 a cN_2 "values" cN_3 (.ref va)) (F_trail_a : Fld Z h0 a cN_2 "trail" "[I" (.ref ta)) (F_trailSize_a : Fld Z h0 a cN_2 "trailSize" "I" (.int (2 : Int32))) (V_va : Arv Z h0 va kv (.object cN_4) (3 : Int32) [(.ref vv), (.ref vv), .null] .null) (V_ta : Arv Z h0 ta kt .int (3 : Int32) [(.int (0 : Int32)), (.int (1 : Int32)), (.int (0 : Int32))] (.int (0 : Int32))) (E_vv : Exa Z h0 vv cN_1) (g_a : n0 ≤ a) (g_ta : n0 ≤ ta) (g_va : n0 ≤ va) (ne1 : va ≠ ta) (ov : Ovr Z kv "com/example/simpagation/simpagation/Term") :
    CT l mN_5 prog_1_method_5_code 3 none ws ({ frames := 0, cells := 0, slots := 0, locals := 0 } : Room) #[(.ref a), (.int (2 : Int32)), (.ref vv)] Z h0 (Q5t01i2 Z a vv va ta kv kt h0 n0) := by
  refine body_of (plainFor_of_name pn_2) ?_
  intro p e s m below meth c s₁ hx dB hret hlk hml hown0 hnm X0 e0 hZ
  have hown : s.vm.findClass cN_2 = some m.cls := hown0
  have N0 := Fr.nil n0
  rw [ef_5t01i2]
  show Wk p e below (FN s (Q5t01i2 Z a vv va ta kv kt h0 n0) 0 0) s₁ (mkF m 0 #[.val (.ref a), .val (.int (2 : Int32)), .val (.ref vv)] [])
  refine w_aloadN X0 hx (.ref a) (dB d5_0) 1 rfl rfl rfl ?_
  refine w_getF X0 hx hZ hown e0 (host := "") (Or.inl (tw_29 hw)) Via.refl F_trail_a (dB d5_1) 4 rfl (fun T274 X274 e274 => ?_)
  refine w_aloadN X274 hx (.ref a) (dB d5_4) 5 rfl rfl rfl ?_
  refine w_dup X274 hx (dB d5_5) 6 rfl rfl ?_
  refine w_getF X274 hx hZ hown e274 (host := "") (Or.inl (tw_36 hw)) Via.refl F_trailSize_a (dB d5_6) 9 rfl (fun T275 X275 e275 => ?_)
  refine w_dupX1 X275 hx (dB d5_9) 10 rfl rfl rfl ?_
  refine w_iconst X275 hx (dB d5_10) 11 rfl (1 : Int32) (by decide) ?_
  refine w_iadd X275 hx (dB d5_11) 12 rfl (show (3 : Int32) = (2 : Int32) + (1 : Int32) from by decide) ?_
  refine w_putF X275 hx hZ hown e275 (host := "") (Or.inl (tw_36 hw)) Via.refl F_trailSize_a E_a (Or.inl (tw_37 hw)) (tw_18 hw) (ty := .int) (by decide) rfl rfl (dB d5_12) 15 rfl (fun T276 h276 X276 e276 W276 => ?_)
  have F277 : Exa Z h276 a cN_2 := E_a.wr W276
  have F278 : Fld Z h276 a cN_2 "values" cN_3 (.ref va) := F_values_a.other W276 (Or.inr (slot_ne (Or.inr (tw_27 hw)) (Or.inl (tw_37 hw)) (by decide) (t := (.array (.object "com/example/simpagation/simpagation/Term"))) (t' := .int) (by decide) (by decide)))
  have F279 : Fld Z h276 a cN_2 "trail" "[I" (.ref ta) := F_trail_a.other W276 (Or.inr (slot_ne (Or.inr (tw_30 hw)) (Or.inl (tw_37 hw)) (by decide) (t := (.array .int)) (t' := .int) (by decide) (by decide)))
  have F280 : Fld Z h276 a cN_2 "trailSize" "I" (.int (3 : Int32)) := F_trailSize_a.same W276
  have F281 : Arv Z h276 va kv (.object cN_4) (3 : Int32) [(.ref vv), (.ref vv), .null] .null := V_va.other W276 (Ne.symm (ne_arv E_a (tw_18 hw) V_va))
  have F282 : Arv Z h276 ta kt .int (3 : Int32) [(.int (0 : Int32)), (.int (1 : Int32)), (.int (0 : Int32))] (.int (0 : Int32)) := V_ta.other W276 (Ne.symm (ne_arv E_a (tw_18 hw) V_ta))
  have F283 : Exa Z h276 vv cN_1 := E_vv.wr W276
  have Z276 : n0 ≤ h276.size := by rw [W276.size]; exact Z0
  have K276 : Keep h0 h276 [a, ta, va] := (Keep.refl h0 [a, ta, va]).wr W276 (Or.inl (List.mem_of_getElem? (i := 0) rfl))
  have N276 := Fr.snoc X276 N0 g_a
  refine w_iloadN X276 hx (2 : Int32) (dB d5_15) 16 rfl rfl ?_
  refine w_iastore X276 hx hZ e276 F282 ⟨by decide, by decide⟩ 2 (by decide) (show 2 < 3 from (by decide)) (dB d5_16) 17 rfl (fun T284 h284 X284 e284 W284 V284 => ?_)
  have F285 : Exa Z h284 a cN_2 := F277.wr W284
  have F286 : Fld Z h284 a cN_2 "values" cN_3 (.ref va) := F278.other W284 (Or.inl (ne_arv F277 (tw_18 hw) F282))
  have F287 : Fld Z h284 a cN_2 "trail" "[I" (.ref ta) := F279.other W284 (Or.inl (ne_arv F277 (tw_18 hw) F282))
  have F288 : Fld Z h284 a cN_2 "trailSize" "I" (.int (3 : Int32)) := F280.other W284 (Or.inl (ne_arv F277 (tw_18 hw) F282))
  have F289 : Arv Z h284 va kv (.object cN_4) (3 : Int32) [(.ref vv), (.ref vv), .null] .null := F281.other W284 ne1
  have F290 : Arv Z h284 ta kt .int (3 : Int32) [(.int (0 : Int32)), (.int (1 : Int32)), (.int (2 : Int32))] (.int (0 : Int32)) := V284
  have F291 : Exa Z h284 vv cN_1 := F283.wr W284
  have Z284 : n0 ≤ h284.size := by rw [W284.size]; exact Z276
  have K284 : Keep h0 h284 [a, ta, va] := K276.wr W284 (Or.inl (List.mem_of_getElem? (i := 1) rfl))
  have N284 := Fr.snoc X284 N276 g_ta
  refine w_aloadN X284 hx (.ref a) (dB d5_17) 18 rfl rfl rfl ?_
  refine w_getF X284 hx hZ hown e284 (host := "") (Or.inl (tw_26 hw)) Via.refl F286 (dB d5_18) 21 rfl (fun T292 X292 e292 => ?_)
  refine w_iloadN X292 hx (2 : Int32) (dB d5_21) 22 rfl rfl ?_
  refine w_aloadN X292 hx (.ref vv) (dB d5_22) 23 rfl rfl rfl ?_
  refine w_aastore X292 hx hZ e292 F289 ⟨by decide, by decide⟩ 2 (by decide) (show 2 < 3 from (by decide)) rfl (Or.inr ⟨_, rfl, ov, (Ins.of_exa F291 (tw_38 hw))⟩) (dB d5_23) 24 rfl (fun T293 h293 X293 e293 W293 V293 => ?_)
  have F294 : Exa Z h293 a cN_2 := F285.wr W293
  have F295 : Fld Z h293 a cN_2 "values" cN_3 (.ref va) := F286.other W293 (Or.inl (ne_arv F285 (tw_18 hw) F289))
  have F296 : Fld Z h293 a cN_2 "trail" "[I" (.ref ta) := F287.other W293 (Or.inl (ne_arv F285 (tw_18 hw) F289))
  have F297 : Fld Z h293 a cN_2 "trailSize" "I" (.int (3 : Int32)) := F288.other W293 (Or.inl (ne_arv F285 (tw_18 hw) F289))
  have F298 : Arv Z h293 va kv (.object cN_4) (3 : Int32) [(.ref vv), (.ref vv), (.ref vv)] .null := V293
  have F299 : Arv Z h293 ta kt .int (3 : Int32) [(.int (0 : Int32)), (.int (1 : Int32)), (.int (2 : Int32))] (.int (0 : Int32)) := F290.other W293 (Ne.symm ne1)
  have F300 : Exa Z h293 vv cN_1 := F291.wr W293
  have Z293 : n0 ≤ h293.size := by rw [W293.size]; exact Z284
  have K293 : Keep h0 h293 [a, ta, va] := K284.wr W293 (Or.inl (List.mem_of_getElem? (i := 2) rfl))
  have N293 := Fr.snoc X293 N284 g_va
  refine w_ret0 X293 hx hlk hret (dB d5_24) (by decide) (by decide) ?_
  rw [e293]
  exact ⟨rfl, N293, K293, F295, F296, F297, F298, F299⟩
theorem ef_5t02i1 (m : MethodId) (x0 : Addr) (x2 : Addr) : entryFrame m #[(.ref x0), (.int (1 : Int32)), (.ref x2)] 3 = mkF m 0 #[.val (.ref x0), .val (.int (1 : Int32)), .val (.ref x2)] [] := by first | (simp [entryFrame, mkF, argsToLocals, Value.category]; done) | rfl
def Q5t02i1 (Z : State) (a : Addr) (vv : Addr) (va : Addr) (ta : Addr) (kv : ClassId) (kt : ClassId) (h0 : Heap) (n0 : Nat) (v : Option Value) (h : Heap) (L : List Loc) : Prop := v = none ∧ Fr n0 L ∧ Keep h0 h [a, ta, va] ∧ Fld Z h a cN_2 "values" cN_3 (.ref va) ∧ Fld Z h a cN_2 "trail" "[I" (.ref ta) ∧ Fld Z h a cN_2 "trailSize" "I" (.int (3 : Int32)) ∧ Arv Z h va kv (.object cN_4) (3 : Int32) [(.ref vv), (.ref vv), (.ref vv)] .null ∧ Arv Z h ta kt .int (3 : Int32) [(.int (0 : Int32)), (.int (2 : Int32)), (.int (1 : Int32))] (.int (0 : Int32))
set_option maxRecDepth 65536 in
set_option maxHeartbeats 40000000 in
theorem rm5t02i1 (l : Launch) (Z : State) (a0 : Array Value) (hw : ∀ d ∈ tables_1, d.before a0 Z = true) (ws : List Jvm.Cond) (a : Addr) (vv : Addr) (va : Addr) (ta : Addr) (kv : ClassId) (kt : ClassId) (h0 : Heap) (n0 : Nat) (Z0 : n0 ≤ h0.size) (E_a : Exa Z h0 a cN_2) (F_values_a : Fld Z h0 a cN_2 "values" cN_3 (.ref va)) (F_trail_a : Fld Z h0 a cN_2 "trail" "[I" (.ref ta)) (F_trailSize_a : Fld Z h0 a cN_2 "trailSize" "I" (.int (2 : Int32))) (V_va : Arv Z h0 va kv (.object cN_4) (3 : Int32) [(.ref vv), .null, (.ref vv)] .null) (V_ta : Arv Z h0 ta kt .int (3 : Int32) [(.int (0 : Int32)), (.int (2 : Int32)), (.int (0 : Int32))] (.int (0 : Int32))) (E_vv : Exa Z h0 vv cN_1) (g_a : n0 ≤ a) (g_ta : n0 ≤ ta) (g_va : n0 ≤ va) (ne1 : va ≠ ta) (ov : Ovr Z kv "com/example/simpagation/simpagation/Term") :
    CT l mN_5 prog_1_method_5_code 3 none ws ({ frames := 0, cells := 0, slots := 0, locals := 0 } : Room) #[(.ref a), (.int (1 : Int32)), (.ref vv)] Z h0 (Q5t02i1 Z a vv va ta kv kt h0 n0) := by
  refine body_of (plainFor_of_name pn_2) ?_
  intro p e s m below meth c s₁ hx dB hret hlk hml hown0 hnm X0 e0 hZ
  have hown : s.vm.findClass cN_2 = some m.cls := hown0
  have N0 := Fr.nil n0
  rw [ef_5t02i1]
  show Wk p e below (FN s (Q5t02i1 Z a vv va ta kv kt h0 n0) 0 0) s₁ (mkF m 0 #[.val (.ref a), .val (.int (1 : Int32)), .val (.ref vv)] [])
  refine w_aloadN X0 hx (.ref a) (dB d5_0) 1 rfl rfl rfl ?_
  refine w_getF X0 hx hZ hown e0 (host := "") (Or.inl (tw_29 hw)) Via.refl F_trail_a (dB d5_1) 4 rfl (fun T301 X301 e301 => ?_)
  refine w_aloadN X301 hx (.ref a) (dB d5_4) 5 rfl rfl rfl ?_
  refine w_dup X301 hx (dB d5_5) 6 rfl rfl ?_
  refine w_getF X301 hx hZ hown e301 (host := "") (Or.inl (tw_36 hw)) Via.refl F_trailSize_a (dB d5_6) 9 rfl (fun T302 X302 e302 => ?_)
  refine w_dupX1 X302 hx (dB d5_9) 10 rfl rfl rfl ?_
  refine w_iconst X302 hx (dB d5_10) 11 rfl (1 : Int32) (by decide) ?_
  refine w_iadd X302 hx (dB d5_11) 12 rfl (show (3 : Int32) = (2 : Int32) + (1 : Int32) from by decide) ?_
  refine w_putF X302 hx hZ hown e302 (host := "") (Or.inl (tw_36 hw)) Via.refl F_trailSize_a E_a (Or.inl (tw_37 hw)) (tw_18 hw) (ty := .int) (by decide) rfl rfl (dB d5_12) 15 rfl (fun T303 h303 X303 e303 W303 => ?_)
  have F304 : Exa Z h303 a cN_2 := E_a.wr W303
  have F305 : Fld Z h303 a cN_2 "values" cN_3 (.ref va) := F_values_a.other W303 (Or.inr (slot_ne (Or.inr (tw_27 hw)) (Or.inl (tw_37 hw)) (by decide) (t := (.array (.object "com/example/simpagation/simpagation/Term"))) (t' := .int) (by decide) (by decide)))
  have F306 : Fld Z h303 a cN_2 "trail" "[I" (.ref ta) := F_trail_a.other W303 (Or.inr (slot_ne (Or.inr (tw_30 hw)) (Or.inl (tw_37 hw)) (by decide) (t := (.array .int)) (t' := .int) (by decide) (by decide)))
  have F307 : Fld Z h303 a cN_2 "trailSize" "I" (.int (3 : Int32)) := F_trailSize_a.same W303
  have F308 : Arv Z h303 va kv (.object cN_4) (3 : Int32) [(.ref vv), .null, (.ref vv)] .null := V_va.other W303 (Ne.symm (ne_arv E_a (tw_18 hw) V_va))
  have F309 : Arv Z h303 ta kt .int (3 : Int32) [(.int (0 : Int32)), (.int (2 : Int32)), (.int (0 : Int32))] (.int (0 : Int32)) := V_ta.other W303 (Ne.symm (ne_arv E_a (tw_18 hw) V_ta))
  have F310 : Exa Z h303 vv cN_1 := E_vv.wr W303
  have Z303 : n0 ≤ h303.size := by rw [W303.size]; exact Z0
  have K303 : Keep h0 h303 [a, ta, va] := (Keep.refl h0 [a, ta, va]).wr W303 (Or.inl (List.mem_of_getElem? (i := 0) rfl))
  have N303 := Fr.snoc X303 N0 g_a
  refine w_iloadN X303 hx (1 : Int32) (dB d5_15) 16 rfl rfl ?_
  refine w_iastore X303 hx hZ e303 F309 ⟨by decide, by decide⟩ 2 (by decide) (show 2 < 3 from (by decide)) (dB d5_16) 17 rfl (fun T311 h311 X311 e311 W311 V311 => ?_)
  have F312 : Exa Z h311 a cN_2 := F304.wr W311
  have F313 : Fld Z h311 a cN_2 "values" cN_3 (.ref va) := F305.other W311 (Or.inl (ne_arv F304 (tw_18 hw) F309))
  have F314 : Fld Z h311 a cN_2 "trail" "[I" (.ref ta) := F306.other W311 (Or.inl (ne_arv F304 (tw_18 hw) F309))
  have F315 : Fld Z h311 a cN_2 "trailSize" "I" (.int (3 : Int32)) := F307.other W311 (Or.inl (ne_arv F304 (tw_18 hw) F309))
  have F316 : Arv Z h311 va kv (.object cN_4) (3 : Int32) [(.ref vv), .null, (.ref vv)] .null := F308.other W311 ne1
  have F317 : Arv Z h311 ta kt .int (3 : Int32) [(.int (0 : Int32)), (.int (2 : Int32)), (.int (1 : Int32))] (.int (0 : Int32)) := V311
  have F318 : Exa Z h311 vv cN_1 := F310.wr W311
  have Z311 : n0 ≤ h311.size := by rw [W311.size]; exact Z303
  have K311 : Keep h0 h311 [a, ta, va] := K303.wr W311 (Or.inl (List.mem_of_getElem? (i := 1) rfl))
  have N311 := Fr.snoc X311 N303 g_ta
  refine w_aloadN X311 hx (.ref a) (dB d5_17) 18 rfl rfl rfl ?_
  refine w_getF X311 hx hZ hown e311 (host := "") (Or.inl (tw_26 hw)) Via.refl F313 (dB d5_18) 21 rfl (fun T319 X319 e319 => ?_)
  refine w_iloadN X319 hx (1 : Int32) (dB d5_21) 22 rfl rfl ?_
  refine w_aloadN X319 hx (.ref vv) (dB d5_22) 23 rfl rfl rfl ?_
  refine w_aastore X319 hx hZ e319 F316 ⟨by decide, by decide⟩ 1 (by decide) (show 1 < 3 from (by decide)) rfl (Or.inr ⟨_, rfl, ov, (Ins.of_exa F318 (tw_38 hw))⟩) (dB d5_23) 24 rfl (fun T320 h320 X320 e320 W320 V320 => ?_)
  have F321 : Exa Z h320 a cN_2 := F312.wr W320
  have F322 : Fld Z h320 a cN_2 "values" cN_3 (.ref va) := F313.other W320 (Or.inl (ne_arv F312 (tw_18 hw) F316))
  have F323 : Fld Z h320 a cN_2 "trail" "[I" (.ref ta) := F314.other W320 (Or.inl (ne_arv F312 (tw_18 hw) F316))
  have F324 : Fld Z h320 a cN_2 "trailSize" "I" (.int (3 : Int32)) := F315.other W320 (Or.inl (ne_arv F312 (tw_18 hw) F316))
  have F325 : Arv Z h320 va kv (.object cN_4) (3 : Int32) [(.ref vv), (.ref vv), (.ref vv)] .null := V320
  have F326 : Arv Z h320 ta kt .int (3 : Int32) [(.int (0 : Int32)), (.int (2 : Int32)), (.int (1 : Int32))] (.int (0 : Int32)) := F317.other W320 (Ne.symm ne1)
  have F327 : Exa Z h320 vv cN_1 := F318.wr W320
  have Z320 : n0 ≤ h320.size := by rw [W320.size]; exact Z311
  have K320 : Keep h0 h320 [a, ta, va] := K311.wr W320 (Or.inl (List.mem_of_getElem? (i := 2) rfl))
  have N320 := Fr.snoc X320 N311 g_va
  refine w_ret0 X320 hx hlk hret (dB d5_24) (by decide) (by decide) ?_
  rw [e320]
  exact ⟨rfl, N320, K320, F322, F323, F324, F325, F326⟩
theorem ef_5t10i2 (m : MethodId) (x0 : Addr) (x2 : Addr) : entryFrame m #[(.ref x0), (.int (2 : Int32)), (.ref x2)] 3 = mkF m 0 #[.val (.ref x0), .val (.int (2 : Int32)), .val (.ref x2)] [] := by first | (simp [entryFrame, mkF, argsToLocals, Value.category]; done) | rfl
def Q5t10i2 (Z : State) (a : Addr) (vv : Addr) (va : Addr) (ta : Addr) (kv : ClassId) (kt : ClassId) (h0 : Heap) (n0 : Nat) (v : Option Value) (h : Heap) (L : List Loc) : Prop := v = none ∧ Fr n0 L ∧ Keep h0 h [a, ta, va] ∧ Fld Z h a cN_2 "values" cN_3 (.ref va) ∧ Fld Z h a cN_2 "trail" "[I" (.ref ta) ∧ Fld Z h a cN_2 "trailSize" "I" (.int (3 : Int32)) ∧ Arv Z h va kv (.object cN_4) (3 : Int32) [(.ref vv), (.ref vv), (.ref vv)] .null ∧ Arv Z h ta kt .int (3 : Int32) [(.int (1 : Int32)), (.int (0 : Int32)), (.int (2 : Int32))] (.int (0 : Int32))
set_option maxRecDepth 65536 in
set_option maxHeartbeats 40000000 in
theorem rm5t10i2 (l : Launch) (Z : State) (a0 : Array Value) (hw : ∀ d ∈ tables_1, d.before a0 Z = true) (ws : List Jvm.Cond) (a : Addr) (vv : Addr) (va : Addr) (ta : Addr) (kv : ClassId) (kt : ClassId) (h0 : Heap) (n0 : Nat) (Z0 : n0 ≤ h0.size) (E_a : Exa Z h0 a cN_2) (F_values_a : Fld Z h0 a cN_2 "values" cN_3 (.ref va)) (F_trail_a : Fld Z h0 a cN_2 "trail" "[I" (.ref ta)) (F_trailSize_a : Fld Z h0 a cN_2 "trailSize" "I" (.int (2 : Int32))) (V_va : Arv Z h0 va kv (.object cN_4) (3 : Int32) [(.ref vv), (.ref vv), .null] .null) (V_ta : Arv Z h0 ta kt .int (3 : Int32) [(.int (1 : Int32)), (.int (0 : Int32)), (.int (0 : Int32))] (.int (0 : Int32))) (E_vv : Exa Z h0 vv cN_1) (g_a : n0 ≤ a) (g_ta : n0 ≤ ta) (g_va : n0 ≤ va) (ne1 : va ≠ ta) (ov : Ovr Z kv "com/example/simpagation/simpagation/Term") :
    CT l mN_5 prog_1_method_5_code 3 none ws ({ frames := 0, cells := 0, slots := 0, locals := 0 } : Room) #[(.ref a), (.int (2 : Int32)), (.ref vv)] Z h0 (Q5t10i2 Z a vv va ta kv kt h0 n0) := by
  refine body_of (plainFor_of_name pn_2) ?_
  intro p e s m below meth c s₁ hx dB hret hlk hml hown0 hnm X0 e0 hZ
  have hown : s.vm.findClass cN_2 = some m.cls := hown0
  have N0 := Fr.nil n0
  rw [ef_5t10i2]
  show Wk p e below (FN s (Q5t10i2 Z a vv va ta kv kt h0 n0) 0 0) s₁ (mkF m 0 #[.val (.ref a), .val (.int (2 : Int32)), .val (.ref vv)] [])
  refine w_aloadN X0 hx (.ref a) (dB d5_0) 1 rfl rfl rfl ?_
  refine w_getF X0 hx hZ hown e0 (host := "") (Or.inl (tw_29 hw)) Via.refl F_trail_a (dB d5_1) 4 rfl (fun T328 X328 e328 => ?_)
  refine w_aloadN X328 hx (.ref a) (dB d5_4) 5 rfl rfl rfl ?_
  refine w_dup X328 hx (dB d5_5) 6 rfl rfl ?_
  refine w_getF X328 hx hZ hown e328 (host := "") (Or.inl (tw_36 hw)) Via.refl F_trailSize_a (dB d5_6) 9 rfl (fun T329 X329 e329 => ?_)
  refine w_dupX1 X329 hx (dB d5_9) 10 rfl rfl rfl ?_
  refine w_iconst X329 hx (dB d5_10) 11 rfl (1 : Int32) (by decide) ?_
  refine w_iadd X329 hx (dB d5_11) 12 rfl (show (3 : Int32) = (2 : Int32) + (1 : Int32) from by decide) ?_
  refine w_putF X329 hx hZ hown e329 (host := "") (Or.inl (tw_36 hw)) Via.refl F_trailSize_a E_a (Or.inl (tw_37 hw)) (tw_18 hw) (ty := .int) (by decide) rfl rfl (dB d5_12) 15 rfl (fun T330 h330 X330 e330 W330 => ?_)
  have F331 : Exa Z h330 a cN_2 := E_a.wr W330
  have F332 : Fld Z h330 a cN_2 "values" cN_3 (.ref va) := F_values_a.other W330 (Or.inr (slot_ne (Or.inr (tw_27 hw)) (Or.inl (tw_37 hw)) (by decide) (t := (.array (.object "com/example/simpagation/simpagation/Term"))) (t' := .int) (by decide) (by decide)))
  have F333 : Fld Z h330 a cN_2 "trail" "[I" (.ref ta) := F_trail_a.other W330 (Or.inr (slot_ne (Or.inr (tw_30 hw)) (Or.inl (tw_37 hw)) (by decide) (t := (.array .int)) (t' := .int) (by decide) (by decide)))
  have F334 : Fld Z h330 a cN_2 "trailSize" "I" (.int (3 : Int32)) := F_trailSize_a.same W330
  have F335 : Arv Z h330 va kv (.object cN_4) (3 : Int32) [(.ref vv), (.ref vv), .null] .null := V_va.other W330 (Ne.symm (ne_arv E_a (tw_18 hw) V_va))
  have F336 : Arv Z h330 ta kt .int (3 : Int32) [(.int (1 : Int32)), (.int (0 : Int32)), (.int (0 : Int32))] (.int (0 : Int32)) := V_ta.other W330 (Ne.symm (ne_arv E_a (tw_18 hw) V_ta))
  have F337 : Exa Z h330 vv cN_1 := E_vv.wr W330
  have Z330 : n0 ≤ h330.size := by rw [W330.size]; exact Z0
  have K330 : Keep h0 h330 [a, ta, va] := (Keep.refl h0 [a, ta, va]).wr W330 (Or.inl (List.mem_of_getElem? (i := 0) rfl))
  have N330 := Fr.snoc X330 N0 g_a
  refine w_iloadN X330 hx (2 : Int32) (dB d5_15) 16 rfl rfl ?_
  refine w_iastore X330 hx hZ e330 F336 ⟨by decide, by decide⟩ 2 (by decide) (show 2 < 3 from (by decide)) (dB d5_16) 17 rfl (fun T338 h338 X338 e338 W338 V338 => ?_)
  have F339 : Exa Z h338 a cN_2 := F331.wr W338
  have F340 : Fld Z h338 a cN_2 "values" cN_3 (.ref va) := F332.other W338 (Or.inl (ne_arv F331 (tw_18 hw) F336))
  have F341 : Fld Z h338 a cN_2 "trail" "[I" (.ref ta) := F333.other W338 (Or.inl (ne_arv F331 (tw_18 hw) F336))
  have F342 : Fld Z h338 a cN_2 "trailSize" "I" (.int (3 : Int32)) := F334.other W338 (Or.inl (ne_arv F331 (tw_18 hw) F336))
  have F343 : Arv Z h338 va kv (.object cN_4) (3 : Int32) [(.ref vv), (.ref vv), .null] .null := F335.other W338 ne1
  have F344 : Arv Z h338 ta kt .int (3 : Int32) [(.int (1 : Int32)), (.int (0 : Int32)), (.int (2 : Int32))] (.int (0 : Int32)) := V338
  have F345 : Exa Z h338 vv cN_1 := F337.wr W338
  have Z338 : n0 ≤ h338.size := by rw [W338.size]; exact Z330
  have K338 : Keep h0 h338 [a, ta, va] := K330.wr W338 (Or.inl (List.mem_of_getElem? (i := 1) rfl))
  have N338 := Fr.snoc X338 N330 g_ta
  refine w_aloadN X338 hx (.ref a) (dB d5_17) 18 rfl rfl rfl ?_
  refine w_getF X338 hx hZ hown e338 (host := "") (Or.inl (tw_26 hw)) Via.refl F340 (dB d5_18) 21 rfl (fun T346 X346 e346 => ?_)
  refine w_iloadN X346 hx (2 : Int32) (dB d5_21) 22 rfl rfl ?_
  refine w_aloadN X346 hx (.ref vv) (dB d5_22) 23 rfl rfl rfl ?_
  refine w_aastore X346 hx hZ e346 F343 ⟨by decide, by decide⟩ 2 (by decide) (show 2 < 3 from (by decide)) rfl (Or.inr ⟨_, rfl, ov, (Ins.of_exa F345 (tw_38 hw))⟩) (dB d5_23) 24 rfl (fun T347 h347 X347 e347 W347 V347 => ?_)
  have F348 : Exa Z h347 a cN_2 := F339.wr W347
  have F349 : Fld Z h347 a cN_2 "values" cN_3 (.ref va) := F340.other W347 (Or.inl (ne_arv F339 (tw_18 hw) F343))
  have F350 : Fld Z h347 a cN_2 "trail" "[I" (.ref ta) := F341.other W347 (Or.inl (ne_arv F339 (tw_18 hw) F343))
  have F351 : Fld Z h347 a cN_2 "trailSize" "I" (.int (3 : Int32)) := F342.other W347 (Or.inl (ne_arv F339 (tw_18 hw) F343))
  have F352 : Arv Z h347 va kv (.object cN_4) (3 : Int32) [(.ref vv), (.ref vv), (.ref vv)] .null := V347
  have F353 : Arv Z h347 ta kt .int (3 : Int32) [(.int (1 : Int32)), (.int (0 : Int32)), (.int (2 : Int32))] (.int (0 : Int32)) := F344.other W347 (Ne.symm ne1)
  have F354 : Exa Z h347 vv cN_1 := F345.wr W347
  have Z347 : n0 ≤ h347.size := by rw [W347.size]; exact Z338
  have K347 : Keep h0 h347 [a, ta, va] := K338.wr W347 (Or.inl (List.mem_of_getElem? (i := 2) rfl))
  have N347 := Fr.snoc X347 N338 g_va
  refine w_ret0 X347 hx hlk hret (dB d5_24) (by decide) (by decide) ?_
  rw [e347]
  exact ⟨rfl, N347, K347, F349, F350, F351, F352, F353⟩
theorem ef_5t12i0 (m : MethodId) (x0 : Addr) (x2 : Addr) : entryFrame m #[(.ref x0), (.int (0 : Int32)), (.ref x2)] 3 = mkF m 0 #[.val (.ref x0), .val (.int (0 : Int32)), .val (.ref x2)] [] := by first | (simp [entryFrame, mkF, argsToLocals, Value.category]; done) | rfl
def Q5t12i0 (Z : State) (a : Addr) (vv : Addr) (va : Addr) (ta : Addr) (kv : ClassId) (kt : ClassId) (h0 : Heap) (n0 : Nat) (v : Option Value) (h : Heap) (L : List Loc) : Prop := v = none ∧ Fr n0 L ∧ Keep h0 h [a, ta, va] ∧ Fld Z h a cN_2 "values" cN_3 (.ref va) ∧ Fld Z h a cN_2 "trail" "[I" (.ref ta) ∧ Fld Z h a cN_2 "trailSize" "I" (.int (3 : Int32)) ∧ Arv Z h va kv (.object cN_4) (3 : Int32) [(.ref vv), (.ref vv), (.ref vv)] .null ∧ Arv Z h ta kt .int (3 : Int32) [(.int (1 : Int32)), (.int (2 : Int32)), (.int (0 : Int32))] (.int (0 : Int32))
set_option maxRecDepth 65536 in
set_option maxHeartbeats 40000000 in
theorem rm5t12i0 (l : Launch) (Z : State) (a0 : Array Value) (hw : ∀ d ∈ tables_1, d.before a0 Z = true) (ws : List Jvm.Cond) (a : Addr) (vv : Addr) (va : Addr) (ta : Addr) (kv : ClassId) (kt : ClassId) (h0 : Heap) (n0 : Nat) (Z0 : n0 ≤ h0.size) (E_a : Exa Z h0 a cN_2) (F_values_a : Fld Z h0 a cN_2 "values" cN_3 (.ref va)) (F_trail_a : Fld Z h0 a cN_2 "trail" "[I" (.ref ta)) (F_trailSize_a : Fld Z h0 a cN_2 "trailSize" "I" (.int (2 : Int32))) (V_va : Arv Z h0 va kv (.object cN_4) (3 : Int32) [.null, (.ref vv), (.ref vv)] .null) (V_ta : Arv Z h0 ta kt .int (3 : Int32) [(.int (1 : Int32)), (.int (2 : Int32)), (.int (0 : Int32))] (.int (0 : Int32))) (E_vv : Exa Z h0 vv cN_1) (g_a : n0 ≤ a) (g_ta : n0 ≤ ta) (g_va : n0 ≤ va) (ne1 : va ≠ ta) (ov : Ovr Z kv "com/example/simpagation/simpagation/Term") :
    CT l mN_5 prog_1_method_5_code 3 none ws ({ frames := 0, cells := 0, slots := 0, locals := 0 } : Room) #[(.ref a), (.int (0 : Int32)), (.ref vv)] Z h0 (Q5t12i0 Z a vv va ta kv kt h0 n0) := by
  refine body_of (plainFor_of_name pn_2) ?_
  intro p e s m below meth c s₁ hx dB hret hlk hml hown0 hnm X0 e0 hZ
  have hown : s.vm.findClass cN_2 = some m.cls := hown0
  have N0 := Fr.nil n0
  rw [ef_5t12i0]
  show Wk p e below (FN s (Q5t12i0 Z a vv va ta kv kt h0 n0) 0 0) s₁ (mkF m 0 #[.val (.ref a), .val (.int (0 : Int32)), .val (.ref vv)] [])
  refine w_aloadN X0 hx (.ref a) (dB d5_0) 1 rfl rfl rfl ?_
  refine w_getF X0 hx hZ hown e0 (host := "") (Or.inl (tw_29 hw)) Via.refl F_trail_a (dB d5_1) 4 rfl (fun T355 X355 e355 => ?_)
  refine w_aloadN X355 hx (.ref a) (dB d5_4) 5 rfl rfl rfl ?_
  refine w_dup X355 hx (dB d5_5) 6 rfl rfl ?_
  refine w_getF X355 hx hZ hown e355 (host := "") (Or.inl (tw_36 hw)) Via.refl F_trailSize_a (dB d5_6) 9 rfl (fun T356 X356 e356 => ?_)
  refine w_dupX1 X356 hx (dB d5_9) 10 rfl rfl rfl ?_
  refine w_iconst X356 hx (dB d5_10) 11 rfl (1 : Int32) (by decide) ?_
  refine w_iadd X356 hx (dB d5_11) 12 rfl (show (3 : Int32) = (2 : Int32) + (1 : Int32) from by decide) ?_
  refine w_putF X356 hx hZ hown e356 (host := "") (Or.inl (tw_36 hw)) Via.refl F_trailSize_a E_a (Or.inl (tw_37 hw)) (tw_18 hw) (ty := .int) (by decide) rfl rfl (dB d5_12) 15 rfl (fun T357 h357 X357 e357 W357 => ?_)
  have F358 : Exa Z h357 a cN_2 := E_a.wr W357
  have F359 : Fld Z h357 a cN_2 "values" cN_3 (.ref va) := F_values_a.other W357 (Or.inr (slot_ne (Or.inr (tw_27 hw)) (Or.inl (tw_37 hw)) (by decide) (t := (.array (.object "com/example/simpagation/simpagation/Term"))) (t' := .int) (by decide) (by decide)))
  have F360 : Fld Z h357 a cN_2 "trail" "[I" (.ref ta) := F_trail_a.other W357 (Or.inr (slot_ne (Or.inr (tw_30 hw)) (Or.inl (tw_37 hw)) (by decide) (t := (.array .int)) (t' := .int) (by decide) (by decide)))
  have F361 : Fld Z h357 a cN_2 "trailSize" "I" (.int (3 : Int32)) := F_trailSize_a.same W357
  have F362 : Arv Z h357 va kv (.object cN_4) (3 : Int32) [.null, (.ref vv), (.ref vv)] .null := V_va.other W357 (Ne.symm (ne_arv E_a (tw_18 hw) V_va))
  have F363 : Arv Z h357 ta kt .int (3 : Int32) [(.int (1 : Int32)), (.int (2 : Int32)), (.int (0 : Int32))] (.int (0 : Int32)) := V_ta.other W357 (Ne.symm (ne_arv E_a (tw_18 hw) V_ta))
  have F364 : Exa Z h357 vv cN_1 := E_vv.wr W357
  have Z357 : n0 ≤ h357.size := by rw [W357.size]; exact Z0
  have K357 : Keep h0 h357 [a, ta, va] := (Keep.refl h0 [a, ta, va]).wr W357 (Or.inl (List.mem_of_getElem? (i := 0) rfl))
  have N357 := Fr.snoc X357 N0 g_a
  refine w_iloadN X357 hx (0 : Int32) (dB d5_15) 16 rfl rfl ?_
  refine w_iastore X357 hx hZ e357 F363 ⟨by decide, by decide⟩ 2 (by decide) (show 2 < 3 from (by decide)) (dB d5_16) 17 rfl (fun T365 h365 X365 e365 W365 V365 => ?_)
  have F366 : Exa Z h365 a cN_2 := F358.wr W365
  have F367 : Fld Z h365 a cN_2 "values" cN_3 (.ref va) := F359.other W365 (Or.inl (ne_arv F358 (tw_18 hw) F363))
  have F368 : Fld Z h365 a cN_2 "trail" "[I" (.ref ta) := F360.other W365 (Or.inl (ne_arv F358 (tw_18 hw) F363))
  have F369 : Fld Z h365 a cN_2 "trailSize" "I" (.int (3 : Int32)) := F361.other W365 (Or.inl (ne_arv F358 (tw_18 hw) F363))
  have F370 : Arv Z h365 va kv (.object cN_4) (3 : Int32) [.null, (.ref vv), (.ref vv)] .null := F362.other W365 ne1
  have F371 : Arv Z h365 ta kt .int (3 : Int32) [(.int (1 : Int32)), (.int (2 : Int32)), (.int (0 : Int32))] (.int (0 : Int32)) := V365
  have F372 : Exa Z h365 vv cN_1 := F364.wr W365
  have Z365 : n0 ≤ h365.size := by rw [W365.size]; exact Z357
  have K365 : Keep h0 h365 [a, ta, va] := K357.wr W365 (Or.inl (List.mem_of_getElem? (i := 1) rfl))
  have N365 := Fr.snoc X365 N357 g_ta
  refine w_aloadN X365 hx (.ref a) (dB d5_17) 18 rfl rfl rfl ?_
  refine w_getF X365 hx hZ hown e365 (host := "") (Or.inl (tw_26 hw)) Via.refl F367 (dB d5_18) 21 rfl (fun T373 X373 e373 => ?_)
  refine w_iloadN X373 hx (0 : Int32) (dB d5_21) 22 rfl rfl ?_
  refine w_aloadN X373 hx (.ref vv) (dB d5_22) 23 rfl rfl rfl ?_
  refine w_aastore X373 hx hZ e373 F370 ⟨by decide, by decide⟩ 0 (by decide) (show 0 < 3 from (by decide)) rfl (Or.inr ⟨_, rfl, ov, (Ins.of_exa F372 (tw_38 hw))⟩) (dB d5_23) 24 rfl (fun T374 h374 X374 e374 W374 V374 => ?_)
  have F375 : Exa Z h374 a cN_2 := F366.wr W374
  have F376 : Fld Z h374 a cN_2 "values" cN_3 (.ref va) := F367.other W374 (Or.inl (ne_arv F366 (tw_18 hw) F370))
  have F377 : Fld Z h374 a cN_2 "trail" "[I" (.ref ta) := F368.other W374 (Or.inl (ne_arv F366 (tw_18 hw) F370))
  have F378 : Fld Z h374 a cN_2 "trailSize" "I" (.int (3 : Int32)) := F369.other W374 (Or.inl (ne_arv F366 (tw_18 hw) F370))
  have F379 : Arv Z h374 va kv (.object cN_4) (3 : Int32) [(.ref vv), (.ref vv), (.ref vv)] .null := V374
  have F380 : Arv Z h374 ta kt .int (3 : Int32) [(.int (1 : Int32)), (.int (2 : Int32)), (.int (0 : Int32))] (.int (0 : Int32)) := F371.other W374 (Ne.symm ne1)
  have F381 : Exa Z h374 vv cN_1 := F372.wr W374
  have Z374 : n0 ≤ h374.size := by rw [W374.size]; exact Z365
  have K374 : Keep h0 h374 [a, ta, va] := K365.wr W374 (Or.inl (List.mem_of_getElem? (i := 2) rfl))
  have N374 := Fr.snoc X374 N365 g_va
  refine w_ret0 X374 hx hlk hret (dB d5_24) (by decide) (by decide) ?_
  rw [e374]
  exact ⟨rfl, N374, K374, F376, F377, F378, F379, F380⟩
theorem ef_5t20i1 (m : MethodId) (x0 : Addr) (x2 : Addr) : entryFrame m #[(.ref x0), (.int (1 : Int32)), (.ref x2)] 3 = mkF m 0 #[.val (.ref x0), .val (.int (1 : Int32)), .val (.ref x2)] [] := by first | (simp [entryFrame, mkF, argsToLocals, Value.category]; done) | rfl
def Q5t20i1 (Z : State) (a : Addr) (vv : Addr) (va : Addr) (ta : Addr) (kv : ClassId) (kt : ClassId) (h0 : Heap) (n0 : Nat) (v : Option Value) (h : Heap) (L : List Loc) : Prop := v = none ∧ Fr n0 L ∧ Keep h0 h [a, ta, va] ∧ Fld Z h a cN_2 "values" cN_3 (.ref va) ∧ Fld Z h a cN_2 "trail" "[I" (.ref ta) ∧ Fld Z h a cN_2 "trailSize" "I" (.int (3 : Int32)) ∧ Arv Z h va kv (.object cN_4) (3 : Int32) [(.ref vv), (.ref vv), (.ref vv)] .null ∧ Arv Z h ta kt .int (3 : Int32) [(.int (2 : Int32)), (.int (0 : Int32)), (.int (1 : Int32))] (.int (0 : Int32))
set_option maxRecDepth 65536 in
set_option maxHeartbeats 40000000 in
theorem rm5t20i1 (l : Launch) (Z : State) (a0 : Array Value) (hw : ∀ d ∈ tables_1, d.before a0 Z = true) (ws : List Jvm.Cond) (a : Addr) (vv : Addr) (va : Addr) (ta : Addr) (kv : ClassId) (kt : ClassId) (h0 : Heap) (n0 : Nat) (Z0 : n0 ≤ h0.size) (E_a : Exa Z h0 a cN_2) (F_values_a : Fld Z h0 a cN_2 "values" cN_3 (.ref va)) (F_trail_a : Fld Z h0 a cN_2 "trail" "[I" (.ref ta)) (F_trailSize_a : Fld Z h0 a cN_2 "trailSize" "I" (.int (2 : Int32))) (V_va : Arv Z h0 va kv (.object cN_4) (3 : Int32) [(.ref vv), .null, (.ref vv)] .null) (V_ta : Arv Z h0 ta kt .int (3 : Int32) [(.int (2 : Int32)), (.int (0 : Int32)), (.int (0 : Int32))] (.int (0 : Int32))) (E_vv : Exa Z h0 vv cN_1) (g_a : n0 ≤ a) (g_ta : n0 ≤ ta) (g_va : n0 ≤ va) (ne1 : va ≠ ta) (ov : Ovr Z kv "com/example/simpagation/simpagation/Term") :
    CT l mN_5 prog_1_method_5_code 3 none ws ({ frames := 0, cells := 0, slots := 0, locals := 0 } : Room) #[(.ref a), (.int (1 : Int32)), (.ref vv)] Z h0 (Q5t20i1 Z a vv va ta kv kt h0 n0) := by
  refine body_of (plainFor_of_name pn_2) ?_
  intro p e s m below meth c s₁ hx dB hret hlk hml hown0 hnm X0 e0 hZ
  have hown : s.vm.findClass cN_2 = some m.cls := hown0
  have N0 := Fr.nil n0
  rw [ef_5t20i1]
  show Wk p e below (FN s (Q5t20i1 Z a vv va ta kv kt h0 n0) 0 0) s₁ (mkF m 0 #[.val (.ref a), .val (.int (1 : Int32)), .val (.ref vv)] [])
  refine w_aloadN X0 hx (.ref a) (dB d5_0) 1 rfl rfl rfl ?_
  refine w_getF X0 hx hZ hown e0 (host := "") (Or.inl (tw_29 hw)) Via.refl F_trail_a (dB d5_1) 4 rfl (fun T382 X382 e382 => ?_)
  refine w_aloadN X382 hx (.ref a) (dB d5_4) 5 rfl rfl rfl ?_
  refine w_dup X382 hx (dB d5_5) 6 rfl rfl ?_
  refine w_getF X382 hx hZ hown e382 (host := "") (Or.inl (tw_36 hw)) Via.refl F_trailSize_a (dB d5_6) 9 rfl (fun T383 X383 e383 => ?_)
  refine w_dupX1 X383 hx (dB d5_9) 10 rfl rfl rfl ?_
  refine w_iconst X383 hx (dB d5_10) 11 rfl (1 : Int32) (by decide) ?_
  refine w_iadd X383 hx (dB d5_11) 12 rfl (show (3 : Int32) = (2 : Int32) + (1 : Int32) from by decide) ?_
  refine w_putF X383 hx hZ hown e383 (host := "") (Or.inl (tw_36 hw)) Via.refl F_trailSize_a E_a (Or.inl (tw_37 hw)) (tw_18 hw) (ty := .int) (by decide) rfl rfl (dB d5_12) 15 rfl (fun T384 h384 X384 e384 W384 => ?_)
  have F385 : Exa Z h384 a cN_2 := E_a.wr W384
  have F386 : Fld Z h384 a cN_2 "values" cN_3 (.ref va) := F_values_a.other W384 (Or.inr (slot_ne (Or.inr (tw_27 hw)) (Or.inl (tw_37 hw)) (by decide) (t := (.array (.object "com/example/simpagation/simpagation/Term"))) (t' := .int) (by decide) (by decide)))
  have F387 : Fld Z h384 a cN_2 "trail" "[I" (.ref ta) := F_trail_a.other W384 (Or.inr (slot_ne (Or.inr (tw_30 hw)) (Or.inl (tw_37 hw)) (by decide) (t := (.array .int)) (t' := .int) (by decide) (by decide)))
  have F388 : Fld Z h384 a cN_2 "trailSize" "I" (.int (3 : Int32)) := F_trailSize_a.same W384
  have F389 : Arv Z h384 va kv (.object cN_4) (3 : Int32) [(.ref vv), .null, (.ref vv)] .null := V_va.other W384 (Ne.symm (ne_arv E_a (tw_18 hw) V_va))
  have F390 : Arv Z h384 ta kt .int (3 : Int32) [(.int (2 : Int32)), (.int (0 : Int32)), (.int (0 : Int32))] (.int (0 : Int32)) := V_ta.other W384 (Ne.symm (ne_arv E_a (tw_18 hw) V_ta))
  have F391 : Exa Z h384 vv cN_1 := E_vv.wr W384
  have Z384 : n0 ≤ h384.size := by rw [W384.size]; exact Z0
  have K384 : Keep h0 h384 [a, ta, va] := (Keep.refl h0 [a, ta, va]).wr W384 (Or.inl (List.mem_of_getElem? (i := 0) rfl))
  have N384 := Fr.snoc X384 N0 g_a
  refine w_iloadN X384 hx (1 : Int32) (dB d5_15) 16 rfl rfl ?_
  refine w_iastore X384 hx hZ e384 F390 ⟨by decide, by decide⟩ 2 (by decide) (show 2 < 3 from (by decide)) (dB d5_16) 17 rfl (fun T392 h392 X392 e392 W392 V392 => ?_)
  have F393 : Exa Z h392 a cN_2 := F385.wr W392
  have F394 : Fld Z h392 a cN_2 "values" cN_3 (.ref va) := F386.other W392 (Or.inl (ne_arv F385 (tw_18 hw) F390))
  have F395 : Fld Z h392 a cN_2 "trail" "[I" (.ref ta) := F387.other W392 (Or.inl (ne_arv F385 (tw_18 hw) F390))
  have F396 : Fld Z h392 a cN_2 "trailSize" "I" (.int (3 : Int32)) := F388.other W392 (Or.inl (ne_arv F385 (tw_18 hw) F390))
  have F397 : Arv Z h392 va kv (.object cN_4) (3 : Int32) [(.ref vv), .null, (.ref vv)] .null := F389.other W392 ne1
  have F398 : Arv Z h392 ta kt .int (3 : Int32) [(.int (2 : Int32)), (.int (0 : Int32)), (.int (1 : Int32))] (.int (0 : Int32)) := V392
  have F399 : Exa Z h392 vv cN_1 := F391.wr W392
  have Z392 : n0 ≤ h392.size := by rw [W392.size]; exact Z384
  have K392 : Keep h0 h392 [a, ta, va] := K384.wr W392 (Or.inl (List.mem_of_getElem? (i := 1) rfl))
  have N392 := Fr.snoc X392 N384 g_ta
  refine w_aloadN X392 hx (.ref a) (dB d5_17) 18 rfl rfl rfl ?_
  refine w_getF X392 hx hZ hown e392 (host := "") (Or.inl (tw_26 hw)) Via.refl F394 (dB d5_18) 21 rfl (fun T400 X400 e400 => ?_)
  refine w_iloadN X400 hx (1 : Int32) (dB d5_21) 22 rfl rfl ?_
  refine w_aloadN X400 hx (.ref vv) (dB d5_22) 23 rfl rfl rfl ?_
  refine w_aastore X400 hx hZ e400 F397 ⟨by decide, by decide⟩ 1 (by decide) (show 1 < 3 from (by decide)) rfl (Or.inr ⟨_, rfl, ov, (Ins.of_exa F399 (tw_38 hw))⟩) (dB d5_23) 24 rfl (fun T401 h401 X401 e401 W401 V401 => ?_)
  have F402 : Exa Z h401 a cN_2 := F393.wr W401
  have F403 : Fld Z h401 a cN_2 "values" cN_3 (.ref va) := F394.other W401 (Or.inl (ne_arv F393 (tw_18 hw) F397))
  have F404 : Fld Z h401 a cN_2 "trail" "[I" (.ref ta) := F395.other W401 (Or.inl (ne_arv F393 (tw_18 hw) F397))
  have F405 : Fld Z h401 a cN_2 "trailSize" "I" (.int (3 : Int32)) := F396.other W401 (Or.inl (ne_arv F393 (tw_18 hw) F397))
  have F406 : Arv Z h401 va kv (.object cN_4) (3 : Int32) [(.ref vv), (.ref vv), (.ref vv)] .null := V401
  have F407 : Arv Z h401 ta kt .int (3 : Int32) [(.int (2 : Int32)), (.int (0 : Int32)), (.int (1 : Int32))] (.int (0 : Int32)) := F398.other W401 (Ne.symm ne1)
  have F408 : Exa Z h401 vv cN_1 := F399.wr W401
  have Z401 : n0 ≤ h401.size := by rw [W401.size]; exact Z392
  have K401 : Keep h0 h401 [a, ta, va] := K392.wr W401 (Or.inl (List.mem_of_getElem? (i := 2) rfl))
  have N401 := Fr.snoc X401 N392 g_va
  refine w_ret0 X401 hx hlk hret (dB d5_24) (by decide) (by decide) ?_
  rw [e401]
  exact ⟨rfl, N401, K401, F403, F404, F405, F406, F407⟩
theorem ef_5t21i0 (m : MethodId) (x0 : Addr) (x2 : Addr) : entryFrame m #[(.ref x0), (.int (0 : Int32)), (.ref x2)] 3 = mkF m 0 #[.val (.ref x0), .val (.int (0 : Int32)), .val (.ref x2)] [] := by first | (simp [entryFrame, mkF, argsToLocals, Value.category]; done) | rfl
def Q5t21i0 (Z : State) (a : Addr) (vv : Addr) (va : Addr) (ta : Addr) (kv : ClassId) (kt : ClassId) (h0 : Heap) (n0 : Nat) (v : Option Value) (h : Heap) (L : List Loc) : Prop := v = none ∧ Fr n0 L ∧ Keep h0 h [a, ta, va] ∧ Fld Z h a cN_2 "values" cN_3 (.ref va) ∧ Fld Z h a cN_2 "trail" "[I" (.ref ta) ∧ Fld Z h a cN_2 "trailSize" "I" (.int (3 : Int32)) ∧ Arv Z h va kv (.object cN_4) (3 : Int32) [(.ref vv), (.ref vv), (.ref vv)] .null ∧ Arv Z h ta kt .int (3 : Int32) [(.int (2 : Int32)), (.int (1 : Int32)), (.int (0 : Int32))] (.int (0 : Int32))
set_option maxRecDepth 65536 in
set_option maxHeartbeats 40000000 in
theorem rm5t21i0 (l : Launch) (Z : State) (a0 : Array Value) (hw : ∀ d ∈ tables_1, d.before a0 Z = true) (ws : List Jvm.Cond) (a : Addr) (vv : Addr) (va : Addr) (ta : Addr) (kv : ClassId) (kt : ClassId) (h0 : Heap) (n0 : Nat) (Z0 : n0 ≤ h0.size) (E_a : Exa Z h0 a cN_2) (F_values_a : Fld Z h0 a cN_2 "values" cN_3 (.ref va)) (F_trail_a : Fld Z h0 a cN_2 "trail" "[I" (.ref ta)) (F_trailSize_a : Fld Z h0 a cN_2 "trailSize" "I" (.int (2 : Int32))) (V_va : Arv Z h0 va kv (.object cN_4) (3 : Int32) [.null, (.ref vv), (.ref vv)] .null) (V_ta : Arv Z h0 ta kt .int (3 : Int32) [(.int (2 : Int32)), (.int (1 : Int32)), (.int (0 : Int32))] (.int (0 : Int32))) (E_vv : Exa Z h0 vv cN_1) (g_a : n0 ≤ a) (g_ta : n0 ≤ ta) (g_va : n0 ≤ va) (ne1 : va ≠ ta) (ov : Ovr Z kv "com/example/simpagation/simpagation/Term") :
    CT l mN_5 prog_1_method_5_code 3 none ws ({ frames := 0, cells := 0, slots := 0, locals := 0 } : Room) #[(.ref a), (.int (0 : Int32)), (.ref vv)] Z h0 (Q5t21i0 Z a vv va ta kv kt h0 n0) := by
  refine body_of (plainFor_of_name pn_2) ?_
  intro p e s m below meth c s₁ hx dB hret hlk hml hown0 hnm X0 e0 hZ
  have hown : s.vm.findClass cN_2 = some m.cls := hown0
  have N0 := Fr.nil n0
  rw [ef_5t21i0]
  show Wk p e below (FN s (Q5t21i0 Z a vv va ta kv kt h0 n0) 0 0) s₁ (mkF m 0 #[.val (.ref a), .val (.int (0 : Int32)), .val (.ref vv)] [])
  refine w_aloadN X0 hx (.ref a) (dB d5_0) 1 rfl rfl rfl ?_
  refine w_getF X0 hx hZ hown e0 (host := "") (Or.inl (tw_29 hw)) Via.refl F_trail_a (dB d5_1) 4 rfl (fun T409 X409 e409 => ?_)
  refine w_aloadN X409 hx (.ref a) (dB d5_4) 5 rfl rfl rfl ?_
  refine w_dup X409 hx (dB d5_5) 6 rfl rfl ?_
  refine w_getF X409 hx hZ hown e409 (host := "") (Or.inl (tw_36 hw)) Via.refl F_trailSize_a (dB d5_6) 9 rfl (fun T410 X410 e410 => ?_)
  refine w_dupX1 X410 hx (dB d5_9) 10 rfl rfl rfl ?_
  refine w_iconst X410 hx (dB d5_10) 11 rfl (1 : Int32) (by decide) ?_
  refine w_iadd X410 hx (dB d5_11) 12 rfl (show (3 : Int32) = (2 : Int32) + (1 : Int32) from by decide) ?_
  refine w_putF X410 hx hZ hown e410 (host := "") (Or.inl (tw_36 hw)) Via.refl F_trailSize_a E_a (Or.inl (tw_37 hw)) (tw_18 hw) (ty := .int) (by decide) rfl rfl (dB d5_12) 15 rfl (fun T411 h411 X411 e411 W411 => ?_)
  have F412 : Exa Z h411 a cN_2 := E_a.wr W411
  have F413 : Fld Z h411 a cN_2 "values" cN_3 (.ref va) := F_values_a.other W411 (Or.inr (slot_ne (Or.inr (tw_27 hw)) (Or.inl (tw_37 hw)) (by decide) (t := (.array (.object "com/example/simpagation/simpagation/Term"))) (t' := .int) (by decide) (by decide)))
  have F414 : Fld Z h411 a cN_2 "trail" "[I" (.ref ta) := F_trail_a.other W411 (Or.inr (slot_ne (Or.inr (tw_30 hw)) (Or.inl (tw_37 hw)) (by decide) (t := (.array .int)) (t' := .int) (by decide) (by decide)))
  have F415 : Fld Z h411 a cN_2 "trailSize" "I" (.int (3 : Int32)) := F_trailSize_a.same W411
  have F416 : Arv Z h411 va kv (.object cN_4) (3 : Int32) [.null, (.ref vv), (.ref vv)] .null := V_va.other W411 (Ne.symm (ne_arv E_a (tw_18 hw) V_va))
  have F417 : Arv Z h411 ta kt .int (3 : Int32) [(.int (2 : Int32)), (.int (1 : Int32)), (.int (0 : Int32))] (.int (0 : Int32)) := V_ta.other W411 (Ne.symm (ne_arv E_a (tw_18 hw) V_ta))
  have F418 : Exa Z h411 vv cN_1 := E_vv.wr W411
  have Z411 : n0 ≤ h411.size := by rw [W411.size]; exact Z0
  have K411 : Keep h0 h411 [a, ta, va] := (Keep.refl h0 [a, ta, va]).wr W411 (Or.inl (List.mem_of_getElem? (i := 0) rfl))
  have N411 := Fr.snoc X411 N0 g_a
  refine w_iloadN X411 hx (0 : Int32) (dB d5_15) 16 rfl rfl ?_
  refine w_iastore X411 hx hZ e411 F417 ⟨by decide, by decide⟩ 2 (by decide) (show 2 < 3 from (by decide)) (dB d5_16) 17 rfl (fun T419 h419 X419 e419 W419 V419 => ?_)
  have F420 : Exa Z h419 a cN_2 := F412.wr W419
  have F421 : Fld Z h419 a cN_2 "values" cN_3 (.ref va) := F413.other W419 (Or.inl (ne_arv F412 (tw_18 hw) F417))
  have F422 : Fld Z h419 a cN_2 "trail" "[I" (.ref ta) := F414.other W419 (Or.inl (ne_arv F412 (tw_18 hw) F417))
  have F423 : Fld Z h419 a cN_2 "trailSize" "I" (.int (3 : Int32)) := F415.other W419 (Or.inl (ne_arv F412 (tw_18 hw) F417))
  have F424 : Arv Z h419 va kv (.object cN_4) (3 : Int32) [.null, (.ref vv), (.ref vv)] .null := F416.other W419 ne1
  have F425 : Arv Z h419 ta kt .int (3 : Int32) [(.int (2 : Int32)), (.int (1 : Int32)), (.int (0 : Int32))] (.int (0 : Int32)) := V419
  have F426 : Exa Z h419 vv cN_1 := F418.wr W419
  have Z419 : n0 ≤ h419.size := by rw [W419.size]; exact Z411
  have K419 : Keep h0 h419 [a, ta, va] := K411.wr W419 (Or.inl (List.mem_of_getElem? (i := 1) rfl))
  have N419 := Fr.snoc X419 N411 g_ta
  refine w_aloadN X419 hx (.ref a) (dB d5_17) 18 rfl rfl rfl ?_
  refine w_getF X419 hx hZ hown e419 (host := "") (Or.inl (tw_26 hw)) Via.refl F421 (dB d5_18) 21 rfl (fun T427 X427 e427 => ?_)
  refine w_iloadN X427 hx (0 : Int32) (dB d5_21) 22 rfl rfl ?_
  refine w_aloadN X427 hx (.ref vv) (dB d5_22) 23 rfl rfl rfl ?_
  refine w_aastore X427 hx hZ e427 F424 ⟨by decide, by decide⟩ 0 (by decide) (show 0 < 3 from (by decide)) rfl (Or.inr ⟨_, rfl, ov, (Ins.of_exa F426 (tw_38 hw))⟩) (dB d5_23) 24 rfl (fun T428 h428 X428 e428 W428 V428 => ?_)
  have F429 : Exa Z h428 a cN_2 := F420.wr W428
  have F430 : Fld Z h428 a cN_2 "values" cN_3 (.ref va) := F421.other W428 (Or.inl (ne_arv F420 (tw_18 hw) F424))
  have F431 : Fld Z h428 a cN_2 "trail" "[I" (.ref ta) := F422.other W428 (Or.inl (ne_arv F420 (tw_18 hw) F424))
  have F432 : Fld Z h428 a cN_2 "trailSize" "I" (.int (3 : Int32)) := F423.other W428 (Or.inl (ne_arv F420 (tw_18 hw) F424))
  have F433 : Arv Z h428 va kv (.object cN_4) (3 : Int32) [(.ref vv), (.ref vv), (.ref vv)] .null := V428
  have F434 : Arv Z h428 ta kt .int (3 : Int32) [(.int (2 : Int32)), (.int (1 : Int32)), (.int (0 : Int32))] (.int (0 : Int32)) := F425.other W428 (Ne.symm ne1)
  have F435 : Exa Z h428 vv cN_1 := F426.wr W428
  have Z428 : n0 ≤ h428.size := by rw [W428.size]; exact Z419
  have K428 : Keep h0 h428 [a, ta, va] := K419.wr W428 (Or.inl (List.mem_of_getElem? (i := 2) rfl))
  have N428 := Fr.snoc X428 N419 g_va
  refine w_ret0 X428 hx hlk hret (dB d5_24) (by decide) (by decide) ?_
  rw [e428]
  exact ⟨rfl, N428, K428, F430, F431, F432, F433, F434⟩
theorem ef_6ge0 (m : MethodId) (x0 : Addr) (x1 : Int32) : entryFrame m #[(.ref x0), (.int x1)] 2 = mkF m 0 #[.val (.ref x0), .val (.int x1)] [] := by first | (simp [entryFrame, mkF, argsToLocals, Value.category]; done) | rfl
def Q6ge0 (Z : State) (a : Addr) (xm : Int32) (h0 : Heap) (n0 : Nat) (v : Option Value) (h : Heap) (L : List Loc) : Prop := v = none ∧ Fr n0 L ∧ h = h0
set_option maxRecDepth 65536 in
set_option maxHeartbeats 40000000 in
theorem rm6ge0 (l : Launch) (Z : State) (a0 : Array Value) (hw : ∀ d ∈ tables_1, d.before a0 Z = true) (ws : List Jvm.Cond) (a : Addr) (xm : Int32) (h0 : Heap) (n0 : Nat) (Z0 : n0 ≤ h0.size) (F_trailSize_a : Fld Z h0 a cN_2 "trailSize" "I" (.int (0 : Int32))) (p0 : 0 ≤ xm.toInt) :
    CT l mN_6 prog_1_method_7_code 2 none ws ({ frames := 0, cells := 0, slots := 0, locals := 0 } : Room) #[(.ref a), (.int xm)] Z h0 (Q6ge0 Z a xm h0 n0) := by
  refine body_of (plainFor_of_name pn_2) ?_
  intro p e s m below meth c s₁ hx dB hret hlk hml hown0 hnm X0 e0 hZ
  have hown : s.vm.findClass cN_2 = some m.cls := hown0
  have N0 := Fr.nil n0
  rw [ef_6ge0]
  show Wk p e below (FN s (Q6ge0 Z a xm h0 n0) 0 0) s₁ (mkF m 0 #[.val (.ref a), .val (.int xm)] [])
  have r_xm := rng32 xm
  refine w_aloadN X0 hx (.ref a) (dB d6_0) 1 rfl rfl rfl ?_
  refine w_getF X0 hx hZ hown e0 (host := "") (Or.inl (tw_36 hw)) Via.refl F_trailSize_a (dB d6_1) 4 rfl (fun T436 X436 e436 => ?_)
  refine w_iloadN X436 hx xm (dB d6_4) 5 rfl rfl ?_
  refine w_icmp_le X436 hx 0 xm.toInt (by decide) rfl (dB d6_5) 33 8 (fun c437 => ?_) (fun c437 => ?_)
  ·refine w_ret0 X436 hx hlk hret (dB d6_33) (by decide) (by decide) ?_
   rw [e436]
   exact ⟨rfl, N0, rfl⟩
  ·exfalso; omega
theorem ef_6ge1 (m : MethodId) (x0 : Addr) (x1 : Int32) : entryFrame m #[(.ref x0), (.int x1)] 2 = mkF m 0 #[.val (.ref x0), .val (.int x1)] [] := by first | (simp [entryFrame, mkF, argsToLocals, Value.category]; done) | rfl
def Q6ge1 (Z : State) (a : Addr) (xm : Int32) (h0 : Heap) (n0 : Nat) (v : Option Value) (h : Heap) (L : List Loc) : Prop := v = none ∧ Fr n0 L ∧ h = h0
set_option maxRecDepth 65536 in
set_option maxHeartbeats 40000000 in
theorem rm6ge1 (l : Launch) (Z : State) (a0 : Array Value) (hw : ∀ d ∈ tables_1, d.before a0 Z = true) (ws : List Jvm.Cond) (a : Addr) (xm : Int32) (h0 : Heap) (n0 : Nat) (Z0 : n0 ≤ h0.size) (F_trailSize_a : Fld Z h0 a cN_2 "trailSize" "I" (.int (1 : Int32))) (p0 : 1 ≤ xm.toInt) :
    CT l mN_6 prog_1_method_7_code 2 none ws ({ frames := 0, cells := 0, slots := 0, locals := 0 } : Room) #[(.ref a), (.int xm)] Z h0 (Q6ge1 Z a xm h0 n0) := by
  refine body_of (plainFor_of_name pn_2) ?_
  intro p e s m below meth c s₁ hx dB hret hlk hml hown0 hnm X0 e0 hZ
  have hown : s.vm.findClass cN_2 = some m.cls := hown0
  have N0 := Fr.nil n0
  rw [ef_6ge1]
  show Wk p e below (FN s (Q6ge1 Z a xm h0 n0) 0 0) s₁ (mkF m 0 #[.val (.ref a), .val (.int xm)] [])
  have r_xm := rng32 xm
  refine w_aloadN X0 hx (.ref a) (dB d6_0) 1 rfl rfl rfl ?_
  refine w_getF X0 hx hZ hown e0 (host := "") (Or.inl (tw_36 hw)) Via.refl F_trailSize_a (dB d6_1) 4 rfl (fun T438 X438 e438 => ?_)
  refine w_iloadN X438 hx xm (dB d6_4) 5 rfl rfl ?_
  refine w_icmp_le X438 hx 1 xm.toInt (by decide) rfl (dB d6_5) 33 8 (fun c439 => ?_) (fun c439 => ?_)
  ·refine w_ret0 X438 hx hlk hret (dB d6_33) (by decide) (by decide) ?_
   rw [e438]
   exact ⟨rfl, N0, rfl⟩
  ·exfalso; omega
theorem ef_6ge2 (m : MethodId) (x0 : Addr) (x1 : Int32) : entryFrame m #[(.ref x0), (.int x1)] 2 = mkF m 0 #[.val (.ref x0), .val (.int x1)] [] := by first | (simp [entryFrame, mkF, argsToLocals, Value.category]; done) | rfl
def Q6ge2 (Z : State) (a : Addr) (xm : Int32) (h0 : Heap) (n0 : Nat) (v : Option Value) (h : Heap) (L : List Loc) : Prop := v = none ∧ Fr n0 L ∧ h = h0
set_option maxRecDepth 65536 in
set_option maxHeartbeats 40000000 in
theorem rm6ge2 (l : Launch) (Z : State) (a0 : Array Value) (hw : ∀ d ∈ tables_1, d.before a0 Z = true) (ws : List Jvm.Cond) (a : Addr) (xm : Int32) (h0 : Heap) (n0 : Nat) (Z0 : n0 ≤ h0.size) (F_trailSize_a : Fld Z h0 a cN_2 "trailSize" "I" (.int (2 : Int32))) (p0 : 2 ≤ xm.toInt) :
    CT l mN_6 prog_1_method_7_code 2 none ws ({ frames := 0, cells := 0, slots := 0, locals := 0 } : Room) #[(.ref a), (.int xm)] Z h0 (Q6ge2 Z a xm h0 n0) := by
  refine body_of (plainFor_of_name pn_2) ?_
  intro p e s m below meth c s₁ hx dB hret hlk hml hown0 hnm X0 e0 hZ
  have hown : s.vm.findClass cN_2 = some m.cls := hown0
  have N0 := Fr.nil n0
  rw [ef_6ge2]
  show Wk p e below (FN s (Q6ge2 Z a xm h0 n0) 0 0) s₁ (mkF m 0 #[.val (.ref a), .val (.int xm)] [])
  have r_xm := rng32 xm
  refine w_aloadN X0 hx (.ref a) (dB d6_0) 1 rfl rfl rfl ?_
  refine w_getF X0 hx hZ hown e0 (host := "") (Or.inl (tw_36 hw)) Via.refl F_trailSize_a (dB d6_1) 4 rfl (fun T440 X440 e440 => ?_)
  refine w_iloadN X440 hx xm (dB d6_4) 5 rfl rfl ?_
  refine w_icmp_le X440 hx 2 xm.toInt (by decide) rfl (dB d6_5) 33 8 (fun c441 => ?_) (fun c441 => ?_)
  ·refine w_ret0 X440 hx hlk hret (dB d6_33) (by decide) (by decide) ?_
   rw [e440]
   exact ⟨rfl, N0, rfl⟩
  ·exfalso; omega
theorem ef_6ge3 (m : MethodId) (x0 : Addr) (x1 : Int32) : entryFrame m #[(.ref x0), (.int x1)] 2 = mkF m 0 #[.val (.ref x0), .val (.int x1)] [] := by first | (simp [entryFrame, mkF, argsToLocals, Value.category]; done) | rfl
def Q6ge3 (Z : State) (a : Addr) (xm : Int32) (h0 : Heap) (n0 : Nat) (v : Option Value) (h : Heap) (L : List Loc) : Prop := v = none ∧ Fr n0 L ∧ h = h0
set_option maxRecDepth 65536 in
set_option maxHeartbeats 40000000 in
theorem rm6ge3 (l : Launch) (Z : State) (a0 : Array Value) (hw : ∀ d ∈ tables_1, d.before a0 Z = true) (ws : List Jvm.Cond) (a : Addr) (xm : Int32) (h0 : Heap) (n0 : Nat) (Z0 : n0 ≤ h0.size) (F_trailSize_a : Fld Z h0 a cN_2 "trailSize" "I" (.int (3 : Int32))) (p0 : 3 ≤ xm.toInt) :
    CT l mN_6 prog_1_method_7_code 2 none ws ({ frames := 0, cells := 0, slots := 0, locals := 0 } : Room) #[(.ref a), (.int xm)] Z h0 (Q6ge3 Z a xm h0 n0) := by
  refine body_of (plainFor_of_name pn_2) ?_
  intro p e s m below meth c s₁ hx dB hret hlk hml hown0 hnm X0 e0 hZ
  have hown : s.vm.findClass cN_2 = some m.cls := hown0
  have N0 := Fr.nil n0
  rw [ef_6ge3]
  show Wk p e below (FN s (Q6ge3 Z a xm h0 n0) 0 0) s₁ (mkF m 0 #[.val (.ref a), .val (.int xm)] [])
  have r_xm := rng32 xm
  refine w_aloadN X0 hx (.ref a) (dB d6_0) 1 rfl rfl rfl ?_
  refine w_getF X0 hx hZ hown e0 (host := "") (Or.inl (tw_36 hw)) Via.refl F_trailSize_a (dB d6_1) 4 rfl (fun T442 X442 e442 => ?_)
  refine w_iloadN X442 hx xm (dB d6_4) 5 rfl rfl ?_
  refine w_icmp_le X442 hx 3 xm.toInt (by decide) rfl (dB d6_5) 33 8 (fun c443 => ?_) (fun c443 => ?_)
  ·refine w_ret0 X442 hx hlk hret (dB d6_33) (by decide) (by decide) ?_
   rw [e442]
   exact ⟨rfl, N0, rfl⟩
  ·exfalso; omega
theorem ef_6t0m0 (m : MethodId) (x0 : Addr) : entryFrame m #[(.ref x0), (.int (0 : Int32))] 2 = mkF m 0 #[.val (.ref x0), .val (.int (0 : Int32))] [] := by first | (simp [entryFrame, mkF, argsToLocals, Value.category]; done) | rfl
def Q6t0m0 (Z : State) (a : Addr) (va : Addr) (ta : Addr) (kv : ClassId) (kt : ClassId) (vv : Addr) (h0 : Heap) (n0 : Nat) (v : Option Value) (h : Heap) (L : List Loc) : Prop := v = none ∧ Fr n0 L ∧ Keep h0 h [a, va] ∧ Fld Z h a cN_2 "values" cN_3 (.ref va) ∧ Fld Z h a cN_2 "trail" "[I" (.ref ta) ∧ Fld Z h a cN_2 "trailSize" "I" (.int (0 : Int32)) ∧ Arv Z h va kv (.object cN_4) (3 : Int32) [.null, .null, .null] .null ∧ Arv Z h ta kt .int (3 : Int32) [(.int (0 : Int32)), (.int (0 : Int32)), (.int (0 : Int32))] (.int (0 : Int32))
set_option maxRecDepth 65536 in
set_option maxHeartbeats 40000000 in
theorem rm6t0m0 (l : Launch) (Z : State) (a0 : Array Value) (hw : ∀ d ∈ tables_1, d.before a0 Z = true) (ws : List Jvm.Cond) (a : Addr) (va : Addr) (ta : Addr) (kv : ClassId) (kt : ClassId) (vv : Addr) (h0 : Heap) (n0 : Nat) (Z0 : n0 ≤ h0.size) (E_a : Exa Z h0 a cN_2) (F_values_a : Fld Z h0 a cN_2 "values" cN_3 (.ref va)) (F_trail_a : Fld Z h0 a cN_2 "trail" "[I" (.ref ta)) (F_trailSize_a : Fld Z h0 a cN_2 "trailSize" "I" (.int (1 : Int32))) (V_va : Arv Z h0 va kv (.object cN_4) (3 : Int32) [(.ref vv), .null, .null] .null) (V_ta : Arv Z h0 ta kt .int (3 : Int32) [(.int (0 : Int32)), (.int (0 : Int32)), (.int (0 : Int32))] (.int (0 : Int32))) (g_a : n0 ≤ a) (g_va : n0 ≤ va) (ne1 : va ≠ ta) (ov : Ovr Z kv "com/example/simpagation/simpagation/Term") :
    CT l mN_6 prog_1_method_7_code 2 none ws ({ frames := 0, cells := 0, slots := 0, locals := 0 } : Room) #[(.ref a), (.int (0 : Int32))] Z h0 (Q6t0m0 Z a va ta kv kt vv h0 n0) := by
  refine body_of (plainFor_of_name pn_2) ?_
  intro p e s m below meth c s₁ hx dB hret hlk hml hown0 hnm X0 e0 hZ
  have hown : s.vm.findClass cN_2 = some m.cls := hown0
  have N0 := Fr.nil n0
  rw [ef_6t0m0]
  show Wk p e below (FN s (Q6t0m0 Z a va ta kv kt vv h0 n0) 0 0) s₁ (mkF m 0 #[.val (.ref a), .val (.int (0 : Int32))] [])
  refine w_aloadN X0 hx (.ref a) (dB d6_0) 1 rfl rfl rfl ?_
  refine w_getF X0 hx hZ hown e0 (host := "") (Or.inl (tw_36 hw)) Via.refl F_trailSize_a (dB d6_1) 4 rfl (fun T444 X444 e444 => ?_)
  refine w_iloadN X444 hx (0 : Int32) (dB d6_4) 5 rfl rfl ?_
  refine w_icmp_le X444 hx 1 0 (by decide) (by decide) (dB d6_5) 33 8 (fun c445 => ?_) (fun c445 => ?_)
  ·exfalso; omega
  ·refine w_aloadN X444 hx (.ref a) (dB d6_8) 9 rfl rfl rfl ?_
   refine w_getF X444 hx hZ hown e444 (host := "") (Or.inl (tw_26 hw)) Via.refl F_values_a (dB d6_9) 12 rfl (fun T446 X446 e446 => ?_)
   refine w_aloadN X446 hx (.ref a) (dB d6_12) 13 rfl rfl rfl ?_
   refine w_getF X446 hx hZ hown e446 (host := "") (Or.inl (tw_29 hw)) Via.refl F_trail_a (dB d6_13) 16 rfl (fun T447 X447 e447 => ?_)
   refine w_aloadN X447 hx (.ref a) (dB d6_16) 17 rfl rfl rfl ?_
   refine w_dup X447 hx (dB d6_17) 18 rfl rfl ?_
   refine w_getF X447 hx hZ hown e447 (host := "") (Or.inl (tw_36 hw)) Via.refl F_trailSize_a (dB d6_18) 21 rfl (fun T448 X448 e448 => ?_)
   refine w_iconst X448 hx (dB d6_21) 22 rfl (1 : Int32) (by decide) ?_
   refine w_isub X448 hx (dB d6_22) 23 rfl (show (0 : Int32) = (1 : Int32) - (1 : Int32) from by decide) ?_
   refine w_dupX1 X448 hx (dB d6_23) 24 rfl rfl rfl ?_
   refine w_putF X448 hx hZ hown e448 (host := "") (Or.inl (tw_36 hw)) Via.refl F_trailSize_a E_a (Or.inl (tw_37 hw)) (tw_18 hw) (ty := .int) (by decide) rfl rfl (dB d6_24) 27 rfl (fun T449 h449 X449 e449 W449 => ?_)
   have F450 : Exa Z h449 a cN_2 := E_a.wr W449
   have F451 : Fld Z h449 a cN_2 "values" cN_3 (.ref va) := F_values_a.other W449 (Or.inr (slot_ne (Or.inr (tw_27 hw)) (Or.inl (tw_37 hw)) (by decide) (t := (.array (.object "com/example/simpagation/simpagation/Term"))) (t' := .int) (by decide) (by decide)))
   have F452 : Fld Z h449 a cN_2 "trail" "[I" (.ref ta) := F_trail_a.other W449 (Or.inr (slot_ne (Or.inr (tw_30 hw)) (Or.inl (tw_37 hw)) (by decide) (t := (.array .int)) (t' := .int) (by decide) (by decide)))
   have F453 : Fld Z h449 a cN_2 "trailSize" "I" (.int (0 : Int32)) := F_trailSize_a.same W449
   have F454 : Arv Z h449 va kv (.object cN_4) (3 : Int32) [(.ref vv), .null, .null] .null := V_va.other W449 (Ne.symm (ne_arv E_a (tw_18 hw) V_va))
   have F455 : Arv Z h449 ta kt .int (3 : Int32) [(.int (0 : Int32)), (.int (0 : Int32)), (.int (0 : Int32))] (.int (0 : Int32)) := V_ta.other W449 (Ne.symm (ne_arv E_a (tw_18 hw) V_ta))
   have Z449 : n0 ≤ h449.size := by rw [W449.size]; exact Z0
   have K449 : Keep h0 h449 [a, va] := (Keep.refl h0 [a, va]).wr W449 (Or.inl (List.mem_of_getElem? (i := 0) rfl))
   have N449 := Fr.snoc X449 N0 g_a
   refine w_iaload X449 hx hZ e449 F455 ⟨by decide, by decide⟩ (v := (.int (0 : Int32))) rfl (dB d6_27) 28 rfl ?_
   refine w_null X449 hx (dB d6_28) 29 rfl ?_
   refine w_aastore X449 hx hZ e449 F454 ⟨by decide, by decide⟩ 0 (by decide) (show 0 < 3 from (by decide)) rfl (Or.inl rfl) (dB d6_29) 30 rfl (fun T456 h456 X456 e456 W456 V456 => ?_)
   have F457 : Exa Z h456 a cN_2 := F450.wr W456
   have F458 : Fld Z h456 a cN_2 "values" cN_3 (.ref va) := F451.other W456 (Or.inl (ne_arv F450 (tw_18 hw) F454))
   have F459 : Fld Z h456 a cN_2 "trail" "[I" (.ref ta) := F452.other W456 (Or.inl (ne_arv F450 (tw_18 hw) F454))
   have F460 : Fld Z h456 a cN_2 "trailSize" "I" (.int (0 : Int32)) := F453.other W456 (Or.inl (ne_arv F450 (tw_18 hw) F454))
   have F461 : Arv Z h456 va kv (.object cN_4) (3 : Int32) [.null, .null, .null] .null := V456
   have F462 : Arv Z h456 ta kt .int (3 : Int32) [(.int (0 : Int32)), (.int (0 : Int32)), (.int (0 : Int32))] (.int (0 : Int32)) := F455.other W456 (Ne.symm ne1)
   have Z456 : n0 ≤ h456.size := by rw [W456.size]; exact Z449
   have K456 : Keep h0 h456 [a, va] := K449.wr W456 (Or.inl (List.mem_of_getElem? (i := 1) rfl))
   have N456 := Fr.snoc X456 N449 g_va
   refine w_goto X456 hx (dB d6_30) 0 ?_
   refine w_aloadN X456 hx (.ref a) (dB d6_0) 1 rfl rfl rfl ?_
   refine w_getF X456 hx hZ hown e456 (host := "") (Or.inl (tw_36 hw)) Via.refl F460 (dB d6_1) 4 rfl (fun T463 X463 e463 => ?_)
   refine w_iloadN X463 hx (0 : Int32) (dB d6_4) 5 rfl rfl ?_
   refine w_icmp_le X463 hx 0 0 (by decide) (by decide) (dB d6_5) 33 8 (fun c464 => ?_) (fun c464 => ?_)
   ·refine w_ret0 X463 hx hlk hret (dB d6_33) (by decide) (by decide) ?_
    rw [e463]
    exact ⟨rfl, N456, K456, F458, F459, F460, F461, F462⟩
   ·exfalso; omega
theorem ef_6t01m0 (m : MethodId) (x0 : Addr) : entryFrame m #[(.ref x0), (.int (0 : Int32))] 2 = mkF m 0 #[.val (.ref x0), .val (.int (0 : Int32))] [] := by first | (simp [entryFrame, mkF, argsToLocals, Value.category]; done) | rfl
def Q6t01m0 (Z : State) (a : Addr) (va : Addr) (ta : Addr) (kv : ClassId) (kt : ClassId) (vv : Addr) (h0 : Heap) (n0 : Nat) (v : Option Value) (h : Heap) (L : List Loc) : Prop := v = none ∧ Fr n0 L ∧ Keep h0 h [a, va] ∧ Fld Z h a cN_2 "values" cN_3 (.ref va) ∧ Fld Z h a cN_2 "trail" "[I" (.ref ta) ∧ Fld Z h a cN_2 "trailSize" "I" (.int (0 : Int32)) ∧ Arv Z h va kv (.object cN_4) (3 : Int32) [.null, .null, .null] .null ∧ Arv Z h ta kt .int (3 : Int32) [(.int (0 : Int32)), (.int (1 : Int32)), (.int (0 : Int32))] (.int (0 : Int32))
set_option maxRecDepth 65536 in
set_option maxHeartbeats 40000000 in
theorem rm6t01m0 (l : Launch) (Z : State) (a0 : Array Value) (hw : ∀ d ∈ tables_1, d.before a0 Z = true) (ws : List Jvm.Cond) (a : Addr) (va : Addr) (ta : Addr) (kv : ClassId) (kt : ClassId) (vv : Addr) (h0 : Heap) (n0 : Nat) (Z0 : n0 ≤ h0.size) (E_a : Exa Z h0 a cN_2) (F_values_a : Fld Z h0 a cN_2 "values" cN_3 (.ref va)) (F_trail_a : Fld Z h0 a cN_2 "trail" "[I" (.ref ta)) (F_trailSize_a : Fld Z h0 a cN_2 "trailSize" "I" (.int (2 : Int32))) (V_va : Arv Z h0 va kv (.object cN_4) (3 : Int32) [(.ref vv), (.ref vv), .null] .null) (V_ta : Arv Z h0 ta kt .int (3 : Int32) [(.int (0 : Int32)), (.int (1 : Int32)), (.int (0 : Int32))] (.int (0 : Int32))) (g_a : n0 ≤ a) (g_va : n0 ≤ va) (ne1 : va ≠ ta) (ov : Ovr Z kv "com/example/simpagation/simpagation/Term") :
    CT l mN_6 prog_1_method_7_code 2 none ws ({ frames := 0, cells := 0, slots := 0, locals := 0 } : Room) #[(.ref a), (.int (0 : Int32))] Z h0 (Q6t01m0 Z a va ta kv kt vv h0 n0) := by
  refine body_of (plainFor_of_name pn_2) ?_
  intro p e s m below meth c s₁ hx dB hret hlk hml hown0 hnm X0 e0 hZ
  have hown : s.vm.findClass cN_2 = some m.cls := hown0
  have N0 := Fr.nil n0
  rw [ef_6t01m0]
  show Wk p e below (FN s (Q6t01m0 Z a va ta kv kt vv h0 n0) 0 0) s₁ (mkF m 0 #[.val (.ref a), .val (.int (0 : Int32))] [])
  refine w_aloadN X0 hx (.ref a) (dB d6_0) 1 rfl rfl rfl ?_
  refine w_getF X0 hx hZ hown e0 (host := "") (Or.inl (tw_36 hw)) Via.refl F_trailSize_a (dB d6_1) 4 rfl (fun T465 X465 e465 => ?_)
  refine w_iloadN X465 hx (0 : Int32) (dB d6_4) 5 rfl rfl ?_
  refine w_icmp_le X465 hx 2 0 (by decide) (by decide) (dB d6_5) 33 8 (fun c466 => ?_) (fun c466 => ?_)
  ·exfalso; omega
  ·refine w_aloadN X465 hx (.ref a) (dB d6_8) 9 rfl rfl rfl ?_
   refine w_getF X465 hx hZ hown e465 (host := "") (Or.inl (tw_26 hw)) Via.refl F_values_a (dB d6_9) 12 rfl (fun T467 X467 e467 => ?_)
   refine w_aloadN X467 hx (.ref a) (dB d6_12) 13 rfl rfl rfl ?_
   refine w_getF X467 hx hZ hown e467 (host := "") (Or.inl (tw_29 hw)) Via.refl F_trail_a (dB d6_13) 16 rfl (fun T468 X468 e468 => ?_)
   refine w_aloadN X468 hx (.ref a) (dB d6_16) 17 rfl rfl rfl ?_
   refine w_dup X468 hx (dB d6_17) 18 rfl rfl ?_
   refine w_getF X468 hx hZ hown e468 (host := "") (Or.inl (tw_36 hw)) Via.refl F_trailSize_a (dB d6_18) 21 rfl (fun T469 X469 e469 => ?_)
   refine w_iconst X469 hx (dB d6_21) 22 rfl (1 : Int32) (by decide) ?_
   refine w_isub X469 hx (dB d6_22) 23 rfl (show (1 : Int32) = (2 : Int32) - (1 : Int32) from by decide) ?_
   refine w_dupX1 X469 hx (dB d6_23) 24 rfl rfl rfl ?_
   refine w_putF X469 hx hZ hown e469 (host := "") (Or.inl (tw_36 hw)) Via.refl F_trailSize_a E_a (Or.inl (tw_37 hw)) (tw_18 hw) (ty := .int) (by decide) rfl rfl (dB d6_24) 27 rfl (fun T470 h470 X470 e470 W470 => ?_)
   have F471 : Exa Z h470 a cN_2 := E_a.wr W470
   have F472 : Fld Z h470 a cN_2 "values" cN_3 (.ref va) := F_values_a.other W470 (Or.inr (slot_ne (Or.inr (tw_27 hw)) (Or.inl (tw_37 hw)) (by decide) (t := (.array (.object "com/example/simpagation/simpagation/Term"))) (t' := .int) (by decide) (by decide)))
   have F473 : Fld Z h470 a cN_2 "trail" "[I" (.ref ta) := F_trail_a.other W470 (Or.inr (slot_ne (Or.inr (tw_30 hw)) (Or.inl (tw_37 hw)) (by decide) (t := (.array .int)) (t' := .int) (by decide) (by decide)))
   have F474 : Fld Z h470 a cN_2 "trailSize" "I" (.int (1 : Int32)) := F_trailSize_a.same W470
   have F475 : Arv Z h470 va kv (.object cN_4) (3 : Int32) [(.ref vv), (.ref vv), .null] .null := V_va.other W470 (Ne.symm (ne_arv E_a (tw_18 hw) V_va))
   have F476 : Arv Z h470 ta kt .int (3 : Int32) [(.int (0 : Int32)), (.int (1 : Int32)), (.int (0 : Int32))] (.int (0 : Int32)) := V_ta.other W470 (Ne.symm (ne_arv E_a (tw_18 hw) V_ta))
   have Z470 : n0 ≤ h470.size := by rw [W470.size]; exact Z0
   have K470 : Keep h0 h470 [a, va] := (Keep.refl h0 [a, va]).wr W470 (Or.inl (List.mem_of_getElem? (i := 0) rfl))
   have N470 := Fr.snoc X470 N0 g_a
   refine w_iaload X470 hx hZ e470 F476 ⟨by decide, by decide⟩ (v := (.int (1 : Int32))) rfl (dB d6_27) 28 rfl ?_
   refine w_null X470 hx (dB d6_28) 29 rfl ?_
   refine w_aastore X470 hx hZ e470 F475 ⟨by decide, by decide⟩ 1 (by decide) (show 1 < 3 from (by decide)) rfl (Or.inl rfl) (dB d6_29) 30 rfl (fun T477 h477 X477 e477 W477 V477 => ?_)
   have F478 : Exa Z h477 a cN_2 := F471.wr W477
   have F479 : Fld Z h477 a cN_2 "values" cN_3 (.ref va) := F472.other W477 (Or.inl (ne_arv F471 (tw_18 hw) F475))
   have F480 : Fld Z h477 a cN_2 "trail" "[I" (.ref ta) := F473.other W477 (Or.inl (ne_arv F471 (tw_18 hw) F475))
   have F481 : Fld Z h477 a cN_2 "trailSize" "I" (.int (1 : Int32)) := F474.other W477 (Or.inl (ne_arv F471 (tw_18 hw) F475))
   have F482 : Arv Z h477 va kv (.object cN_4) (3 : Int32) [(.ref vv), .null, .null] .null := V477
   have F483 : Arv Z h477 ta kt .int (3 : Int32) [(.int (0 : Int32)), (.int (1 : Int32)), (.int (0 : Int32))] (.int (0 : Int32)) := F476.other W477 (Ne.symm ne1)
   have Z477 : n0 ≤ h477.size := by rw [W477.size]; exact Z470
   have K477 : Keep h0 h477 [a, va] := K470.wr W477 (Or.inl (List.mem_of_getElem? (i := 1) rfl))
   have N477 := Fr.snoc X477 N470 g_va
   refine w_goto X477 hx (dB d6_30) 0 ?_
   refine w_aloadN X477 hx (.ref a) (dB d6_0) 1 rfl rfl rfl ?_
   refine w_getF X477 hx hZ hown e477 (host := "") (Or.inl (tw_36 hw)) Via.refl F481 (dB d6_1) 4 rfl (fun T484 X484 e484 => ?_)
   refine w_iloadN X484 hx (0 : Int32) (dB d6_4) 5 rfl rfl ?_
   refine w_icmp_le X484 hx 1 0 (by decide) (by decide) (dB d6_5) 33 8 (fun c485 => ?_) (fun c485 => ?_)
   ·exfalso; omega
   ·refine w_aloadN X484 hx (.ref a) (dB d6_8) 9 rfl rfl rfl ?_
    refine w_getF X484 hx hZ hown e484 (host := "") (Or.inl (tw_26 hw)) Via.refl F479 (dB d6_9) 12 rfl (fun T486 X486 e486 => ?_)
    refine w_aloadN X486 hx (.ref a) (dB d6_12) 13 rfl rfl rfl ?_
    refine w_getF X486 hx hZ hown e486 (host := "") (Or.inl (tw_29 hw)) Via.refl F480 (dB d6_13) 16 rfl (fun T487 X487 e487 => ?_)
    refine w_aloadN X487 hx (.ref a) (dB d6_16) 17 rfl rfl rfl ?_
    refine w_dup X487 hx (dB d6_17) 18 rfl rfl ?_
    refine w_getF X487 hx hZ hown e487 (host := "") (Or.inl (tw_36 hw)) Via.refl F481 (dB d6_18) 21 rfl (fun T488 X488 e488 => ?_)
    refine w_iconst X488 hx (dB d6_21) 22 rfl (1 : Int32) (by decide) ?_
    refine w_isub X488 hx (dB d6_22) 23 rfl (show (0 : Int32) = (1 : Int32) - (1 : Int32) from by decide) ?_
    refine w_dupX1 X488 hx (dB d6_23) 24 rfl rfl rfl ?_
    refine w_putF X488 hx hZ hown e488 (host := "") (Or.inl (tw_36 hw)) Via.refl F481 F478 (Or.inl (tw_37 hw)) (tw_18 hw) (ty := .int) (by decide) rfl rfl (dB d6_24) 27 rfl (fun T489 h489 X489 e489 W489 => ?_)
    have F490 : Exa Z h489 a cN_2 := F478.wr W489
    have F491 : Fld Z h489 a cN_2 "values" cN_3 (.ref va) := F479.other W489 (Or.inr (slot_ne (Or.inr (tw_27 hw)) (Or.inl (tw_37 hw)) (by decide) (t := (.array (.object "com/example/simpagation/simpagation/Term"))) (t' := .int) (by decide) (by decide)))
    have F492 : Fld Z h489 a cN_2 "trail" "[I" (.ref ta) := F480.other W489 (Or.inr (slot_ne (Or.inr (tw_30 hw)) (Or.inl (tw_37 hw)) (by decide) (t := (.array .int)) (t' := .int) (by decide) (by decide)))
    have F493 : Fld Z h489 a cN_2 "trailSize" "I" (.int (0 : Int32)) := F481.same W489
    have F494 : Arv Z h489 va kv (.object cN_4) (3 : Int32) [(.ref vv), .null, .null] .null := F482.other W489 (Ne.symm (ne_arv F478 (tw_18 hw) F482))
    have F495 : Arv Z h489 ta kt .int (3 : Int32) [(.int (0 : Int32)), (.int (1 : Int32)), (.int (0 : Int32))] (.int (0 : Int32)) := F483.other W489 (Ne.symm (ne_arv F478 (tw_18 hw) F483))
    have Z489 : n0 ≤ h489.size := by rw [W489.size]; exact Z477
    have K489 : Keep h0 h489 [a, va] := K477.wr W489 (Or.inl (List.mem_of_getElem? (i := 0) rfl))
    have N489 := Fr.snoc X489 N477 g_a
    refine w_iaload X489 hx hZ e489 F495 ⟨by decide, by decide⟩ (v := (.int (0 : Int32))) rfl (dB d6_27) 28 rfl ?_
    refine w_null X489 hx (dB d6_28) 29 rfl ?_
    refine w_aastore X489 hx hZ e489 F494 ⟨by decide, by decide⟩ 0 (by decide) (show 0 < 3 from (by decide)) rfl (Or.inl rfl) (dB d6_29) 30 rfl (fun T496 h496 X496 e496 W496 V496 => ?_)
    have F497 : Exa Z h496 a cN_2 := F490.wr W496
    have F498 : Fld Z h496 a cN_2 "values" cN_3 (.ref va) := F491.other W496 (Or.inl (ne_arv F490 (tw_18 hw) F494))
    have F499 : Fld Z h496 a cN_2 "trail" "[I" (.ref ta) := F492.other W496 (Or.inl (ne_arv F490 (tw_18 hw) F494))
    have F500 : Fld Z h496 a cN_2 "trailSize" "I" (.int (0 : Int32)) := F493.other W496 (Or.inl (ne_arv F490 (tw_18 hw) F494))
    have F501 : Arv Z h496 va kv (.object cN_4) (3 : Int32) [.null, .null, .null] .null := V496
    have F502 : Arv Z h496 ta kt .int (3 : Int32) [(.int (0 : Int32)), (.int (1 : Int32)), (.int (0 : Int32))] (.int (0 : Int32)) := F495.other W496 (Ne.symm ne1)
    have Z496 : n0 ≤ h496.size := by rw [W496.size]; exact Z489
    have K496 : Keep h0 h496 [a, va] := K489.wr W496 (Or.inl (List.mem_of_getElem? (i := 1) rfl))
    have N496 := Fr.snoc X496 N489 g_va
    refine w_goto X496 hx (dB d6_30) 0 ?_
    refine w_aloadN X496 hx (.ref a) (dB d6_0) 1 rfl rfl rfl ?_
    refine w_getF X496 hx hZ hown e496 (host := "") (Or.inl (tw_36 hw)) Via.refl F500 (dB d6_1) 4 rfl (fun T503 X503 e503 => ?_)
    refine w_iloadN X503 hx (0 : Int32) (dB d6_4) 5 rfl rfl ?_
    refine w_icmp_le X503 hx 0 0 (by decide) (by decide) (dB d6_5) 33 8 (fun c504 => ?_) (fun c504 => ?_)
    ·refine w_ret0 X503 hx hlk hret (dB d6_33) (by decide) (by decide) ?_
     rw [e503]
     exact ⟨rfl, N496, K496, F498, F499, F500, F501, F502⟩
    ·exfalso; omega
theorem ef_6t01m1 (m : MethodId) (x0 : Addr) : entryFrame m #[(.ref x0), (.int (1 : Int32))] 2 = mkF m 0 #[.val (.ref x0), .val (.int (1 : Int32))] [] := by first | (simp [entryFrame, mkF, argsToLocals, Value.category]; done) | rfl
def Q6t01m1 (Z : State) (a : Addr) (va : Addr) (ta : Addr) (kv : ClassId) (kt : ClassId) (vv : Addr) (h0 : Heap) (n0 : Nat) (v : Option Value) (h : Heap) (L : List Loc) : Prop := v = none ∧ Fr n0 L ∧ Keep h0 h [a, va] ∧ Fld Z h a cN_2 "values" cN_3 (.ref va) ∧ Fld Z h a cN_2 "trail" "[I" (.ref ta) ∧ Fld Z h a cN_2 "trailSize" "I" (.int (1 : Int32)) ∧ Arv Z h va kv (.object cN_4) (3 : Int32) [(.ref vv), .null, .null] .null ∧ Arv Z h ta kt .int (3 : Int32) [(.int (0 : Int32)), (.int (1 : Int32)), (.int (0 : Int32))] (.int (0 : Int32))
set_option maxRecDepth 65536 in
set_option maxHeartbeats 40000000 in
theorem rm6t01m1 (l : Launch) (Z : State) (a0 : Array Value) (hw : ∀ d ∈ tables_1, d.before a0 Z = true) (ws : List Jvm.Cond) (a : Addr) (va : Addr) (ta : Addr) (kv : ClassId) (kt : ClassId) (vv : Addr) (h0 : Heap) (n0 : Nat) (Z0 : n0 ≤ h0.size) (E_a : Exa Z h0 a cN_2) (F_values_a : Fld Z h0 a cN_2 "values" cN_3 (.ref va)) (F_trail_a : Fld Z h0 a cN_2 "trail" "[I" (.ref ta)) (F_trailSize_a : Fld Z h0 a cN_2 "trailSize" "I" (.int (2 : Int32))) (V_va : Arv Z h0 va kv (.object cN_4) (3 : Int32) [(.ref vv), (.ref vv), .null] .null) (V_ta : Arv Z h0 ta kt .int (3 : Int32) [(.int (0 : Int32)), (.int (1 : Int32)), (.int (0 : Int32))] (.int (0 : Int32))) (g_a : n0 ≤ a) (g_va : n0 ≤ va) (ne1 : va ≠ ta) (ov : Ovr Z kv "com/example/simpagation/simpagation/Term") :
    CT l mN_6 prog_1_method_7_code 2 none ws ({ frames := 0, cells := 0, slots := 0, locals := 0 } : Room) #[(.ref a), (.int (1 : Int32))] Z h0 (Q6t01m1 Z a va ta kv kt vv h0 n0) := by
  refine body_of (plainFor_of_name pn_2) ?_
  intro p e s m below meth c s₁ hx dB hret hlk hml hown0 hnm X0 e0 hZ
  have hown : s.vm.findClass cN_2 = some m.cls := hown0
  have N0 := Fr.nil n0
  rw [ef_6t01m1]
  show Wk p e below (FN s (Q6t01m1 Z a va ta kv kt vv h0 n0) 0 0) s₁ (mkF m 0 #[.val (.ref a), .val (.int (1 : Int32))] [])
  refine w_aloadN X0 hx (.ref a) (dB d6_0) 1 rfl rfl rfl ?_
  refine w_getF X0 hx hZ hown e0 (host := "") (Or.inl (tw_36 hw)) Via.refl F_trailSize_a (dB d6_1) 4 rfl (fun T505 X505 e505 => ?_)
  refine w_iloadN X505 hx (1 : Int32) (dB d6_4) 5 rfl rfl ?_
  refine w_icmp_le X505 hx 2 1 (by decide) (by decide) (dB d6_5) 33 8 (fun c506 => ?_) (fun c506 => ?_)
  ·exfalso; omega
  ·refine w_aloadN X505 hx (.ref a) (dB d6_8) 9 rfl rfl rfl ?_
   refine w_getF X505 hx hZ hown e505 (host := "") (Or.inl (tw_26 hw)) Via.refl F_values_a (dB d6_9) 12 rfl (fun T507 X507 e507 => ?_)
   refine w_aloadN X507 hx (.ref a) (dB d6_12) 13 rfl rfl rfl ?_
   refine w_getF X507 hx hZ hown e507 (host := "") (Or.inl (tw_29 hw)) Via.refl F_trail_a (dB d6_13) 16 rfl (fun T508 X508 e508 => ?_)
   refine w_aloadN X508 hx (.ref a) (dB d6_16) 17 rfl rfl rfl ?_
   refine w_dup X508 hx (dB d6_17) 18 rfl rfl ?_
   refine w_getF X508 hx hZ hown e508 (host := "") (Or.inl (tw_36 hw)) Via.refl F_trailSize_a (dB d6_18) 21 rfl (fun T509 X509 e509 => ?_)
   refine w_iconst X509 hx (dB d6_21) 22 rfl (1 : Int32) (by decide) ?_
   refine w_isub X509 hx (dB d6_22) 23 rfl (show (1 : Int32) = (2 : Int32) - (1 : Int32) from by decide) ?_
   refine w_dupX1 X509 hx (dB d6_23) 24 rfl rfl rfl ?_
   refine w_putF X509 hx hZ hown e509 (host := "") (Or.inl (tw_36 hw)) Via.refl F_trailSize_a E_a (Or.inl (tw_37 hw)) (tw_18 hw) (ty := .int) (by decide) rfl rfl (dB d6_24) 27 rfl (fun T510 h510 X510 e510 W510 => ?_)
   have F511 : Exa Z h510 a cN_2 := E_a.wr W510
   have F512 : Fld Z h510 a cN_2 "values" cN_3 (.ref va) := F_values_a.other W510 (Or.inr (slot_ne (Or.inr (tw_27 hw)) (Or.inl (tw_37 hw)) (by decide) (t := (.array (.object "com/example/simpagation/simpagation/Term"))) (t' := .int) (by decide) (by decide)))
   have F513 : Fld Z h510 a cN_2 "trail" "[I" (.ref ta) := F_trail_a.other W510 (Or.inr (slot_ne (Or.inr (tw_30 hw)) (Or.inl (tw_37 hw)) (by decide) (t := (.array .int)) (t' := .int) (by decide) (by decide)))
   have F514 : Fld Z h510 a cN_2 "trailSize" "I" (.int (1 : Int32)) := F_trailSize_a.same W510
   have F515 : Arv Z h510 va kv (.object cN_4) (3 : Int32) [(.ref vv), (.ref vv), .null] .null := V_va.other W510 (Ne.symm (ne_arv E_a (tw_18 hw) V_va))
   have F516 : Arv Z h510 ta kt .int (3 : Int32) [(.int (0 : Int32)), (.int (1 : Int32)), (.int (0 : Int32))] (.int (0 : Int32)) := V_ta.other W510 (Ne.symm (ne_arv E_a (tw_18 hw) V_ta))
   have Z510 : n0 ≤ h510.size := by rw [W510.size]; exact Z0
   have K510 : Keep h0 h510 [a, va] := (Keep.refl h0 [a, va]).wr W510 (Or.inl (List.mem_of_getElem? (i := 0) rfl))
   have N510 := Fr.snoc X510 N0 g_a
   refine w_iaload X510 hx hZ e510 F516 ⟨by decide, by decide⟩ (v := (.int (1 : Int32))) rfl (dB d6_27) 28 rfl ?_
   refine w_null X510 hx (dB d6_28) 29 rfl ?_
   refine w_aastore X510 hx hZ e510 F515 ⟨by decide, by decide⟩ 1 (by decide) (show 1 < 3 from (by decide)) rfl (Or.inl rfl) (dB d6_29) 30 rfl (fun T517 h517 X517 e517 W517 V517 => ?_)
   have F518 : Exa Z h517 a cN_2 := F511.wr W517
   have F519 : Fld Z h517 a cN_2 "values" cN_3 (.ref va) := F512.other W517 (Or.inl (ne_arv F511 (tw_18 hw) F515))
   have F520 : Fld Z h517 a cN_2 "trail" "[I" (.ref ta) := F513.other W517 (Or.inl (ne_arv F511 (tw_18 hw) F515))
   have F521 : Fld Z h517 a cN_2 "trailSize" "I" (.int (1 : Int32)) := F514.other W517 (Or.inl (ne_arv F511 (tw_18 hw) F515))
   have F522 : Arv Z h517 va kv (.object cN_4) (3 : Int32) [(.ref vv), .null, .null] .null := V517
   have F523 : Arv Z h517 ta kt .int (3 : Int32) [(.int (0 : Int32)), (.int (1 : Int32)), (.int (0 : Int32))] (.int (0 : Int32)) := F516.other W517 (Ne.symm ne1)
   have Z517 : n0 ≤ h517.size := by rw [W517.size]; exact Z510
   have K517 : Keep h0 h517 [a, va] := K510.wr W517 (Or.inl (List.mem_of_getElem? (i := 1) rfl))
   have N517 := Fr.snoc X517 N510 g_va
   refine w_goto X517 hx (dB d6_30) 0 ?_
   refine w_aloadN X517 hx (.ref a) (dB d6_0) 1 rfl rfl rfl ?_
   refine w_getF X517 hx hZ hown e517 (host := "") (Or.inl (tw_36 hw)) Via.refl F521 (dB d6_1) 4 rfl (fun T524 X524 e524 => ?_)
   refine w_iloadN X524 hx (1 : Int32) (dB d6_4) 5 rfl rfl ?_
   refine w_icmp_le X524 hx 1 1 (by decide) (by decide) (dB d6_5) 33 8 (fun c525 => ?_) (fun c525 => ?_)
   ·refine w_ret0 X524 hx hlk hret (dB d6_33) (by decide) (by decide) ?_
    rw [e524]
    exact ⟨rfl, N517, K517, F519, F520, F521, F522, F523⟩
   ·exfalso; omega
theorem ef_6t012m0 (m : MethodId) (x0 : Addr) : entryFrame m #[(.ref x0), (.int (0 : Int32))] 2 = mkF m 0 #[.val (.ref x0), .val (.int (0 : Int32))] [] := by first | (simp [entryFrame, mkF, argsToLocals, Value.category]; done) | rfl
def Q6t012m0 (Z : State) (a : Addr) (va : Addr) (ta : Addr) (kv : ClassId) (kt : ClassId) (vv : Addr) (h0 : Heap) (n0 : Nat) (v : Option Value) (h : Heap) (L : List Loc) : Prop := v = none ∧ Fr n0 L ∧ Keep h0 h [a, va] ∧ Fld Z h a cN_2 "values" cN_3 (.ref va) ∧ Fld Z h a cN_2 "trail" "[I" (.ref ta) ∧ Fld Z h a cN_2 "trailSize" "I" (.int (0 : Int32)) ∧ Arv Z h va kv (.object cN_4) (3 : Int32) [.null, .null, .null] .null ∧ Arv Z h ta kt .int (3 : Int32) [(.int (0 : Int32)), (.int (1 : Int32)), (.int (2 : Int32))] (.int (0 : Int32))
set_option maxRecDepth 65536 in
set_option maxHeartbeats 40000000 in
theorem rm6t012m0 (l : Launch) (Z : State) (a0 : Array Value) (hw : ∀ d ∈ tables_1, d.before a0 Z = true) (ws : List Jvm.Cond) (a : Addr) (va : Addr) (ta : Addr) (kv : ClassId) (kt : ClassId) (vv : Addr) (h0 : Heap) (n0 : Nat) (Z0 : n0 ≤ h0.size) (E_a : Exa Z h0 a cN_2) (F_values_a : Fld Z h0 a cN_2 "values" cN_3 (.ref va)) (F_trail_a : Fld Z h0 a cN_2 "trail" "[I" (.ref ta)) (F_trailSize_a : Fld Z h0 a cN_2 "trailSize" "I" (.int (3 : Int32))) (V_va : Arv Z h0 va kv (.object cN_4) (3 : Int32) [(.ref vv), (.ref vv), (.ref vv)] .null) (V_ta : Arv Z h0 ta kt .int (3 : Int32) [(.int (0 : Int32)), (.int (1 : Int32)), (.int (2 : Int32))] (.int (0 : Int32))) (g_a : n0 ≤ a) (g_va : n0 ≤ va) (ne1 : va ≠ ta) (ov : Ovr Z kv "com/example/simpagation/simpagation/Term") :
    CT l mN_6 prog_1_method_7_code 2 none ws ({ frames := 0, cells := 0, slots := 0, locals := 0 } : Room) #[(.ref a), (.int (0 : Int32))] Z h0 (Q6t012m0 Z a va ta kv kt vv h0 n0) := by
  refine body_of (plainFor_of_name pn_2) ?_
  intro p e s m below meth c s₁ hx dB hret hlk hml hown0 hnm X0 e0 hZ
  have hown : s.vm.findClass cN_2 = some m.cls := hown0
  have N0 := Fr.nil n0
  rw [ef_6t012m0]
  show Wk p e below (FN s (Q6t012m0 Z a va ta kv kt vv h0 n0) 0 0) s₁ (mkF m 0 #[.val (.ref a), .val (.int (0 : Int32))] [])
  refine w_aloadN X0 hx (.ref a) (dB d6_0) 1 rfl rfl rfl ?_
  refine w_getF X0 hx hZ hown e0 (host := "") (Or.inl (tw_36 hw)) Via.refl F_trailSize_a (dB d6_1) 4 rfl (fun T526 X526 e526 => ?_)
  refine w_iloadN X526 hx (0 : Int32) (dB d6_4) 5 rfl rfl ?_
  refine w_icmp_le X526 hx 3 0 (by decide) (by decide) (dB d6_5) 33 8 (fun c527 => ?_) (fun c527 => ?_)
  ·exfalso; omega
  ·refine w_aloadN X526 hx (.ref a) (dB d6_8) 9 rfl rfl rfl ?_
   refine w_getF X526 hx hZ hown e526 (host := "") (Or.inl (tw_26 hw)) Via.refl F_values_a (dB d6_9) 12 rfl (fun T528 X528 e528 => ?_)
   refine w_aloadN X528 hx (.ref a) (dB d6_12) 13 rfl rfl rfl ?_
   refine w_getF X528 hx hZ hown e528 (host := "") (Or.inl (tw_29 hw)) Via.refl F_trail_a (dB d6_13) 16 rfl (fun T529 X529 e529 => ?_)
   refine w_aloadN X529 hx (.ref a) (dB d6_16) 17 rfl rfl rfl ?_
   refine w_dup X529 hx (dB d6_17) 18 rfl rfl ?_
   refine w_getF X529 hx hZ hown e529 (host := "") (Or.inl (tw_36 hw)) Via.refl F_trailSize_a (dB d6_18) 21 rfl (fun T530 X530 e530 => ?_)
   refine w_iconst X530 hx (dB d6_21) 22 rfl (1 : Int32) (by decide) ?_
   refine w_isub X530 hx (dB d6_22) 23 rfl (show (2 : Int32) = (3 : Int32) - (1 : Int32) from by decide) ?_
   refine w_dupX1 X530 hx (dB d6_23) 24 rfl rfl rfl ?_
   refine w_putF X530 hx hZ hown e530 (host := "") (Or.inl (tw_36 hw)) Via.refl F_trailSize_a E_a (Or.inl (tw_37 hw)) (tw_18 hw) (ty := .int) (by decide) rfl rfl (dB d6_24) 27 rfl (fun T531 h531 X531 e531 W531 => ?_)
   have F532 : Exa Z h531 a cN_2 := E_a.wr W531
   have F533 : Fld Z h531 a cN_2 "values" cN_3 (.ref va) := F_values_a.other W531 (Or.inr (slot_ne (Or.inr (tw_27 hw)) (Or.inl (tw_37 hw)) (by decide) (t := (.array (.object "com/example/simpagation/simpagation/Term"))) (t' := .int) (by decide) (by decide)))
   have F534 : Fld Z h531 a cN_2 "trail" "[I" (.ref ta) := F_trail_a.other W531 (Or.inr (slot_ne (Or.inr (tw_30 hw)) (Or.inl (tw_37 hw)) (by decide) (t := (.array .int)) (t' := .int) (by decide) (by decide)))
   have F535 : Fld Z h531 a cN_2 "trailSize" "I" (.int (2 : Int32)) := F_trailSize_a.same W531
   have F536 : Arv Z h531 va kv (.object cN_4) (3 : Int32) [(.ref vv), (.ref vv), (.ref vv)] .null := V_va.other W531 (Ne.symm (ne_arv E_a (tw_18 hw) V_va))
   have F537 : Arv Z h531 ta kt .int (3 : Int32) [(.int (0 : Int32)), (.int (1 : Int32)), (.int (2 : Int32))] (.int (0 : Int32)) := V_ta.other W531 (Ne.symm (ne_arv E_a (tw_18 hw) V_ta))
   have Z531 : n0 ≤ h531.size := by rw [W531.size]; exact Z0
   have K531 : Keep h0 h531 [a, va] := (Keep.refl h0 [a, va]).wr W531 (Or.inl (List.mem_of_getElem? (i := 0) rfl))
   have N531 := Fr.snoc X531 N0 g_a
   refine w_iaload X531 hx hZ e531 F537 ⟨by decide, by decide⟩ (v := (.int (2 : Int32))) rfl (dB d6_27) 28 rfl ?_
   refine w_null X531 hx (dB d6_28) 29 rfl ?_
   refine w_aastore X531 hx hZ e531 F536 ⟨by decide, by decide⟩ 2 (by decide) (show 2 < 3 from (by decide)) rfl (Or.inl rfl) (dB d6_29) 30 rfl (fun T538 h538 X538 e538 W538 V538 => ?_)
   have F539 : Exa Z h538 a cN_2 := F532.wr W538
   have F540 : Fld Z h538 a cN_2 "values" cN_3 (.ref va) := F533.other W538 (Or.inl (ne_arv F532 (tw_18 hw) F536))
   have F541 : Fld Z h538 a cN_2 "trail" "[I" (.ref ta) := F534.other W538 (Or.inl (ne_arv F532 (tw_18 hw) F536))
   have F542 : Fld Z h538 a cN_2 "trailSize" "I" (.int (2 : Int32)) := F535.other W538 (Or.inl (ne_arv F532 (tw_18 hw) F536))
   have F543 : Arv Z h538 va kv (.object cN_4) (3 : Int32) [(.ref vv), (.ref vv), .null] .null := V538
   have F544 : Arv Z h538 ta kt .int (3 : Int32) [(.int (0 : Int32)), (.int (1 : Int32)), (.int (2 : Int32))] (.int (0 : Int32)) := F537.other W538 (Ne.symm ne1)
   have Z538 : n0 ≤ h538.size := by rw [W538.size]; exact Z531
   have K538 : Keep h0 h538 [a, va] := K531.wr W538 (Or.inl (List.mem_of_getElem? (i := 1) rfl))
   have N538 := Fr.snoc X538 N531 g_va
   refine w_goto X538 hx (dB d6_30) 0 ?_
   refine w_aloadN X538 hx (.ref a) (dB d6_0) 1 rfl rfl rfl ?_
   refine w_getF X538 hx hZ hown e538 (host := "") (Or.inl (tw_36 hw)) Via.refl F542 (dB d6_1) 4 rfl (fun T545 X545 e545 => ?_)
   refine w_iloadN X545 hx (0 : Int32) (dB d6_4) 5 rfl rfl ?_
   refine w_icmp_le X545 hx 2 0 (by decide) (by decide) (dB d6_5) 33 8 (fun c546 => ?_) (fun c546 => ?_)
   ·exfalso; omega
   ·refine w_aloadN X545 hx (.ref a) (dB d6_8) 9 rfl rfl rfl ?_
    refine w_getF X545 hx hZ hown e545 (host := "") (Or.inl (tw_26 hw)) Via.refl F540 (dB d6_9) 12 rfl (fun T547 X547 e547 => ?_)
    refine w_aloadN X547 hx (.ref a) (dB d6_12) 13 rfl rfl rfl ?_
    refine w_getF X547 hx hZ hown e547 (host := "") (Or.inl (tw_29 hw)) Via.refl F541 (dB d6_13) 16 rfl (fun T548 X548 e548 => ?_)
    refine w_aloadN X548 hx (.ref a) (dB d6_16) 17 rfl rfl rfl ?_
    refine w_dup X548 hx (dB d6_17) 18 rfl rfl ?_
    refine w_getF X548 hx hZ hown e548 (host := "") (Or.inl (tw_36 hw)) Via.refl F542 (dB d6_18) 21 rfl (fun T549 X549 e549 => ?_)
    refine w_iconst X549 hx (dB d6_21) 22 rfl (1 : Int32) (by decide) ?_
    refine w_isub X549 hx (dB d6_22) 23 rfl (show (1 : Int32) = (2 : Int32) - (1 : Int32) from by decide) ?_
    refine w_dupX1 X549 hx (dB d6_23) 24 rfl rfl rfl ?_
    refine w_putF X549 hx hZ hown e549 (host := "") (Or.inl (tw_36 hw)) Via.refl F542 F539 (Or.inl (tw_37 hw)) (tw_18 hw) (ty := .int) (by decide) rfl rfl (dB d6_24) 27 rfl (fun T550 h550 X550 e550 W550 => ?_)
    have F551 : Exa Z h550 a cN_2 := F539.wr W550
    have F552 : Fld Z h550 a cN_2 "values" cN_3 (.ref va) := F540.other W550 (Or.inr (slot_ne (Or.inr (tw_27 hw)) (Or.inl (tw_37 hw)) (by decide) (t := (.array (.object "com/example/simpagation/simpagation/Term"))) (t' := .int) (by decide) (by decide)))
    have F553 : Fld Z h550 a cN_2 "trail" "[I" (.ref ta) := F541.other W550 (Or.inr (slot_ne (Or.inr (tw_30 hw)) (Or.inl (tw_37 hw)) (by decide) (t := (.array .int)) (t' := .int) (by decide) (by decide)))
    have F554 : Fld Z h550 a cN_2 "trailSize" "I" (.int (1 : Int32)) := F542.same W550
    have F555 : Arv Z h550 va kv (.object cN_4) (3 : Int32) [(.ref vv), (.ref vv), .null] .null := F543.other W550 (Ne.symm (ne_arv F539 (tw_18 hw) F543))
    have F556 : Arv Z h550 ta kt .int (3 : Int32) [(.int (0 : Int32)), (.int (1 : Int32)), (.int (2 : Int32))] (.int (0 : Int32)) := F544.other W550 (Ne.symm (ne_arv F539 (tw_18 hw) F544))
    have Z550 : n0 ≤ h550.size := by rw [W550.size]; exact Z538
    have K550 : Keep h0 h550 [a, va] := K538.wr W550 (Or.inl (List.mem_of_getElem? (i := 0) rfl))
    have N550 := Fr.snoc X550 N538 g_a
    refine w_iaload X550 hx hZ e550 F556 ⟨by decide, by decide⟩ (v := (.int (1 : Int32))) rfl (dB d6_27) 28 rfl ?_
    refine w_null X550 hx (dB d6_28) 29 rfl ?_
    refine w_aastore X550 hx hZ e550 F555 ⟨by decide, by decide⟩ 1 (by decide) (show 1 < 3 from (by decide)) rfl (Or.inl rfl) (dB d6_29) 30 rfl (fun T557 h557 X557 e557 W557 V557 => ?_)
    have F558 : Exa Z h557 a cN_2 := F551.wr W557
    have F559 : Fld Z h557 a cN_2 "values" cN_3 (.ref va) := F552.other W557 (Or.inl (ne_arv F551 (tw_18 hw) F555))
    have F560 : Fld Z h557 a cN_2 "trail" "[I" (.ref ta) := F553.other W557 (Or.inl (ne_arv F551 (tw_18 hw) F555))
    have F561 : Fld Z h557 a cN_2 "trailSize" "I" (.int (1 : Int32)) := F554.other W557 (Or.inl (ne_arv F551 (tw_18 hw) F555))
    have F562 : Arv Z h557 va kv (.object cN_4) (3 : Int32) [(.ref vv), .null, .null] .null := V557
    have F563 : Arv Z h557 ta kt .int (3 : Int32) [(.int (0 : Int32)), (.int (1 : Int32)), (.int (2 : Int32))] (.int (0 : Int32)) := F556.other W557 (Ne.symm ne1)
    have Z557 : n0 ≤ h557.size := by rw [W557.size]; exact Z550
    have K557 : Keep h0 h557 [a, va] := K550.wr W557 (Or.inl (List.mem_of_getElem? (i := 1) rfl))
    have N557 := Fr.snoc X557 N550 g_va
    refine w_goto X557 hx (dB d6_30) 0 ?_
    refine w_aloadN X557 hx (.ref a) (dB d6_0) 1 rfl rfl rfl ?_
    refine w_getF X557 hx hZ hown e557 (host := "") (Or.inl (tw_36 hw)) Via.refl F561 (dB d6_1) 4 rfl (fun T564 X564 e564 => ?_)
    refine w_iloadN X564 hx (0 : Int32) (dB d6_4) 5 rfl rfl ?_
    refine w_icmp_le X564 hx 1 0 (by decide) (by decide) (dB d6_5) 33 8 (fun c565 => ?_) (fun c565 => ?_)
    ·exfalso; omega
    ·refine w_aloadN X564 hx (.ref a) (dB d6_8) 9 rfl rfl rfl ?_
     refine w_getF X564 hx hZ hown e564 (host := "") (Or.inl (tw_26 hw)) Via.refl F559 (dB d6_9) 12 rfl (fun T566 X566 e566 => ?_)
     refine w_aloadN X566 hx (.ref a) (dB d6_12) 13 rfl rfl rfl ?_
     refine w_getF X566 hx hZ hown e566 (host := "") (Or.inl (tw_29 hw)) Via.refl F560 (dB d6_13) 16 rfl (fun T567 X567 e567 => ?_)
     refine w_aloadN X567 hx (.ref a) (dB d6_16) 17 rfl rfl rfl ?_
     refine w_dup X567 hx (dB d6_17) 18 rfl rfl ?_
     refine w_getF X567 hx hZ hown e567 (host := "") (Or.inl (tw_36 hw)) Via.refl F561 (dB d6_18) 21 rfl (fun T568 X568 e568 => ?_)
     refine w_iconst X568 hx (dB d6_21) 22 rfl (1 : Int32) (by decide) ?_
     refine w_isub X568 hx (dB d6_22) 23 rfl (show (0 : Int32) = (1 : Int32) - (1 : Int32) from by decide) ?_
     refine w_dupX1 X568 hx (dB d6_23) 24 rfl rfl rfl ?_
     refine w_putF X568 hx hZ hown e568 (host := "") (Or.inl (tw_36 hw)) Via.refl F561 F558 (Or.inl (tw_37 hw)) (tw_18 hw) (ty := .int) (by decide) rfl rfl (dB d6_24) 27 rfl (fun T569 h569 X569 e569 W569 => ?_)
     have F570 : Exa Z h569 a cN_2 := F558.wr W569
     have F571 : Fld Z h569 a cN_2 "values" cN_3 (.ref va) := F559.other W569 (Or.inr (slot_ne (Or.inr (tw_27 hw)) (Or.inl (tw_37 hw)) (by decide) (t := (.array (.object "com/example/simpagation/simpagation/Term"))) (t' := .int) (by decide) (by decide)))
     have F572 : Fld Z h569 a cN_2 "trail" "[I" (.ref ta) := F560.other W569 (Or.inr (slot_ne (Or.inr (tw_30 hw)) (Or.inl (tw_37 hw)) (by decide) (t := (.array .int)) (t' := .int) (by decide) (by decide)))
     have F573 : Fld Z h569 a cN_2 "trailSize" "I" (.int (0 : Int32)) := F561.same W569
     have F574 : Arv Z h569 va kv (.object cN_4) (3 : Int32) [(.ref vv), .null, .null] .null := F562.other W569 (Ne.symm (ne_arv F558 (tw_18 hw) F562))
     have F575 : Arv Z h569 ta kt .int (3 : Int32) [(.int (0 : Int32)), (.int (1 : Int32)), (.int (2 : Int32))] (.int (0 : Int32)) := F563.other W569 (Ne.symm (ne_arv F558 (tw_18 hw) F563))
     have Z569 : n0 ≤ h569.size := by rw [W569.size]; exact Z557
     have K569 : Keep h0 h569 [a, va] := K557.wr W569 (Or.inl (List.mem_of_getElem? (i := 0) rfl))
     have N569 := Fr.snoc X569 N557 g_a
     refine w_iaload X569 hx hZ e569 F575 ⟨by decide, by decide⟩ (v := (.int (0 : Int32))) rfl (dB d6_27) 28 rfl ?_
     refine w_null X569 hx (dB d6_28) 29 rfl ?_
     refine w_aastore X569 hx hZ e569 F574 ⟨by decide, by decide⟩ 0 (by decide) (show 0 < 3 from (by decide)) rfl (Or.inl rfl) (dB d6_29) 30 rfl (fun T576 h576 X576 e576 W576 V576 => ?_)
     have F577 : Exa Z h576 a cN_2 := F570.wr W576
     have F578 : Fld Z h576 a cN_2 "values" cN_3 (.ref va) := F571.other W576 (Or.inl (ne_arv F570 (tw_18 hw) F574))
     have F579 : Fld Z h576 a cN_2 "trail" "[I" (.ref ta) := F572.other W576 (Or.inl (ne_arv F570 (tw_18 hw) F574))
     have F580 : Fld Z h576 a cN_2 "trailSize" "I" (.int (0 : Int32)) := F573.other W576 (Or.inl (ne_arv F570 (tw_18 hw) F574))
     have F581 : Arv Z h576 va kv (.object cN_4) (3 : Int32) [.null, .null, .null] .null := V576
     have F582 : Arv Z h576 ta kt .int (3 : Int32) [(.int (0 : Int32)), (.int (1 : Int32)), (.int (2 : Int32))] (.int (0 : Int32)) := F575.other W576 (Ne.symm ne1)
     have Z576 : n0 ≤ h576.size := by rw [W576.size]; exact Z569
     have K576 : Keep h0 h576 [a, va] := K569.wr W576 (Or.inl (List.mem_of_getElem? (i := 1) rfl))
     have N576 := Fr.snoc X576 N569 g_va
     refine w_goto X576 hx (dB d6_30) 0 ?_
     refine w_aloadN X576 hx (.ref a) (dB d6_0) 1 rfl rfl rfl ?_
     refine w_getF X576 hx hZ hown e576 (host := "") (Or.inl (tw_36 hw)) Via.refl F580 (dB d6_1) 4 rfl (fun T583 X583 e583 => ?_)
     refine w_iloadN X583 hx (0 : Int32) (dB d6_4) 5 rfl rfl ?_
     refine w_icmp_le X583 hx 0 0 (by decide) (by decide) (dB d6_5) 33 8 (fun c584 => ?_) (fun c584 => ?_)
     ·refine w_ret0 X583 hx hlk hret (dB d6_33) (by decide) (by decide) ?_
      rw [e583]
      exact ⟨rfl, N576, K576, F578, F579, F580, F581, F582⟩
     ·exfalso; omega
theorem ef_6t012m1 (m : MethodId) (x0 : Addr) : entryFrame m #[(.ref x0), (.int (1 : Int32))] 2 = mkF m 0 #[.val (.ref x0), .val (.int (1 : Int32))] [] := by first | (simp [entryFrame, mkF, argsToLocals, Value.category]; done) | rfl
def Q6t012m1 (Z : State) (a : Addr) (va : Addr) (ta : Addr) (kv : ClassId) (kt : ClassId) (vv : Addr) (h0 : Heap) (n0 : Nat) (v : Option Value) (h : Heap) (L : List Loc) : Prop := v = none ∧ Fr n0 L ∧ Keep h0 h [a, va] ∧ Fld Z h a cN_2 "values" cN_3 (.ref va) ∧ Fld Z h a cN_2 "trail" "[I" (.ref ta) ∧ Fld Z h a cN_2 "trailSize" "I" (.int (1 : Int32)) ∧ Arv Z h va kv (.object cN_4) (3 : Int32) [(.ref vv), .null, .null] .null ∧ Arv Z h ta kt .int (3 : Int32) [(.int (0 : Int32)), (.int (1 : Int32)), (.int (2 : Int32))] (.int (0 : Int32))
set_option maxRecDepth 65536 in
set_option maxHeartbeats 40000000 in
theorem rm6t012m1 (l : Launch) (Z : State) (a0 : Array Value) (hw : ∀ d ∈ tables_1, d.before a0 Z = true) (ws : List Jvm.Cond) (a : Addr) (va : Addr) (ta : Addr) (kv : ClassId) (kt : ClassId) (vv : Addr) (h0 : Heap) (n0 : Nat) (Z0 : n0 ≤ h0.size) (E_a : Exa Z h0 a cN_2) (F_values_a : Fld Z h0 a cN_2 "values" cN_3 (.ref va)) (F_trail_a : Fld Z h0 a cN_2 "trail" "[I" (.ref ta)) (F_trailSize_a : Fld Z h0 a cN_2 "trailSize" "I" (.int (3 : Int32))) (V_va : Arv Z h0 va kv (.object cN_4) (3 : Int32) [(.ref vv), (.ref vv), (.ref vv)] .null) (V_ta : Arv Z h0 ta kt .int (3 : Int32) [(.int (0 : Int32)), (.int (1 : Int32)), (.int (2 : Int32))] (.int (0 : Int32))) (g_a : n0 ≤ a) (g_va : n0 ≤ va) (ne1 : va ≠ ta) (ov : Ovr Z kv "com/example/simpagation/simpagation/Term") :
    CT l mN_6 prog_1_method_7_code 2 none ws ({ frames := 0, cells := 0, slots := 0, locals := 0 } : Room) #[(.ref a), (.int (1 : Int32))] Z h0 (Q6t012m1 Z a va ta kv kt vv h0 n0) := by
  refine body_of (plainFor_of_name pn_2) ?_
  intro p e s m below meth c s₁ hx dB hret hlk hml hown0 hnm X0 e0 hZ
  have hown : s.vm.findClass cN_2 = some m.cls := hown0
  have N0 := Fr.nil n0
  rw [ef_6t012m1]
  show Wk p e below (FN s (Q6t012m1 Z a va ta kv kt vv h0 n0) 0 0) s₁ (mkF m 0 #[.val (.ref a), .val (.int (1 : Int32))] [])
  refine w_aloadN X0 hx (.ref a) (dB d6_0) 1 rfl rfl rfl ?_
  refine w_getF X0 hx hZ hown e0 (host := "") (Or.inl (tw_36 hw)) Via.refl F_trailSize_a (dB d6_1) 4 rfl (fun T585 X585 e585 => ?_)
  refine w_iloadN X585 hx (1 : Int32) (dB d6_4) 5 rfl rfl ?_
  refine w_icmp_le X585 hx 3 1 (by decide) (by decide) (dB d6_5) 33 8 (fun c586 => ?_) (fun c586 => ?_)
  ·exfalso; omega
  ·refine w_aloadN X585 hx (.ref a) (dB d6_8) 9 rfl rfl rfl ?_
   refine w_getF X585 hx hZ hown e585 (host := "") (Or.inl (tw_26 hw)) Via.refl F_values_a (dB d6_9) 12 rfl (fun T587 X587 e587 => ?_)
   refine w_aloadN X587 hx (.ref a) (dB d6_12) 13 rfl rfl rfl ?_
   refine w_getF X587 hx hZ hown e587 (host := "") (Or.inl (tw_29 hw)) Via.refl F_trail_a (dB d6_13) 16 rfl (fun T588 X588 e588 => ?_)
   refine w_aloadN X588 hx (.ref a) (dB d6_16) 17 rfl rfl rfl ?_
   refine w_dup X588 hx (dB d6_17) 18 rfl rfl ?_
   refine w_getF X588 hx hZ hown e588 (host := "") (Or.inl (tw_36 hw)) Via.refl F_trailSize_a (dB d6_18) 21 rfl (fun T589 X589 e589 => ?_)
   refine w_iconst X589 hx (dB d6_21) 22 rfl (1 : Int32) (by decide) ?_
   refine w_isub X589 hx (dB d6_22) 23 rfl (show (2 : Int32) = (3 : Int32) - (1 : Int32) from by decide) ?_
   refine w_dupX1 X589 hx (dB d6_23) 24 rfl rfl rfl ?_
   refine w_putF X589 hx hZ hown e589 (host := "") (Or.inl (tw_36 hw)) Via.refl F_trailSize_a E_a (Or.inl (tw_37 hw)) (tw_18 hw) (ty := .int) (by decide) rfl rfl (dB d6_24) 27 rfl (fun T590 h590 X590 e590 W590 => ?_)
   have F591 : Exa Z h590 a cN_2 := E_a.wr W590
   have F592 : Fld Z h590 a cN_2 "values" cN_3 (.ref va) := F_values_a.other W590 (Or.inr (slot_ne (Or.inr (tw_27 hw)) (Or.inl (tw_37 hw)) (by decide) (t := (.array (.object "com/example/simpagation/simpagation/Term"))) (t' := .int) (by decide) (by decide)))
   have F593 : Fld Z h590 a cN_2 "trail" "[I" (.ref ta) := F_trail_a.other W590 (Or.inr (slot_ne (Or.inr (tw_30 hw)) (Or.inl (tw_37 hw)) (by decide) (t := (.array .int)) (t' := .int) (by decide) (by decide)))
   have F594 : Fld Z h590 a cN_2 "trailSize" "I" (.int (2 : Int32)) := F_trailSize_a.same W590
   have F595 : Arv Z h590 va kv (.object cN_4) (3 : Int32) [(.ref vv), (.ref vv), (.ref vv)] .null := V_va.other W590 (Ne.symm (ne_arv E_a (tw_18 hw) V_va))
   have F596 : Arv Z h590 ta kt .int (3 : Int32) [(.int (0 : Int32)), (.int (1 : Int32)), (.int (2 : Int32))] (.int (0 : Int32)) := V_ta.other W590 (Ne.symm (ne_arv E_a (tw_18 hw) V_ta))
   have Z590 : n0 ≤ h590.size := by rw [W590.size]; exact Z0
   have K590 : Keep h0 h590 [a, va] := (Keep.refl h0 [a, va]).wr W590 (Or.inl (List.mem_of_getElem? (i := 0) rfl))
   have N590 := Fr.snoc X590 N0 g_a
   refine w_iaload X590 hx hZ e590 F596 ⟨by decide, by decide⟩ (v := (.int (2 : Int32))) rfl (dB d6_27) 28 rfl ?_
   refine w_null X590 hx (dB d6_28) 29 rfl ?_
   refine w_aastore X590 hx hZ e590 F595 ⟨by decide, by decide⟩ 2 (by decide) (show 2 < 3 from (by decide)) rfl (Or.inl rfl) (dB d6_29) 30 rfl (fun T597 h597 X597 e597 W597 V597 => ?_)
   have F598 : Exa Z h597 a cN_2 := F591.wr W597
   have F599 : Fld Z h597 a cN_2 "values" cN_3 (.ref va) := F592.other W597 (Or.inl (ne_arv F591 (tw_18 hw) F595))
   have F600 : Fld Z h597 a cN_2 "trail" "[I" (.ref ta) := F593.other W597 (Or.inl (ne_arv F591 (tw_18 hw) F595))
   have F601 : Fld Z h597 a cN_2 "trailSize" "I" (.int (2 : Int32)) := F594.other W597 (Or.inl (ne_arv F591 (tw_18 hw) F595))
   have F602 : Arv Z h597 va kv (.object cN_4) (3 : Int32) [(.ref vv), (.ref vv), .null] .null := V597
   have F603 : Arv Z h597 ta kt .int (3 : Int32) [(.int (0 : Int32)), (.int (1 : Int32)), (.int (2 : Int32))] (.int (0 : Int32)) := F596.other W597 (Ne.symm ne1)
   have Z597 : n0 ≤ h597.size := by rw [W597.size]; exact Z590
   have K597 : Keep h0 h597 [a, va] := K590.wr W597 (Or.inl (List.mem_of_getElem? (i := 1) rfl))
   have N597 := Fr.snoc X597 N590 g_va
   refine w_goto X597 hx (dB d6_30) 0 ?_
   refine w_aloadN X597 hx (.ref a) (dB d6_0) 1 rfl rfl rfl ?_
   refine w_getF X597 hx hZ hown e597 (host := "") (Or.inl (tw_36 hw)) Via.refl F601 (dB d6_1) 4 rfl (fun T604 X604 e604 => ?_)
   refine w_iloadN X604 hx (1 : Int32) (dB d6_4) 5 rfl rfl ?_
   refine w_icmp_le X604 hx 2 1 (by decide) (by decide) (dB d6_5) 33 8 (fun c605 => ?_) (fun c605 => ?_)
   ·exfalso; omega
   ·refine w_aloadN X604 hx (.ref a) (dB d6_8) 9 rfl rfl rfl ?_
    refine w_getF X604 hx hZ hown e604 (host := "") (Or.inl (tw_26 hw)) Via.refl F599 (dB d6_9) 12 rfl (fun T606 X606 e606 => ?_)
    refine w_aloadN X606 hx (.ref a) (dB d6_12) 13 rfl rfl rfl ?_
    refine w_getF X606 hx hZ hown e606 (host := "") (Or.inl (tw_29 hw)) Via.refl F600 (dB d6_13) 16 rfl (fun T607 X607 e607 => ?_)
    refine w_aloadN X607 hx (.ref a) (dB d6_16) 17 rfl rfl rfl ?_
    refine w_dup X607 hx (dB d6_17) 18 rfl rfl ?_
    refine w_getF X607 hx hZ hown e607 (host := "") (Or.inl (tw_36 hw)) Via.refl F601 (dB d6_18) 21 rfl (fun T608 X608 e608 => ?_)
    refine w_iconst X608 hx (dB d6_21) 22 rfl (1 : Int32) (by decide) ?_
    refine w_isub X608 hx (dB d6_22) 23 rfl (show (1 : Int32) = (2 : Int32) - (1 : Int32) from by decide) ?_
    refine w_dupX1 X608 hx (dB d6_23) 24 rfl rfl rfl ?_
    refine w_putF X608 hx hZ hown e608 (host := "") (Or.inl (tw_36 hw)) Via.refl F601 F598 (Or.inl (tw_37 hw)) (tw_18 hw) (ty := .int) (by decide) rfl rfl (dB d6_24) 27 rfl (fun T609 h609 X609 e609 W609 => ?_)
    have F610 : Exa Z h609 a cN_2 := F598.wr W609
    have F611 : Fld Z h609 a cN_2 "values" cN_3 (.ref va) := F599.other W609 (Or.inr (slot_ne (Or.inr (tw_27 hw)) (Or.inl (tw_37 hw)) (by decide) (t := (.array (.object "com/example/simpagation/simpagation/Term"))) (t' := .int) (by decide) (by decide)))
    have F612 : Fld Z h609 a cN_2 "trail" "[I" (.ref ta) := F600.other W609 (Or.inr (slot_ne (Or.inr (tw_30 hw)) (Or.inl (tw_37 hw)) (by decide) (t := (.array .int)) (t' := .int) (by decide) (by decide)))
    have F613 : Fld Z h609 a cN_2 "trailSize" "I" (.int (1 : Int32)) := F601.same W609
    have F614 : Arv Z h609 va kv (.object cN_4) (3 : Int32) [(.ref vv), (.ref vv), .null] .null := F602.other W609 (Ne.symm (ne_arv F598 (tw_18 hw) F602))
    have F615 : Arv Z h609 ta kt .int (3 : Int32) [(.int (0 : Int32)), (.int (1 : Int32)), (.int (2 : Int32))] (.int (0 : Int32)) := F603.other W609 (Ne.symm (ne_arv F598 (tw_18 hw) F603))
    have Z609 : n0 ≤ h609.size := by rw [W609.size]; exact Z597
    have K609 : Keep h0 h609 [a, va] := K597.wr W609 (Or.inl (List.mem_of_getElem? (i := 0) rfl))
    have N609 := Fr.snoc X609 N597 g_a
    refine w_iaload X609 hx hZ e609 F615 ⟨by decide, by decide⟩ (v := (.int (1 : Int32))) rfl (dB d6_27) 28 rfl ?_
    refine w_null X609 hx (dB d6_28) 29 rfl ?_
    refine w_aastore X609 hx hZ e609 F614 ⟨by decide, by decide⟩ 1 (by decide) (show 1 < 3 from (by decide)) rfl (Or.inl rfl) (dB d6_29) 30 rfl (fun T616 h616 X616 e616 W616 V616 => ?_)
    have F617 : Exa Z h616 a cN_2 := F610.wr W616
    have F618 : Fld Z h616 a cN_2 "values" cN_3 (.ref va) := F611.other W616 (Or.inl (ne_arv F610 (tw_18 hw) F614))
    have F619 : Fld Z h616 a cN_2 "trail" "[I" (.ref ta) := F612.other W616 (Or.inl (ne_arv F610 (tw_18 hw) F614))
    have F620 : Fld Z h616 a cN_2 "trailSize" "I" (.int (1 : Int32)) := F613.other W616 (Or.inl (ne_arv F610 (tw_18 hw) F614))
    have F621 : Arv Z h616 va kv (.object cN_4) (3 : Int32) [(.ref vv), .null, .null] .null := V616
    have F622 : Arv Z h616 ta kt .int (3 : Int32) [(.int (0 : Int32)), (.int (1 : Int32)), (.int (2 : Int32))] (.int (0 : Int32)) := F615.other W616 (Ne.symm ne1)
    have Z616 : n0 ≤ h616.size := by rw [W616.size]; exact Z609
    have K616 : Keep h0 h616 [a, va] := K609.wr W616 (Or.inl (List.mem_of_getElem? (i := 1) rfl))
    have N616 := Fr.snoc X616 N609 g_va
    refine w_goto X616 hx (dB d6_30) 0 ?_
    refine w_aloadN X616 hx (.ref a) (dB d6_0) 1 rfl rfl rfl ?_
    refine w_getF X616 hx hZ hown e616 (host := "") (Or.inl (tw_36 hw)) Via.refl F620 (dB d6_1) 4 rfl (fun T623 X623 e623 => ?_)
    refine w_iloadN X623 hx (1 : Int32) (dB d6_4) 5 rfl rfl ?_
    refine w_icmp_le X623 hx 1 1 (by decide) (by decide) (dB d6_5) 33 8 (fun c624 => ?_) (fun c624 => ?_)
    ·refine w_ret0 X623 hx hlk hret (dB d6_33) (by decide) (by decide) ?_
     rw [e623]
     exact ⟨rfl, N616, K616, F618, F619, F620, F621, F622⟩
    ·exfalso; omega
theorem ef_6t012m2 (m : MethodId) (x0 : Addr) : entryFrame m #[(.ref x0), (.int (2 : Int32))] 2 = mkF m 0 #[.val (.ref x0), .val (.int (2 : Int32))] [] := by first | (simp [entryFrame, mkF, argsToLocals, Value.category]; done) | rfl
def Q6t012m2 (Z : State) (a : Addr) (va : Addr) (ta : Addr) (kv : ClassId) (kt : ClassId) (vv : Addr) (h0 : Heap) (n0 : Nat) (v : Option Value) (h : Heap) (L : List Loc) : Prop := v = none ∧ Fr n0 L ∧ Keep h0 h [a, va] ∧ Fld Z h a cN_2 "values" cN_3 (.ref va) ∧ Fld Z h a cN_2 "trail" "[I" (.ref ta) ∧ Fld Z h a cN_2 "trailSize" "I" (.int (2 : Int32)) ∧ Arv Z h va kv (.object cN_4) (3 : Int32) [(.ref vv), (.ref vv), .null] .null ∧ Arv Z h ta kt .int (3 : Int32) [(.int (0 : Int32)), (.int (1 : Int32)), (.int (2 : Int32))] (.int (0 : Int32))
set_option maxRecDepth 65536 in
set_option maxHeartbeats 40000000 in
theorem rm6t012m2 (l : Launch) (Z : State) (a0 : Array Value) (hw : ∀ d ∈ tables_1, d.before a0 Z = true) (ws : List Jvm.Cond) (a : Addr) (va : Addr) (ta : Addr) (kv : ClassId) (kt : ClassId) (vv : Addr) (h0 : Heap) (n0 : Nat) (Z0 : n0 ≤ h0.size) (E_a : Exa Z h0 a cN_2) (F_values_a : Fld Z h0 a cN_2 "values" cN_3 (.ref va)) (F_trail_a : Fld Z h0 a cN_2 "trail" "[I" (.ref ta)) (F_trailSize_a : Fld Z h0 a cN_2 "trailSize" "I" (.int (3 : Int32))) (V_va : Arv Z h0 va kv (.object cN_4) (3 : Int32) [(.ref vv), (.ref vv), (.ref vv)] .null) (V_ta : Arv Z h0 ta kt .int (3 : Int32) [(.int (0 : Int32)), (.int (1 : Int32)), (.int (2 : Int32))] (.int (0 : Int32))) (g_a : n0 ≤ a) (g_va : n0 ≤ va) (ne1 : va ≠ ta) (ov : Ovr Z kv "com/example/simpagation/simpagation/Term") :
    CT l mN_6 prog_1_method_7_code 2 none ws ({ frames := 0, cells := 0, slots := 0, locals := 0 } : Room) #[(.ref a), (.int (2 : Int32))] Z h0 (Q6t012m2 Z a va ta kv kt vv h0 n0) := by
  refine body_of (plainFor_of_name pn_2) ?_
  intro p e s m below meth c s₁ hx dB hret hlk hml hown0 hnm X0 e0 hZ
  have hown : s.vm.findClass cN_2 = some m.cls := hown0
  have N0 := Fr.nil n0
  rw [ef_6t012m2]
  show Wk p e below (FN s (Q6t012m2 Z a va ta kv kt vv h0 n0) 0 0) s₁ (mkF m 0 #[.val (.ref a), .val (.int (2 : Int32))] [])
  refine w_aloadN X0 hx (.ref a) (dB d6_0) 1 rfl rfl rfl ?_
  refine w_getF X0 hx hZ hown e0 (host := "") (Or.inl (tw_36 hw)) Via.refl F_trailSize_a (dB d6_1) 4 rfl (fun T625 X625 e625 => ?_)
  refine w_iloadN X625 hx (2 : Int32) (dB d6_4) 5 rfl rfl ?_
  refine w_icmp_le X625 hx 3 2 (by decide) (by decide) (dB d6_5) 33 8 (fun c626 => ?_) (fun c626 => ?_)
  ·exfalso; omega
  ·refine w_aloadN X625 hx (.ref a) (dB d6_8) 9 rfl rfl rfl ?_
   refine w_getF X625 hx hZ hown e625 (host := "") (Or.inl (tw_26 hw)) Via.refl F_values_a (dB d6_9) 12 rfl (fun T627 X627 e627 => ?_)
   refine w_aloadN X627 hx (.ref a) (dB d6_12) 13 rfl rfl rfl ?_
   refine w_getF X627 hx hZ hown e627 (host := "") (Or.inl (tw_29 hw)) Via.refl F_trail_a (dB d6_13) 16 rfl (fun T628 X628 e628 => ?_)
   refine w_aloadN X628 hx (.ref a) (dB d6_16) 17 rfl rfl rfl ?_
   refine w_dup X628 hx (dB d6_17) 18 rfl rfl ?_
   refine w_getF X628 hx hZ hown e628 (host := "") (Or.inl (tw_36 hw)) Via.refl F_trailSize_a (dB d6_18) 21 rfl (fun T629 X629 e629 => ?_)
   refine w_iconst X629 hx (dB d6_21) 22 rfl (1 : Int32) (by decide) ?_
   refine w_isub X629 hx (dB d6_22) 23 rfl (show (2 : Int32) = (3 : Int32) - (1 : Int32) from by decide) ?_
   refine w_dupX1 X629 hx (dB d6_23) 24 rfl rfl rfl ?_
   refine w_putF X629 hx hZ hown e629 (host := "") (Or.inl (tw_36 hw)) Via.refl F_trailSize_a E_a (Or.inl (tw_37 hw)) (tw_18 hw) (ty := .int) (by decide) rfl rfl (dB d6_24) 27 rfl (fun T630 h630 X630 e630 W630 => ?_)
   have F631 : Exa Z h630 a cN_2 := E_a.wr W630
   have F632 : Fld Z h630 a cN_2 "values" cN_3 (.ref va) := F_values_a.other W630 (Or.inr (slot_ne (Or.inr (tw_27 hw)) (Or.inl (tw_37 hw)) (by decide) (t := (.array (.object "com/example/simpagation/simpagation/Term"))) (t' := .int) (by decide) (by decide)))
   have F633 : Fld Z h630 a cN_2 "trail" "[I" (.ref ta) := F_trail_a.other W630 (Or.inr (slot_ne (Or.inr (tw_30 hw)) (Or.inl (tw_37 hw)) (by decide) (t := (.array .int)) (t' := .int) (by decide) (by decide)))
   have F634 : Fld Z h630 a cN_2 "trailSize" "I" (.int (2 : Int32)) := F_trailSize_a.same W630
   have F635 : Arv Z h630 va kv (.object cN_4) (3 : Int32) [(.ref vv), (.ref vv), (.ref vv)] .null := V_va.other W630 (Ne.symm (ne_arv E_a (tw_18 hw) V_va))
   have F636 : Arv Z h630 ta kt .int (3 : Int32) [(.int (0 : Int32)), (.int (1 : Int32)), (.int (2 : Int32))] (.int (0 : Int32)) := V_ta.other W630 (Ne.symm (ne_arv E_a (tw_18 hw) V_ta))
   have Z630 : n0 ≤ h630.size := by rw [W630.size]; exact Z0
   have K630 : Keep h0 h630 [a, va] := (Keep.refl h0 [a, va]).wr W630 (Or.inl (List.mem_of_getElem? (i := 0) rfl))
   have N630 := Fr.snoc X630 N0 g_a
   refine w_iaload X630 hx hZ e630 F636 ⟨by decide, by decide⟩ (v := (.int (2 : Int32))) rfl (dB d6_27) 28 rfl ?_
   refine w_null X630 hx (dB d6_28) 29 rfl ?_
   refine w_aastore X630 hx hZ e630 F635 ⟨by decide, by decide⟩ 2 (by decide) (show 2 < 3 from (by decide)) rfl (Or.inl rfl) (dB d6_29) 30 rfl (fun T637 h637 X637 e637 W637 V637 => ?_)
   have F638 : Exa Z h637 a cN_2 := F631.wr W637
   have F639 : Fld Z h637 a cN_2 "values" cN_3 (.ref va) := F632.other W637 (Or.inl (ne_arv F631 (tw_18 hw) F635))
   have F640 : Fld Z h637 a cN_2 "trail" "[I" (.ref ta) := F633.other W637 (Or.inl (ne_arv F631 (tw_18 hw) F635))
   have F641 : Fld Z h637 a cN_2 "trailSize" "I" (.int (2 : Int32)) := F634.other W637 (Or.inl (ne_arv F631 (tw_18 hw) F635))
   have F642 : Arv Z h637 va kv (.object cN_4) (3 : Int32) [(.ref vv), (.ref vv), .null] .null := V637
   have F643 : Arv Z h637 ta kt .int (3 : Int32) [(.int (0 : Int32)), (.int (1 : Int32)), (.int (2 : Int32))] (.int (0 : Int32)) := F636.other W637 (Ne.symm ne1)
   have Z637 : n0 ≤ h637.size := by rw [W637.size]; exact Z630
   have K637 : Keep h0 h637 [a, va] := K630.wr W637 (Or.inl (List.mem_of_getElem? (i := 1) rfl))
   have N637 := Fr.snoc X637 N630 g_va
   refine w_goto X637 hx (dB d6_30) 0 ?_
   refine w_aloadN X637 hx (.ref a) (dB d6_0) 1 rfl rfl rfl ?_
   refine w_getF X637 hx hZ hown e637 (host := "") (Or.inl (tw_36 hw)) Via.refl F641 (dB d6_1) 4 rfl (fun T644 X644 e644 => ?_)
   refine w_iloadN X644 hx (2 : Int32) (dB d6_4) 5 rfl rfl ?_
   refine w_icmp_le X644 hx 2 2 (by decide) (by decide) (dB d6_5) 33 8 (fun c645 => ?_) (fun c645 => ?_)
   ·refine w_ret0 X644 hx hlk hret (dB d6_33) (by decide) (by decide) ?_
    rw [e644]
    exact ⟨rfl, N637, K637, F639, F640, F641, F642, F643⟩
   ·exfalso; omega
theorem ef_6t02m0 (m : MethodId) (x0 : Addr) : entryFrame m #[(.ref x0), (.int (0 : Int32))] 2 = mkF m 0 #[.val (.ref x0), .val (.int (0 : Int32))] [] := by first | (simp [entryFrame, mkF, argsToLocals, Value.category]; done) | rfl
def Q6t02m0 (Z : State) (a : Addr) (va : Addr) (ta : Addr) (kv : ClassId) (kt : ClassId) (vv : Addr) (h0 : Heap) (n0 : Nat) (v : Option Value) (h : Heap) (L : List Loc) : Prop := v = none ∧ Fr n0 L ∧ Keep h0 h [a, va] ∧ Fld Z h a cN_2 "values" cN_3 (.ref va) ∧ Fld Z h a cN_2 "trail" "[I" (.ref ta) ∧ Fld Z h a cN_2 "trailSize" "I" (.int (0 : Int32)) ∧ Arv Z h va kv (.object cN_4) (3 : Int32) [.null, .null, .null] .null ∧ Arv Z h ta kt .int (3 : Int32) [(.int (0 : Int32)), (.int (2 : Int32)), (.int (0 : Int32))] (.int (0 : Int32))
set_option maxRecDepth 65536 in
set_option maxHeartbeats 40000000 in
theorem rm6t02m0 (l : Launch) (Z : State) (a0 : Array Value) (hw : ∀ d ∈ tables_1, d.before a0 Z = true) (ws : List Jvm.Cond) (a : Addr) (va : Addr) (ta : Addr) (kv : ClassId) (kt : ClassId) (vv : Addr) (h0 : Heap) (n0 : Nat) (Z0 : n0 ≤ h0.size) (E_a : Exa Z h0 a cN_2) (F_values_a : Fld Z h0 a cN_2 "values" cN_3 (.ref va)) (F_trail_a : Fld Z h0 a cN_2 "trail" "[I" (.ref ta)) (F_trailSize_a : Fld Z h0 a cN_2 "trailSize" "I" (.int (2 : Int32))) (V_va : Arv Z h0 va kv (.object cN_4) (3 : Int32) [(.ref vv), .null, (.ref vv)] .null) (V_ta : Arv Z h0 ta kt .int (3 : Int32) [(.int (0 : Int32)), (.int (2 : Int32)), (.int (0 : Int32))] (.int (0 : Int32))) (g_a : n0 ≤ a) (g_va : n0 ≤ va) (ne1 : va ≠ ta) (ov : Ovr Z kv "com/example/simpagation/simpagation/Term") :
    CT l mN_6 prog_1_method_7_code 2 none ws ({ frames := 0, cells := 0, slots := 0, locals := 0 } : Room) #[(.ref a), (.int (0 : Int32))] Z h0 (Q6t02m0 Z a va ta kv kt vv h0 n0) := by
  refine body_of (plainFor_of_name pn_2) ?_
  intro p e s m below meth c s₁ hx dB hret hlk hml hown0 hnm X0 e0 hZ
  have hown : s.vm.findClass cN_2 = some m.cls := hown0
  have N0 := Fr.nil n0
  rw [ef_6t02m0]
  show Wk p e below (FN s (Q6t02m0 Z a va ta kv kt vv h0 n0) 0 0) s₁ (mkF m 0 #[.val (.ref a), .val (.int (0 : Int32))] [])
  refine w_aloadN X0 hx (.ref a) (dB d6_0) 1 rfl rfl rfl ?_
  refine w_getF X0 hx hZ hown e0 (host := "") (Or.inl (tw_36 hw)) Via.refl F_trailSize_a (dB d6_1) 4 rfl (fun T646 X646 e646 => ?_)
  refine w_iloadN X646 hx (0 : Int32) (dB d6_4) 5 rfl rfl ?_
  refine w_icmp_le X646 hx 2 0 (by decide) (by decide) (dB d6_5) 33 8 (fun c647 => ?_) (fun c647 => ?_)
  ·exfalso; omega
  ·refine w_aloadN X646 hx (.ref a) (dB d6_8) 9 rfl rfl rfl ?_
   refine w_getF X646 hx hZ hown e646 (host := "") (Or.inl (tw_26 hw)) Via.refl F_values_a (dB d6_9) 12 rfl (fun T648 X648 e648 => ?_)
   refine w_aloadN X648 hx (.ref a) (dB d6_12) 13 rfl rfl rfl ?_
   refine w_getF X648 hx hZ hown e648 (host := "") (Or.inl (tw_29 hw)) Via.refl F_trail_a (dB d6_13) 16 rfl (fun T649 X649 e649 => ?_)
   refine w_aloadN X649 hx (.ref a) (dB d6_16) 17 rfl rfl rfl ?_
   refine w_dup X649 hx (dB d6_17) 18 rfl rfl ?_
   refine w_getF X649 hx hZ hown e649 (host := "") (Or.inl (tw_36 hw)) Via.refl F_trailSize_a (dB d6_18) 21 rfl (fun T650 X650 e650 => ?_)
   refine w_iconst X650 hx (dB d6_21) 22 rfl (1 : Int32) (by decide) ?_
   refine w_isub X650 hx (dB d6_22) 23 rfl (show (1 : Int32) = (2 : Int32) - (1 : Int32) from by decide) ?_
   refine w_dupX1 X650 hx (dB d6_23) 24 rfl rfl rfl ?_
   refine w_putF X650 hx hZ hown e650 (host := "") (Or.inl (tw_36 hw)) Via.refl F_trailSize_a E_a (Or.inl (tw_37 hw)) (tw_18 hw) (ty := .int) (by decide) rfl rfl (dB d6_24) 27 rfl (fun T651 h651 X651 e651 W651 => ?_)
   have F652 : Exa Z h651 a cN_2 := E_a.wr W651
   have F653 : Fld Z h651 a cN_2 "values" cN_3 (.ref va) := F_values_a.other W651 (Or.inr (slot_ne (Or.inr (tw_27 hw)) (Or.inl (tw_37 hw)) (by decide) (t := (.array (.object "com/example/simpagation/simpagation/Term"))) (t' := .int) (by decide) (by decide)))
   have F654 : Fld Z h651 a cN_2 "trail" "[I" (.ref ta) := F_trail_a.other W651 (Or.inr (slot_ne (Or.inr (tw_30 hw)) (Or.inl (tw_37 hw)) (by decide) (t := (.array .int)) (t' := .int) (by decide) (by decide)))
   have F655 : Fld Z h651 a cN_2 "trailSize" "I" (.int (1 : Int32)) := F_trailSize_a.same W651
   have F656 : Arv Z h651 va kv (.object cN_4) (3 : Int32) [(.ref vv), .null, (.ref vv)] .null := V_va.other W651 (Ne.symm (ne_arv E_a (tw_18 hw) V_va))
   have F657 : Arv Z h651 ta kt .int (3 : Int32) [(.int (0 : Int32)), (.int (2 : Int32)), (.int (0 : Int32))] (.int (0 : Int32)) := V_ta.other W651 (Ne.symm (ne_arv E_a (tw_18 hw) V_ta))
   have Z651 : n0 ≤ h651.size := by rw [W651.size]; exact Z0
   have K651 : Keep h0 h651 [a, va] := (Keep.refl h0 [a, va]).wr W651 (Or.inl (List.mem_of_getElem? (i := 0) rfl))
   have N651 := Fr.snoc X651 N0 g_a
   refine w_iaload X651 hx hZ e651 F657 ⟨by decide, by decide⟩ (v := (.int (2 : Int32))) rfl (dB d6_27) 28 rfl ?_
   refine w_null X651 hx (dB d6_28) 29 rfl ?_
   refine w_aastore X651 hx hZ e651 F656 ⟨by decide, by decide⟩ 2 (by decide) (show 2 < 3 from (by decide)) rfl (Or.inl rfl) (dB d6_29) 30 rfl (fun T658 h658 X658 e658 W658 V658 => ?_)
   have F659 : Exa Z h658 a cN_2 := F652.wr W658
   have F660 : Fld Z h658 a cN_2 "values" cN_3 (.ref va) := F653.other W658 (Or.inl (ne_arv F652 (tw_18 hw) F656))
   have F661 : Fld Z h658 a cN_2 "trail" "[I" (.ref ta) := F654.other W658 (Or.inl (ne_arv F652 (tw_18 hw) F656))
   have F662 : Fld Z h658 a cN_2 "trailSize" "I" (.int (1 : Int32)) := F655.other W658 (Or.inl (ne_arv F652 (tw_18 hw) F656))
   have F663 : Arv Z h658 va kv (.object cN_4) (3 : Int32) [(.ref vv), .null, .null] .null := V658
   have F664 : Arv Z h658 ta kt .int (3 : Int32) [(.int (0 : Int32)), (.int (2 : Int32)), (.int (0 : Int32))] (.int (0 : Int32)) := F657.other W658 (Ne.symm ne1)
   have Z658 : n0 ≤ h658.size := by rw [W658.size]; exact Z651
   have K658 : Keep h0 h658 [a, va] := K651.wr W658 (Or.inl (List.mem_of_getElem? (i := 1) rfl))
   have N658 := Fr.snoc X658 N651 g_va
   refine w_goto X658 hx (dB d6_30) 0 ?_
   refine w_aloadN X658 hx (.ref a) (dB d6_0) 1 rfl rfl rfl ?_
   refine w_getF X658 hx hZ hown e658 (host := "") (Or.inl (tw_36 hw)) Via.refl F662 (dB d6_1) 4 rfl (fun T665 X665 e665 => ?_)
   refine w_iloadN X665 hx (0 : Int32) (dB d6_4) 5 rfl rfl ?_
   refine w_icmp_le X665 hx 1 0 (by decide) (by decide) (dB d6_5) 33 8 (fun c666 => ?_) (fun c666 => ?_)
   ·exfalso; omega
   ·refine w_aloadN X665 hx (.ref a) (dB d6_8) 9 rfl rfl rfl ?_
    refine w_getF X665 hx hZ hown e665 (host := "") (Or.inl (tw_26 hw)) Via.refl F660 (dB d6_9) 12 rfl (fun T667 X667 e667 => ?_)
    refine w_aloadN X667 hx (.ref a) (dB d6_12) 13 rfl rfl rfl ?_
    refine w_getF X667 hx hZ hown e667 (host := "") (Or.inl (tw_29 hw)) Via.refl F661 (dB d6_13) 16 rfl (fun T668 X668 e668 => ?_)
    refine w_aloadN X668 hx (.ref a) (dB d6_16) 17 rfl rfl rfl ?_
    refine w_dup X668 hx (dB d6_17) 18 rfl rfl ?_
    refine w_getF X668 hx hZ hown e668 (host := "") (Or.inl (tw_36 hw)) Via.refl F662 (dB d6_18) 21 rfl (fun T669 X669 e669 => ?_)
    refine w_iconst X669 hx (dB d6_21) 22 rfl (1 : Int32) (by decide) ?_
    refine w_isub X669 hx (dB d6_22) 23 rfl (show (0 : Int32) = (1 : Int32) - (1 : Int32) from by decide) ?_
    refine w_dupX1 X669 hx (dB d6_23) 24 rfl rfl rfl ?_
    refine w_putF X669 hx hZ hown e669 (host := "") (Or.inl (tw_36 hw)) Via.refl F662 F659 (Or.inl (tw_37 hw)) (tw_18 hw) (ty := .int) (by decide) rfl rfl (dB d6_24) 27 rfl (fun T670 h670 X670 e670 W670 => ?_)
    have F671 : Exa Z h670 a cN_2 := F659.wr W670
    have F672 : Fld Z h670 a cN_2 "values" cN_3 (.ref va) := F660.other W670 (Or.inr (slot_ne (Or.inr (tw_27 hw)) (Or.inl (tw_37 hw)) (by decide) (t := (.array (.object "com/example/simpagation/simpagation/Term"))) (t' := .int) (by decide) (by decide)))
    have F673 : Fld Z h670 a cN_2 "trail" "[I" (.ref ta) := F661.other W670 (Or.inr (slot_ne (Or.inr (tw_30 hw)) (Or.inl (tw_37 hw)) (by decide) (t := (.array .int)) (t' := .int) (by decide) (by decide)))
    have F674 : Fld Z h670 a cN_2 "trailSize" "I" (.int (0 : Int32)) := F662.same W670
    have F675 : Arv Z h670 va kv (.object cN_4) (3 : Int32) [(.ref vv), .null, .null] .null := F663.other W670 (Ne.symm (ne_arv F659 (tw_18 hw) F663))
    have F676 : Arv Z h670 ta kt .int (3 : Int32) [(.int (0 : Int32)), (.int (2 : Int32)), (.int (0 : Int32))] (.int (0 : Int32)) := F664.other W670 (Ne.symm (ne_arv F659 (tw_18 hw) F664))
    have Z670 : n0 ≤ h670.size := by rw [W670.size]; exact Z658
    have K670 : Keep h0 h670 [a, va] := K658.wr W670 (Or.inl (List.mem_of_getElem? (i := 0) rfl))
    have N670 := Fr.snoc X670 N658 g_a
    refine w_iaload X670 hx hZ e670 F676 ⟨by decide, by decide⟩ (v := (.int (0 : Int32))) rfl (dB d6_27) 28 rfl ?_
    refine w_null X670 hx (dB d6_28) 29 rfl ?_
    refine w_aastore X670 hx hZ e670 F675 ⟨by decide, by decide⟩ 0 (by decide) (show 0 < 3 from (by decide)) rfl (Or.inl rfl) (dB d6_29) 30 rfl (fun T677 h677 X677 e677 W677 V677 => ?_)
    have F678 : Exa Z h677 a cN_2 := F671.wr W677
    have F679 : Fld Z h677 a cN_2 "values" cN_3 (.ref va) := F672.other W677 (Or.inl (ne_arv F671 (tw_18 hw) F675))
    have F680 : Fld Z h677 a cN_2 "trail" "[I" (.ref ta) := F673.other W677 (Or.inl (ne_arv F671 (tw_18 hw) F675))
    have F681 : Fld Z h677 a cN_2 "trailSize" "I" (.int (0 : Int32)) := F674.other W677 (Or.inl (ne_arv F671 (tw_18 hw) F675))
    have F682 : Arv Z h677 va kv (.object cN_4) (3 : Int32) [.null, .null, .null] .null := V677
    have F683 : Arv Z h677 ta kt .int (3 : Int32) [(.int (0 : Int32)), (.int (2 : Int32)), (.int (0 : Int32))] (.int (0 : Int32)) := F676.other W677 (Ne.symm ne1)
    have Z677 : n0 ≤ h677.size := by rw [W677.size]; exact Z670
    have K677 : Keep h0 h677 [a, va] := K670.wr W677 (Or.inl (List.mem_of_getElem? (i := 1) rfl))
    have N677 := Fr.snoc X677 N670 g_va
    refine w_goto X677 hx (dB d6_30) 0 ?_
    refine w_aloadN X677 hx (.ref a) (dB d6_0) 1 rfl rfl rfl ?_
    refine w_getF X677 hx hZ hown e677 (host := "") (Or.inl (tw_36 hw)) Via.refl F681 (dB d6_1) 4 rfl (fun T684 X684 e684 => ?_)
    refine w_iloadN X684 hx (0 : Int32) (dB d6_4) 5 rfl rfl ?_
    refine w_icmp_le X684 hx 0 0 (by decide) (by decide) (dB d6_5) 33 8 (fun c685 => ?_) (fun c685 => ?_)
    ·refine w_ret0 X684 hx hlk hret (dB d6_33) (by decide) (by decide) ?_
     rw [e684]
     exact ⟨rfl, N677, K677, F679, F680, F681, F682, F683⟩
    ·exfalso; omega
theorem ef_6t02m1 (m : MethodId) (x0 : Addr) : entryFrame m #[(.ref x0), (.int (1 : Int32))] 2 = mkF m 0 #[.val (.ref x0), .val (.int (1 : Int32))] [] := by first | (simp [entryFrame, mkF, argsToLocals, Value.category]; done) | rfl
def Q6t02m1 (Z : State) (a : Addr) (va : Addr) (ta : Addr) (kv : ClassId) (kt : ClassId) (vv : Addr) (h0 : Heap) (n0 : Nat) (v : Option Value) (h : Heap) (L : List Loc) : Prop := v = none ∧ Fr n0 L ∧ Keep h0 h [a, va] ∧ Fld Z h a cN_2 "values" cN_3 (.ref va) ∧ Fld Z h a cN_2 "trail" "[I" (.ref ta) ∧ Fld Z h a cN_2 "trailSize" "I" (.int (1 : Int32)) ∧ Arv Z h va kv (.object cN_4) (3 : Int32) [(.ref vv), .null, .null] .null ∧ Arv Z h ta kt .int (3 : Int32) [(.int (0 : Int32)), (.int (2 : Int32)), (.int (0 : Int32))] (.int (0 : Int32))
set_option maxRecDepth 65536 in
set_option maxHeartbeats 40000000 in
theorem rm6t02m1 (l : Launch) (Z : State) (a0 : Array Value) (hw : ∀ d ∈ tables_1, d.before a0 Z = true) (ws : List Jvm.Cond) (a : Addr) (va : Addr) (ta : Addr) (kv : ClassId) (kt : ClassId) (vv : Addr) (h0 : Heap) (n0 : Nat) (Z0 : n0 ≤ h0.size) (E_a : Exa Z h0 a cN_2) (F_values_a : Fld Z h0 a cN_2 "values" cN_3 (.ref va)) (F_trail_a : Fld Z h0 a cN_2 "trail" "[I" (.ref ta)) (F_trailSize_a : Fld Z h0 a cN_2 "trailSize" "I" (.int (2 : Int32))) (V_va : Arv Z h0 va kv (.object cN_4) (3 : Int32) [(.ref vv), .null, (.ref vv)] .null) (V_ta : Arv Z h0 ta kt .int (3 : Int32) [(.int (0 : Int32)), (.int (2 : Int32)), (.int (0 : Int32))] (.int (0 : Int32))) (g_a : n0 ≤ a) (g_va : n0 ≤ va) (ne1 : va ≠ ta) (ov : Ovr Z kv "com/example/simpagation/simpagation/Term") :
    CT l mN_6 prog_1_method_7_code 2 none ws ({ frames := 0, cells := 0, slots := 0, locals := 0 } : Room) #[(.ref a), (.int (1 : Int32))] Z h0 (Q6t02m1 Z a va ta kv kt vv h0 n0) := by
  refine body_of (plainFor_of_name pn_2) ?_
  intro p e s m below meth c s₁ hx dB hret hlk hml hown0 hnm X0 e0 hZ
  have hown : s.vm.findClass cN_2 = some m.cls := hown0
  have N0 := Fr.nil n0
  rw [ef_6t02m1]
  show Wk p e below (FN s (Q6t02m1 Z a va ta kv kt vv h0 n0) 0 0) s₁ (mkF m 0 #[.val (.ref a), .val (.int (1 : Int32))] [])
  refine w_aloadN X0 hx (.ref a) (dB d6_0) 1 rfl rfl rfl ?_
  refine w_getF X0 hx hZ hown e0 (host := "") (Or.inl (tw_36 hw)) Via.refl F_trailSize_a (dB d6_1) 4 rfl (fun T686 X686 e686 => ?_)
  refine w_iloadN X686 hx (1 : Int32) (dB d6_4) 5 rfl rfl ?_
  refine w_icmp_le X686 hx 2 1 (by decide) (by decide) (dB d6_5) 33 8 (fun c687 => ?_) (fun c687 => ?_)
  ·exfalso; omega
  ·refine w_aloadN X686 hx (.ref a) (dB d6_8) 9 rfl rfl rfl ?_
   refine w_getF X686 hx hZ hown e686 (host := "") (Or.inl (tw_26 hw)) Via.refl F_values_a (dB d6_9) 12 rfl (fun T688 X688 e688 => ?_)
   refine w_aloadN X688 hx (.ref a) (dB d6_12) 13 rfl rfl rfl ?_
   refine w_getF X688 hx hZ hown e688 (host := "") (Or.inl (tw_29 hw)) Via.refl F_trail_a (dB d6_13) 16 rfl (fun T689 X689 e689 => ?_)
   refine w_aloadN X689 hx (.ref a) (dB d6_16) 17 rfl rfl rfl ?_
   refine w_dup X689 hx (dB d6_17) 18 rfl rfl ?_
   refine w_getF X689 hx hZ hown e689 (host := "") (Or.inl (tw_36 hw)) Via.refl F_trailSize_a (dB d6_18) 21 rfl (fun T690 X690 e690 => ?_)
   refine w_iconst X690 hx (dB d6_21) 22 rfl (1 : Int32) (by decide) ?_
   refine w_isub X690 hx (dB d6_22) 23 rfl (show (1 : Int32) = (2 : Int32) - (1 : Int32) from by decide) ?_
   refine w_dupX1 X690 hx (dB d6_23) 24 rfl rfl rfl ?_
   refine w_putF X690 hx hZ hown e690 (host := "") (Or.inl (tw_36 hw)) Via.refl F_trailSize_a E_a (Or.inl (tw_37 hw)) (tw_18 hw) (ty := .int) (by decide) rfl rfl (dB d6_24) 27 rfl (fun T691 h691 X691 e691 W691 => ?_)
   have F692 : Exa Z h691 a cN_2 := E_a.wr W691
   have F693 : Fld Z h691 a cN_2 "values" cN_3 (.ref va) := F_values_a.other W691 (Or.inr (slot_ne (Or.inr (tw_27 hw)) (Or.inl (tw_37 hw)) (by decide) (t := (.array (.object "com/example/simpagation/simpagation/Term"))) (t' := .int) (by decide) (by decide)))
   have F694 : Fld Z h691 a cN_2 "trail" "[I" (.ref ta) := F_trail_a.other W691 (Or.inr (slot_ne (Or.inr (tw_30 hw)) (Or.inl (tw_37 hw)) (by decide) (t := (.array .int)) (t' := .int) (by decide) (by decide)))
   have F695 : Fld Z h691 a cN_2 "trailSize" "I" (.int (1 : Int32)) := F_trailSize_a.same W691
   have F696 : Arv Z h691 va kv (.object cN_4) (3 : Int32) [(.ref vv), .null, (.ref vv)] .null := V_va.other W691 (Ne.symm (ne_arv E_a (tw_18 hw) V_va))
   have F697 : Arv Z h691 ta kt .int (3 : Int32) [(.int (0 : Int32)), (.int (2 : Int32)), (.int (0 : Int32))] (.int (0 : Int32)) := V_ta.other W691 (Ne.symm (ne_arv E_a (tw_18 hw) V_ta))
   have Z691 : n0 ≤ h691.size := by rw [W691.size]; exact Z0
   have K691 : Keep h0 h691 [a, va] := (Keep.refl h0 [a, va]).wr W691 (Or.inl (List.mem_of_getElem? (i := 0) rfl))
   have N691 := Fr.snoc X691 N0 g_a
   refine w_iaload X691 hx hZ e691 F697 ⟨by decide, by decide⟩ (v := (.int (2 : Int32))) rfl (dB d6_27) 28 rfl ?_
   refine w_null X691 hx (dB d6_28) 29 rfl ?_
   refine w_aastore X691 hx hZ e691 F696 ⟨by decide, by decide⟩ 2 (by decide) (show 2 < 3 from (by decide)) rfl (Or.inl rfl) (dB d6_29) 30 rfl (fun T698 h698 X698 e698 W698 V698 => ?_)
   have F699 : Exa Z h698 a cN_2 := F692.wr W698
   have F700 : Fld Z h698 a cN_2 "values" cN_3 (.ref va) := F693.other W698 (Or.inl (ne_arv F692 (tw_18 hw) F696))
   have F701 : Fld Z h698 a cN_2 "trail" "[I" (.ref ta) := F694.other W698 (Or.inl (ne_arv F692 (tw_18 hw) F696))
   have F702 : Fld Z h698 a cN_2 "trailSize" "I" (.int (1 : Int32)) := F695.other W698 (Or.inl (ne_arv F692 (tw_18 hw) F696))
   have F703 : Arv Z h698 va kv (.object cN_4) (3 : Int32) [(.ref vv), .null, .null] .null := V698
   have F704 : Arv Z h698 ta kt .int (3 : Int32) [(.int (0 : Int32)), (.int (2 : Int32)), (.int (0 : Int32))] (.int (0 : Int32)) := F697.other W698 (Ne.symm ne1)
   have Z698 : n0 ≤ h698.size := by rw [W698.size]; exact Z691
   have K698 : Keep h0 h698 [a, va] := K691.wr W698 (Or.inl (List.mem_of_getElem? (i := 1) rfl))
   have N698 := Fr.snoc X698 N691 g_va
   refine w_goto X698 hx (dB d6_30) 0 ?_
   refine w_aloadN X698 hx (.ref a) (dB d6_0) 1 rfl rfl rfl ?_
   refine w_getF X698 hx hZ hown e698 (host := "") (Or.inl (tw_36 hw)) Via.refl F702 (dB d6_1) 4 rfl (fun T705 X705 e705 => ?_)
   refine w_iloadN X705 hx (1 : Int32) (dB d6_4) 5 rfl rfl ?_
   refine w_icmp_le X705 hx 1 1 (by decide) (by decide) (dB d6_5) 33 8 (fun c706 => ?_) (fun c706 => ?_)
   ·refine w_ret0 X705 hx hlk hret (dB d6_33) (by decide) (by decide) ?_
    rw [e705]
    exact ⟨rfl, N698, K698, F700, F701, F702, F703, F704⟩
   ·exfalso; omega
theorem ef_6t021m0 (m : MethodId) (x0 : Addr) : entryFrame m #[(.ref x0), (.int (0 : Int32))] 2 = mkF m 0 #[.val (.ref x0), .val (.int (0 : Int32))] [] := by first | (simp [entryFrame, mkF, argsToLocals, Value.category]; done) | rfl
def Q6t021m0 (Z : State) (a : Addr) (va : Addr) (ta : Addr) (kv : ClassId) (kt : ClassId) (vv : Addr) (h0 : Heap) (n0 : Nat) (v : Option Value) (h : Heap) (L : List Loc) : Prop := v = none ∧ Fr n0 L ∧ Keep h0 h [a, va] ∧ Fld Z h a cN_2 "values" cN_3 (.ref va) ∧ Fld Z h a cN_2 "trail" "[I" (.ref ta) ∧ Fld Z h a cN_2 "trailSize" "I" (.int (0 : Int32)) ∧ Arv Z h va kv (.object cN_4) (3 : Int32) [.null, .null, .null] .null ∧ Arv Z h ta kt .int (3 : Int32) [(.int (0 : Int32)), (.int (2 : Int32)), (.int (1 : Int32))] (.int (0 : Int32))
set_option maxRecDepth 65536 in
set_option maxHeartbeats 40000000 in
theorem rm6t021m0 (l : Launch) (Z : State) (a0 : Array Value) (hw : ∀ d ∈ tables_1, d.before a0 Z = true) (ws : List Jvm.Cond) (a : Addr) (va : Addr) (ta : Addr) (kv : ClassId) (kt : ClassId) (vv : Addr) (h0 : Heap) (n0 : Nat) (Z0 : n0 ≤ h0.size) (E_a : Exa Z h0 a cN_2) (F_values_a : Fld Z h0 a cN_2 "values" cN_3 (.ref va)) (F_trail_a : Fld Z h0 a cN_2 "trail" "[I" (.ref ta)) (F_trailSize_a : Fld Z h0 a cN_2 "trailSize" "I" (.int (3 : Int32))) (V_va : Arv Z h0 va kv (.object cN_4) (3 : Int32) [(.ref vv), (.ref vv), (.ref vv)] .null) (V_ta : Arv Z h0 ta kt .int (3 : Int32) [(.int (0 : Int32)), (.int (2 : Int32)), (.int (1 : Int32))] (.int (0 : Int32))) (g_a : n0 ≤ a) (g_va : n0 ≤ va) (ne1 : va ≠ ta) (ov : Ovr Z kv "com/example/simpagation/simpagation/Term") :
    CT l mN_6 prog_1_method_7_code 2 none ws ({ frames := 0, cells := 0, slots := 0, locals := 0 } : Room) #[(.ref a), (.int (0 : Int32))] Z h0 (Q6t021m0 Z a va ta kv kt vv h0 n0) := by
  refine body_of (plainFor_of_name pn_2) ?_
  intro p e s m below meth c s₁ hx dB hret hlk hml hown0 hnm X0 e0 hZ
  have hown : s.vm.findClass cN_2 = some m.cls := hown0
  have N0 := Fr.nil n0
  rw [ef_6t021m0]
  show Wk p e below (FN s (Q6t021m0 Z a va ta kv kt vv h0 n0) 0 0) s₁ (mkF m 0 #[.val (.ref a), .val (.int (0 : Int32))] [])
  refine w_aloadN X0 hx (.ref a) (dB d6_0) 1 rfl rfl rfl ?_
  refine w_getF X0 hx hZ hown e0 (host := "") (Or.inl (tw_36 hw)) Via.refl F_trailSize_a (dB d6_1) 4 rfl (fun T707 X707 e707 => ?_)
  refine w_iloadN X707 hx (0 : Int32) (dB d6_4) 5 rfl rfl ?_
  refine w_icmp_le X707 hx 3 0 (by decide) (by decide) (dB d6_5) 33 8 (fun c708 => ?_) (fun c708 => ?_)
  ·exfalso; omega
  ·refine w_aloadN X707 hx (.ref a) (dB d6_8) 9 rfl rfl rfl ?_
   refine w_getF X707 hx hZ hown e707 (host := "") (Or.inl (tw_26 hw)) Via.refl F_values_a (dB d6_9) 12 rfl (fun T709 X709 e709 => ?_)
   refine w_aloadN X709 hx (.ref a) (dB d6_12) 13 rfl rfl rfl ?_
   refine w_getF X709 hx hZ hown e709 (host := "") (Or.inl (tw_29 hw)) Via.refl F_trail_a (dB d6_13) 16 rfl (fun T710 X710 e710 => ?_)
   refine w_aloadN X710 hx (.ref a) (dB d6_16) 17 rfl rfl rfl ?_
   refine w_dup X710 hx (dB d6_17) 18 rfl rfl ?_
   refine w_getF X710 hx hZ hown e710 (host := "") (Or.inl (tw_36 hw)) Via.refl F_trailSize_a (dB d6_18) 21 rfl (fun T711 X711 e711 => ?_)
   refine w_iconst X711 hx (dB d6_21) 22 rfl (1 : Int32) (by decide) ?_
   refine w_isub X711 hx (dB d6_22) 23 rfl (show (2 : Int32) = (3 : Int32) - (1 : Int32) from by decide) ?_
   refine w_dupX1 X711 hx (dB d6_23) 24 rfl rfl rfl ?_
   refine w_putF X711 hx hZ hown e711 (host := "") (Or.inl (tw_36 hw)) Via.refl F_trailSize_a E_a (Or.inl (tw_37 hw)) (tw_18 hw) (ty := .int) (by decide) rfl rfl (dB d6_24) 27 rfl (fun T712 h712 X712 e712 W712 => ?_)
   have F713 : Exa Z h712 a cN_2 := E_a.wr W712
   have F714 : Fld Z h712 a cN_2 "values" cN_3 (.ref va) := F_values_a.other W712 (Or.inr (slot_ne (Or.inr (tw_27 hw)) (Or.inl (tw_37 hw)) (by decide) (t := (.array (.object "com/example/simpagation/simpagation/Term"))) (t' := .int) (by decide) (by decide)))
   have F715 : Fld Z h712 a cN_2 "trail" "[I" (.ref ta) := F_trail_a.other W712 (Or.inr (slot_ne (Or.inr (tw_30 hw)) (Or.inl (tw_37 hw)) (by decide) (t := (.array .int)) (t' := .int) (by decide) (by decide)))
   have F716 : Fld Z h712 a cN_2 "trailSize" "I" (.int (2 : Int32)) := F_trailSize_a.same W712
   have F717 : Arv Z h712 va kv (.object cN_4) (3 : Int32) [(.ref vv), (.ref vv), (.ref vv)] .null := V_va.other W712 (Ne.symm (ne_arv E_a (tw_18 hw) V_va))
   have F718 : Arv Z h712 ta kt .int (3 : Int32) [(.int (0 : Int32)), (.int (2 : Int32)), (.int (1 : Int32))] (.int (0 : Int32)) := V_ta.other W712 (Ne.symm (ne_arv E_a (tw_18 hw) V_ta))
   have Z712 : n0 ≤ h712.size := by rw [W712.size]; exact Z0
   have K712 : Keep h0 h712 [a, va] := (Keep.refl h0 [a, va]).wr W712 (Or.inl (List.mem_of_getElem? (i := 0) rfl))
   have N712 := Fr.snoc X712 N0 g_a
   refine w_iaload X712 hx hZ e712 F718 ⟨by decide, by decide⟩ (v := (.int (1 : Int32))) rfl (dB d6_27) 28 rfl ?_
   refine w_null X712 hx (dB d6_28) 29 rfl ?_
   refine w_aastore X712 hx hZ e712 F717 ⟨by decide, by decide⟩ 1 (by decide) (show 1 < 3 from (by decide)) rfl (Or.inl rfl) (dB d6_29) 30 rfl (fun T719 h719 X719 e719 W719 V719 => ?_)
   have F720 : Exa Z h719 a cN_2 := F713.wr W719
   have F721 : Fld Z h719 a cN_2 "values" cN_3 (.ref va) := F714.other W719 (Or.inl (ne_arv F713 (tw_18 hw) F717))
   have F722 : Fld Z h719 a cN_2 "trail" "[I" (.ref ta) := F715.other W719 (Or.inl (ne_arv F713 (tw_18 hw) F717))
   have F723 : Fld Z h719 a cN_2 "trailSize" "I" (.int (2 : Int32)) := F716.other W719 (Or.inl (ne_arv F713 (tw_18 hw) F717))
   have F724 : Arv Z h719 va kv (.object cN_4) (3 : Int32) [(.ref vv), .null, (.ref vv)] .null := V719
   have F725 : Arv Z h719 ta kt .int (3 : Int32) [(.int (0 : Int32)), (.int (2 : Int32)), (.int (1 : Int32))] (.int (0 : Int32)) := F718.other W719 (Ne.symm ne1)
   have Z719 : n0 ≤ h719.size := by rw [W719.size]; exact Z712
   have K719 : Keep h0 h719 [a, va] := K712.wr W719 (Or.inl (List.mem_of_getElem? (i := 1) rfl))
   have N719 := Fr.snoc X719 N712 g_va
   refine w_goto X719 hx (dB d6_30) 0 ?_
   refine w_aloadN X719 hx (.ref a) (dB d6_0) 1 rfl rfl rfl ?_
   refine w_getF X719 hx hZ hown e719 (host := "") (Or.inl (tw_36 hw)) Via.refl F723 (dB d6_1) 4 rfl (fun T726 X726 e726 => ?_)
   refine w_iloadN X726 hx (0 : Int32) (dB d6_4) 5 rfl rfl ?_
   refine w_icmp_le X726 hx 2 0 (by decide) (by decide) (dB d6_5) 33 8 (fun c727 => ?_) (fun c727 => ?_)
   ·exfalso; omega
   ·refine w_aloadN X726 hx (.ref a) (dB d6_8) 9 rfl rfl rfl ?_
    refine w_getF X726 hx hZ hown e726 (host := "") (Or.inl (tw_26 hw)) Via.refl F721 (dB d6_9) 12 rfl (fun T728 X728 e728 => ?_)
    refine w_aloadN X728 hx (.ref a) (dB d6_12) 13 rfl rfl rfl ?_
    refine w_getF X728 hx hZ hown e728 (host := "") (Or.inl (tw_29 hw)) Via.refl F722 (dB d6_13) 16 rfl (fun T729 X729 e729 => ?_)
    refine w_aloadN X729 hx (.ref a) (dB d6_16) 17 rfl rfl rfl ?_
    refine w_dup X729 hx (dB d6_17) 18 rfl rfl ?_
    refine w_getF X729 hx hZ hown e729 (host := "") (Or.inl (tw_36 hw)) Via.refl F723 (dB d6_18) 21 rfl (fun T730 X730 e730 => ?_)
    refine w_iconst X730 hx (dB d6_21) 22 rfl (1 : Int32) (by decide) ?_
    refine w_isub X730 hx (dB d6_22) 23 rfl (show (1 : Int32) = (2 : Int32) - (1 : Int32) from by decide) ?_
    refine w_dupX1 X730 hx (dB d6_23) 24 rfl rfl rfl ?_
    refine w_putF X730 hx hZ hown e730 (host := "") (Or.inl (tw_36 hw)) Via.refl F723 F720 (Or.inl (tw_37 hw)) (tw_18 hw) (ty := .int) (by decide) rfl rfl (dB d6_24) 27 rfl (fun T731 h731 X731 e731 W731 => ?_)
    have F732 : Exa Z h731 a cN_2 := F720.wr W731
    have F733 : Fld Z h731 a cN_2 "values" cN_3 (.ref va) := F721.other W731 (Or.inr (slot_ne (Or.inr (tw_27 hw)) (Or.inl (tw_37 hw)) (by decide) (t := (.array (.object "com/example/simpagation/simpagation/Term"))) (t' := .int) (by decide) (by decide)))
    have F734 : Fld Z h731 a cN_2 "trail" "[I" (.ref ta) := F722.other W731 (Or.inr (slot_ne (Or.inr (tw_30 hw)) (Or.inl (tw_37 hw)) (by decide) (t := (.array .int)) (t' := .int) (by decide) (by decide)))
    have F735 : Fld Z h731 a cN_2 "trailSize" "I" (.int (1 : Int32)) := F723.same W731
    have F736 : Arv Z h731 va kv (.object cN_4) (3 : Int32) [(.ref vv), .null, (.ref vv)] .null := F724.other W731 (Ne.symm (ne_arv F720 (tw_18 hw) F724))
    have F737 : Arv Z h731 ta kt .int (3 : Int32) [(.int (0 : Int32)), (.int (2 : Int32)), (.int (1 : Int32))] (.int (0 : Int32)) := F725.other W731 (Ne.symm (ne_arv F720 (tw_18 hw) F725))
    have Z731 : n0 ≤ h731.size := by rw [W731.size]; exact Z719
    have K731 : Keep h0 h731 [a, va] := K719.wr W731 (Or.inl (List.mem_of_getElem? (i := 0) rfl))
    have N731 := Fr.snoc X731 N719 g_a
    refine w_iaload X731 hx hZ e731 F737 ⟨by decide, by decide⟩ (v := (.int (2 : Int32))) rfl (dB d6_27) 28 rfl ?_
    refine w_null X731 hx (dB d6_28) 29 rfl ?_
    refine w_aastore X731 hx hZ e731 F736 ⟨by decide, by decide⟩ 2 (by decide) (show 2 < 3 from (by decide)) rfl (Or.inl rfl) (dB d6_29) 30 rfl (fun T738 h738 X738 e738 W738 V738 => ?_)
    have F739 : Exa Z h738 a cN_2 := F732.wr W738
    have F740 : Fld Z h738 a cN_2 "values" cN_3 (.ref va) := F733.other W738 (Or.inl (ne_arv F732 (tw_18 hw) F736))
    have F741 : Fld Z h738 a cN_2 "trail" "[I" (.ref ta) := F734.other W738 (Or.inl (ne_arv F732 (tw_18 hw) F736))
    have F742 : Fld Z h738 a cN_2 "trailSize" "I" (.int (1 : Int32)) := F735.other W738 (Or.inl (ne_arv F732 (tw_18 hw) F736))
    have F743 : Arv Z h738 va kv (.object cN_4) (3 : Int32) [(.ref vv), .null, .null] .null := V738
    have F744 : Arv Z h738 ta kt .int (3 : Int32) [(.int (0 : Int32)), (.int (2 : Int32)), (.int (1 : Int32))] (.int (0 : Int32)) := F737.other W738 (Ne.symm ne1)
    have Z738 : n0 ≤ h738.size := by rw [W738.size]; exact Z731
    have K738 : Keep h0 h738 [a, va] := K731.wr W738 (Or.inl (List.mem_of_getElem? (i := 1) rfl))
    have N738 := Fr.snoc X738 N731 g_va
    refine w_goto X738 hx (dB d6_30) 0 ?_
    refine w_aloadN X738 hx (.ref a) (dB d6_0) 1 rfl rfl rfl ?_
    refine w_getF X738 hx hZ hown e738 (host := "") (Or.inl (tw_36 hw)) Via.refl F742 (dB d6_1) 4 rfl (fun T745 X745 e745 => ?_)
    refine w_iloadN X745 hx (0 : Int32) (dB d6_4) 5 rfl rfl ?_
    refine w_icmp_le X745 hx 1 0 (by decide) (by decide) (dB d6_5) 33 8 (fun c746 => ?_) (fun c746 => ?_)
    ·exfalso; omega
    ·refine w_aloadN X745 hx (.ref a) (dB d6_8) 9 rfl rfl rfl ?_
     refine w_getF X745 hx hZ hown e745 (host := "") (Or.inl (tw_26 hw)) Via.refl F740 (dB d6_9) 12 rfl (fun T747 X747 e747 => ?_)
     refine w_aloadN X747 hx (.ref a) (dB d6_12) 13 rfl rfl rfl ?_
     refine w_getF X747 hx hZ hown e747 (host := "") (Or.inl (tw_29 hw)) Via.refl F741 (dB d6_13) 16 rfl (fun T748 X748 e748 => ?_)
     refine w_aloadN X748 hx (.ref a) (dB d6_16) 17 rfl rfl rfl ?_
     refine w_dup X748 hx (dB d6_17) 18 rfl rfl ?_
     refine w_getF X748 hx hZ hown e748 (host := "") (Or.inl (tw_36 hw)) Via.refl F742 (dB d6_18) 21 rfl (fun T749 X749 e749 => ?_)
     refine w_iconst X749 hx (dB d6_21) 22 rfl (1 : Int32) (by decide) ?_
     refine w_isub X749 hx (dB d6_22) 23 rfl (show (0 : Int32) = (1 : Int32) - (1 : Int32) from by decide) ?_
     refine w_dupX1 X749 hx (dB d6_23) 24 rfl rfl rfl ?_
     refine w_putF X749 hx hZ hown e749 (host := "") (Or.inl (tw_36 hw)) Via.refl F742 F739 (Or.inl (tw_37 hw)) (tw_18 hw) (ty := .int) (by decide) rfl rfl (dB d6_24) 27 rfl (fun T750 h750 X750 e750 W750 => ?_)
     have F751 : Exa Z h750 a cN_2 := F739.wr W750
     have F752 : Fld Z h750 a cN_2 "values" cN_3 (.ref va) := F740.other W750 (Or.inr (slot_ne (Or.inr (tw_27 hw)) (Or.inl (tw_37 hw)) (by decide) (t := (.array (.object "com/example/simpagation/simpagation/Term"))) (t' := .int) (by decide) (by decide)))
     have F753 : Fld Z h750 a cN_2 "trail" "[I" (.ref ta) := F741.other W750 (Or.inr (slot_ne (Or.inr (tw_30 hw)) (Or.inl (tw_37 hw)) (by decide) (t := (.array .int)) (t' := .int) (by decide) (by decide)))
     have F754 : Fld Z h750 a cN_2 "trailSize" "I" (.int (0 : Int32)) := F742.same W750
     have F755 : Arv Z h750 va kv (.object cN_4) (3 : Int32) [(.ref vv), .null, .null] .null := F743.other W750 (Ne.symm (ne_arv F739 (tw_18 hw) F743))
     have F756 : Arv Z h750 ta kt .int (3 : Int32) [(.int (0 : Int32)), (.int (2 : Int32)), (.int (1 : Int32))] (.int (0 : Int32)) := F744.other W750 (Ne.symm (ne_arv F739 (tw_18 hw) F744))
     have Z750 : n0 ≤ h750.size := by rw [W750.size]; exact Z738
     have K750 : Keep h0 h750 [a, va] := K738.wr W750 (Or.inl (List.mem_of_getElem? (i := 0) rfl))
     have N750 := Fr.snoc X750 N738 g_a
     refine w_iaload X750 hx hZ e750 F756 ⟨by decide, by decide⟩ (v := (.int (0 : Int32))) rfl (dB d6_27) 28 rfl ?_
     refine w_null X750 hx (dB d6_28) 29 rfl ?_
     refine w_aastore X750 hx hZ e750 F755 ⟨by decide, by decide⟩ 0 (by decide) (show 0 < 3 from (by decide)) rfl (Or.inl rfl) (dB d6_29) 30 rfl (fun T757 h757 X757 e757 W757 V757 => ?_)
     have F758 : Exa Z h757 a cN_2 := F751.wr W757
     have F759 : Fld Z h757 a cN_2 "values" cN_3 (.ref va) := F752.other W757 (Or.inl (ne_arv F751 (tw_18 hw) F755))
     have F760 : Fld Z h757 a cN_2 "trail" "[I" (.ref ta) := F753.other W757 (Or.inl (ne_arv F751 (tw_18 hw) F755))
     have F761 : Fld Z h757 a cN_2 "trailSize" "I" (.int (0 : Int32)) := F754.other W757 (Or.inl (ne_arv F751 (tw_18 hw) F755))
     have F762 : Arv Z h757 va kv (.object cN_4) (3 : Int32) [.null, .null, .null] .null := V757
     have F763 : Arv Z h757 ta kt .int (3 : Int32) [(.int (0 : Int32)), (.int (2 : Int32)), (.int (1 : Int32))] (.int (0 : Int32)) := F756.other W757 (Ne.symm ne1)
     have Z757 : n0 ≤ h757.size := by rw [W757.size]; exact Z750
     have K757 : Keep h0 h757 [a, va] := K750.wr W757 (Or.inl (List.mem_of_getElem? (i := 1) rfl))
     have N757 := Fr.snoc X757 N750 g_va
     refine w_goto X757 hx (dB d6_30) 0 ?_
     refine w_aloadN X757 hx (.ref a) (dB d6_0) 1 rfl rfl rfl ?_
     refine w_getF X757 hx hZ hown e757 (host := "") (Or.inl (tw_36 hw)) Via.refl F761 (dB d6_1) 4 rfl (fun T764 X764 e764 => ?_)
     refine w_iloadN X764 hx (0 : Int32) (dB d6_4) 5 rfl rfl ?_
     refine w_icmp_le X764 hx 0 0 (by decide) (by decide) (dB d6_5) 33 8 (fun c765 => ?_) (fun c765 => ?_)
     ·refine w_ret0 X764 hx hlk hret (dB d6_33) (by decide) (by decide) ?_
      rw [e764]
      exact ⟨rfl, N757, K757, F759, F760, F761, F762, F763⟩
     ·exfalso; omega
theorem ef_6t021m1 (m : MethodId) (x0 : Addr) : entryFrame m #[(.ref x0), (.int (1 : Int32))] 2 = mkF m 0 #[.val (.ref x0), .val (.int (1 : Int32))] [] := by first | (simp [entryFrame, mkF, argsToLocals, Value.category]; done) | rfl
def Q6t021m1 (Z : State) (a : Addr) (va : Addr) (ta : Addr) (kv : ClassId) (kt : ClassId) (vv : Addr) (h0 : Heap) (n0 : Nat) (v : Option Value) (h : Heap) (L : List Loc) : Prop := v = none ∧ Fr n0 L ∧ Keep h0 h [a, va] ∧ Fld Z h a cN_2 "values" cN_3 (.ref va) ∧ Fld Z h a cN_2 "trail" "[I" (.ref ta) ∧ Fld Z h a cN_2 "trailSize" "I" (.int (1 : Int32)) ∧ Arv Z h va kv (.object cN_4) (3 : Int32) [(.ref vv), .null, .null] .null ∧ Arv Z h ta kt .int (3 : Int32) [(.int (0 : Int32)), (.int (2 : Int32)), (.int (1 : Int32))] (.int (0 : Int32))
set_option maxRecDepth 65536 in
set_option maxHeartbeats 40000000 in
theorem rm6t021m1 (l : Launch) (Z : State) (a0 : Array Value) (hw : ∀ d ∈ tables_1, d.before a0 Z = true) (ws : List Jvm.Cond) (a : Addr) (va : Addr) (ta : Addr) (kv : ClassId) (kt : ClassId) (vv : Addr) (h0 : Heap) (n0 : Nat) (Z0 : n0 ≤ h0.size) (E_a : Exa Z h0 a cN_2) (F_values_a : Fld Z h0 a cN_2 "values" cN_3 (.ref va)) (F_trail_a : Fld Z h0 a cN_2 "trail" "[I" (.ref ta)) (F_trailSize_a : Fld Z h0 a cN_2 "trailSize" "I" (.int (3 : Int32))) (V_va : Arv Z h0 va kv (.object cN_4) (3 : Int32) [(.ref vv), (.ref vv), (.ref vv)] .null) (V_ta : Arv Z h0 ta kt .int (3 : Int32) [(.int (0 : Int32)), (.int (2 : Int32)), (.int (1 : Int32))] (.int (0 : Int32))) (g_a : n0 ≤ a) (g_va : n0 ≤ va) (ne1 : va ≠ ta) (ov : Ovr Z kv "com/example/simpagation/simpagation/Term") :
    CT l mN_6 prog_1_method_7_code 2 none ws ({ frames := 0, cells := 0, slots := 0, locals := 0 } : Room) #[(.ref a), (.int (1 : Int32))] Z h0 (Q6t021m1 Z a va ta kv kt vv h0 n0) := by
  refine body_of (plainFor_of_name pn_2) ?_
  intro p e s m below meth c s₁ hx dB hret hlk hml hown0 hnm X0 e0 hZ
  have hown : s.vm.findClass cN_2 = some m.cls := hown0
  have N0 := Fr.nil n0
  rw [ef_6t021m1]
  show Wk p e below (FN s (Q6t021m1 Z a va ta kv kt vv h0 n0) 0 0) s₁ (mkF m 0 #[.val (.ref a), .val (.int (1 : Int32))] [])
  refine w_aloadN X0 hx (.ref a) (dB d6_0) 1 rfl rfl rfl ?_
  refine w_getF X0 hx hZ hown e0 (host := "") (Or.inl (tw_36 hw)) Via.refl F_trailSize_a (dB d6_1) 4 rfl (fun T766 X766 e766 => ?_)
  refine w_iloadN X766 hx (1 : Int32) (dB d6_4) 5 rfl rfl ?_
  refine w_icmp_le X766 hx 3 1 (by decide) (by decide) (dB d6_5) 33 8 (fun c767 => ?_) (fun c767 => ?_)
  ·exfalso; omega
  ·refine w_aloadN X766 hx (.ref a) (dB d6_8) 9 rfl rfl rfl ?_
   refine w_getF X766 hx hZ hown e766 (host := "") (Or.inl (tw_26 hw)) Via.refl F_values_a (dB d6_9) 12 rfl (fun T768 X768 e768 => ?_)
   refine w_aloadN X768 hx (.ref a) (dB d6_12) 13 rfl rfl rfl ?_
   refine w_getF X768 hx hZ hown e768 (host := "") (Or.inl (tw_29 hw)) Via.refl F_trail_a (dB d6_13) 16 rfl (fun T769 X769 e769 => ?_)
   refine w_aloadN X769 hx (.ref a) (dB d6_16) 17 rfl rfl rfl ?_
   refine w_dup X769 hx (dB d6_17) 18 rfl rfl ?_
   refine w_getF X769 hx hZ hown e769 (host := "") (Or.inl (tw_36 hw)) Via.refl F_trailSize_a (dB d6_18) 21 rfl (fun T770 X770 e770 => ?_)
   refine w_iconst X770 hx (dB d6_21) 22 rfl (1 : Int32) (by decide) ?_
   refine w_isub X770 hx (dB d6_22) 23 rfl (show (2 : Int32) = (3 : Int32) - (1 : Int32) from by decide) ?_
   refine w_dupX1 X770 hx (dB d6_23) 24 rfl rfl rfl ?_
   refine w_putF X770 hx hZ hown e770 (host := "") (Or.inl (tw_36 hw)) Via.refl F_trailSize_a E_a (Or.inl (tw_37 hw)) (tw_18 hw) (ty := .int) (by decide) rfl rfl (dB d6_24) 27 rfl (fun T771 h771 X771 e771 W771 => ?_)
   have F772 : Exa Z h771 a cN_2 := E_a.wr W771
   have F773 : Fld Z h771 a cN_2 "values" cN_3 (.ref va) := F_values_a.other W771 (Or.inr (slot_ne (Or.inr (tw_27 hw)) (Or.inl (tw_37 hw)) (by decide) (t := (.array (.object "com/example/simpagation/simpagation/Term"))) (t' := .int) (by decide) (by decide)))
   have F774 : Fld Z h771 a cN_2 "trail" "[I" (.ref ta) := F_trail_a.other W771 (Or.inr (slot_ne (Or.inr (tw_30 hw)) (Or.inl (tw_37 hw)) (by decide) (t := (.array .int)) (t' := .int) (by decide) (by decide)))
   have F775 : Fld Z h771 a cN_2 "trailSize" "I" (.int (2 : Int32)) := F_trailSize_a.same W771
   have F776 : Arv Z h771 va kv (.object cN_4) (3 : Int32) [(.ref vv), (.ref vv), (.ref vv)] .null := V_va.other W771 (Ne.symm (ne_arv E_a (tw_18 hw) V_va))
   have F777 : Arv Z h771 ta kt .int (3 : Int32) [(.int (0 : Int32)), (.int (2 : Int32)), (.int (1 : Int32))] (.int (0 : Int32)) := V_ta.other W771 (Ne.symm (ne_arv E_a (tw_18 hw) V_ta))
   have Z771 : n0 ≤ h771.size := by rw [W771.size]; exact Z0
   have K771 : Keep h0 h771 [a, va] := (Keep.refl h0 [a, va]).wr W771 (Or.inl (List.mem_of_getElem? (i := 0) rfl))
   have N771 := Fr.snoc X771 N0 g_a
   refine w_iaload X771 hx hZ e771 F777 ⟨by decide, by decide⟩ (v := (.int (1 : Int32))) rfl (dB d6_27) 28 rfl ?_
   refine w_null X771 hx (dB d6_28) 29 rfl ?_
   refine w_aastore X771 hx hZ e771 F776 ⟨by decide, by decide⟩ 1 (by decide) (show 1 < 3 from (by decide)) rfl (Or.inl rfl) (dB d6_29) 30 rfl (fun T778 h778 X778 e778 W778 V778 => ?_)
   have F779 : Exa Z h778 a cN_2 := F772.wr W778
   have F780 : Fld Z h778 a cN_2 "values" cN_3 (.ref va) := F773.other W778 (Or.inl (ne_arv F772 (tw_18 hw) F776))
   have F781 : Fld Z h778 a cN_2 "trail" "[I" (.ref ta) := F774.other W778 (Or.inl (ne_arv F772 (tw_18 hw) F776))
   have F782 : Fld Z h778 a cN_2 "trailSize" "I" (.int (2 : Int32)) := F775.other W778 (Or.inl (ne_arv F772 (tw_18 hw) F776))
   have F783 : Arv Z h778 va kv (.object cN_4) (3 : Int32) [(.ref vv), .null, (.ref vv)] .null := V778
   have F784 : Arv Z h778 ta kt .int (3 : Int32) [(.int (0 : Int32)), (.int (2 : Int32)), (.int (1 : Int32))] (.int (0 : Int32)) := F777.other W778 (Ne.symm ne1)
   have Z778 : n0 ≤ h778.size := by rw [W778.size]; exact Z771
   have K778 : Keep h0 h778 [a, va] := K771.wr W778 (Or.inl (List.mem_of_getElem? (i := 1) rfl))
   have N778 := Fr.snoc X778 N771 g_va
   refine w_goto X778 hx (dB d6_30) 0 ?_
   refine w_aloadN X778 hx (.ref a) (dB d6_0) 1 rfl rfl rfl ?_
   refine w_getF X778 hx hZ hown e778 (host := "") (Or.inl (tw_36 hw)) Via.refl F782 (dB d6_1) 4 rfl (fun T785 X785 e785 => ?_)
   refine w_iloadN X785 hx (1 : Int32) (dB d6_4) 5 rfl rfl ?_
   refine w_icmp_le X785 hx 2 1 (by decide) (by decide) (dB d6_5) 33 8 (fun c786 => ?_) (fun c786 => ?_)
   ·exfalso; omega
   ·refine w_aloadN X785 hx (.ref a) (dB d6_8) 9 rfl rfl rfl ?_
    refine w_getF X785 hx hZ hown e785 (host := "") (Or.inl (tw_26 hw)) Via.refl F780 (dB d6_9) 12 rfl (fun T787 X787 e787 => ?_)
    refine w_aloadN X787 hx (.ref a) (dB d6_12) 13 rfl rfl rfl ?_
    refine w_getF X787 hx hZ hown e787 (host := "") (Or.inl (tw_29 hw)) Via.refl F781 (dB d6_13) 16 rfl (fun T788 X788 e788 => ?_)
    refine w_aloadN X788 hx (.ref a) (dB d6_16) 17 rfl rfl rfl ?_
    refine w_dup X788 hx (dB d6_17) 18 rfl rfl ?_
    refine w_getF X788 hx hZ hown e788 (host := "") (Or.inl (tw_36 hw)) Via.refl F782 (dB d6_18) 21 rfl (fun T789 X789 e789 => ?_)
    refine w_iconst X789 hx (dB d6_21) 22 rfl (1 : Int32) (by decide) ?_
    refine w_isub X789 hx (dB d6_22) 23 rfl (show (1 : Int32) = (2 : Int32) - (1 : Int32) from by decide) ?_
    refine w_dupX1 X789 hx (dB d6_23) 24 rfl rfl rfl ?_
    refine w_putF X789 hx hZ hown e789 (host := "") (Or.inl (tw_36 hw)) Via.refl F782 F779 (Or.inl (tw_37 hw)) (tw_18 hw) (ty := .int) (by decide) rfl rfl (dB d6_24) 27 rfl (fun T790 h790 X790 e790 W790 => ?_)
    have F791 : Exa Z h790 a cN_2 := F779.wr W790
    have F792 : Fld Z h790 a cN_2 "values" cN_3 (.ref va) := F780.other W790 (Or.inr (slot_ne (Or.inr (tw_27 hw)) (Or.inl (tw_37 hw)) (by decide) (t := (.array (.object "com/example/simpagation/simpagation/Term"))) (t' := .int) (by decide) (by decide)))
    have F793 : Fld Z h790 a cN_2 "trail" "[I" (.ref ta) := F781.other W790 (Or.inr (slot_ne (Or.inr (tw_30 hw)) (Or.inl (tw_37 hw)) (by decide) (t := (.array .int)) (t' := .int) (by decide) (by decide)))
    have F794 : Fld Z h790 a cN_2 "trailSize" "I" (.int (1 : Int32)) := F782.same W790
    have F795 : Arv Z h790 va kv (.object cN_4) (3 : Int32) [(.ref vv), .null, (.ref vv)] .null := F783.other W790 (Ne.symm (ne_arv F779 (tw_18 hw) F783))
    have F796 : Arv Z h790 ta kt .int (3 : Int32) [(.int (0 : Int32)), (.int (2 : Int32)), (.int (1 : Int32))] (.int (0 : Int32)) := F784.other W790 (Ne.symm (ne_arv F779 (tw_18 hw) F784))
    have Z790 : n0 ≤ h790.size := by rw [W790.size]; exact Z778
    have K790 : Keep h0 h790 [a, va] := K778.wr W790 (Or.inl (List.mem_of_getElem? (i := 0) rfl))
    have N790 := Fr.snoc X790 N778 g_a
    refine w_iaload X790 hx hZ e790 F796 ⟨by decide, by decide⟩ (v := (.int (2 : Int32))) rfl (dB d6_27) 28 rfl ?_
    refine w_null X790 hx (dB d6_28) 29 rfl ?_
    refine w_aastore X790 hx hZ e790 F795 ⟨by decide, by decide⟩ 2 (by decide) (show 2 < 3 from (by decide)) rfl (Or.inl rfl) (dB d6_29) 30 rfl (fun T797 h797 X797 e797 W797 V797 => ?_)
    have F798 : Exa Z h797 a cN_2 := F791.wr W797
    have F799 : Fld Z h797 a cN_2 "values" cN_3 (.ref va) := F792.other W797 (Or.inl (ne_arv F791 (tw_18 hw) F795))
    have F800 : Fld Z h797 a cN_2 "trail" "[I" (.ref ta) := F793.other W797 (Or.inl (ne_arv F791 (tw_18 hw) F795))
    have F801 : Fld Z h797 a cN_2 "trailSize" "I" (.int (1 : Int32)) := F794.other W797 (Or.inl (ne_arv F791 (tw_18 hw) F795))
    have F802 : Arv Z h797 va kv (.object cN_4) (3 : Int32) [(.ref vv), .null, .null] .null := V797
    have F803 : Arv Z h797 ta kt .int (3 : Int32) [(.int (0 : Int32)), (.int (2 : Int32)), (.int (1 : Int32))] (.int (0 : Int32)) := F796.other W797 (Ne.symm ne1)
    have Z797 : n0 ≤ h797.size := by rw [W797.size]; exact Z790
    have K797 : Keep h0 h797 [a, va] := K790.wr W797 (Or.inl (List.mem_of_getElem? (i := 1) rfl))
    have N797 := Fr.snoc X797 N790 g_va
    refine w_goto X797 hx (dB d6_30) 0 ?_
    refine w_aloadN X797 hx (.ref a) (dB d6_0) 1 rfl rfl rfl ?_
    refine w_getF X797 hx hZ hown e797 (host := "") (Or.inl (tw_36 hw)) Via.refl F801 (dB d6_1) 4 rfl (fun T804 X804 e804 => ?_)
    refine w_iloadN X804 hx (1 : Int32) (dB d6_4) 5 rfl rfl ?_
    refine w_icmp_le X804 hx 1 1 (by decide) (by decide) (dB d6_5) 33 8 (fun c805 => ?_) (fun c805 => ?_)
    ·refine w_ret0 X804 hx hlk hret (dB d6_33) (by decide) (by decide) ?_
     rw [e804]
     exact ⟨rfl, N797, K797, F799, F800, F801, F802, F803⟩
    ·exfalso; omega
theorem ef_6t021m2 (m : MethodId) (x0 : Addr) : entryFrame m #[(.ref x0), (.int (2 : Int32))] 2 = mkF m 0 #[.val (.ref x0), .val (.int (2 : Int32))] [] := by first | (simp [entryFrame, mkF, argsToLocals, Value.category]; done) | rfl
def Q6t021m2 (Z : State) (a : Addr) (va : Addr) (ta : Addr) (kv : ClassId) (kt : ClassId) (vv : Addr) (h0 : Heap) (n0 : Nat) (v : Option Value) (h : Heap) (L : List Loc) : Prop := v = none ∧ Fr n0 L ∧ Keep h0 h [a, va] ∧ Fld Z h a cN_2 "values" cN_3 (.ref va) ∧ Fld Z h a cN_2 "trail" "[I" (.ref ta) ∧ Fld Z h a cN_2 "trailSize" "I" (.int (2 : Int32)) ∧ Arv Z h va kv (.object cN_4) (3 : Int32) [(.ref vv), .null, (.ref vv)] .null ∧ Arv Z h ta kt .int (3 : Int32) [(.int (0 : Int32)), (.int (2 : Int32)), (.int (1 : Int32))] (.int (0 : Int32))
set_option maxRecDepth 65536 in
set_option maxHeartbeats 40000000 in
theorem rm6t021m2 (l : Launch) (Z : State) (a0 : Array Value) (hw : ∀ d ∈ tables_1, d.before a0 Z = true) (ws : List Jvm.Cond) (a : Addr) (va : Addr) (ta : Addr) (kv : ClassId) (kt : ClassId) (vv : Addr) (h0 : Heap) (n0 : Nat) (Z0 : n0 ≤ h0.size) (E_a : Exa Z h0 a cN_2) (F_values_a : Fld Z h0 a cN_2 "values" cN_3 (.ref va)) (F_trail_a : Fld Z h0 a cN_2 "trail" "[I" (.ref ta)) (F_trailSize_a : Fld Z h0 a cN_2 "trailSize" "I" (.int (3 : Int32))) (V_va : Arv Z h0 va kv (.object cN_4) (3 : Int32) [(.ref vv), (.ref vv), (.ref vv)] .null) (V_ta : Arv Z h0 ta kt .int (3 : Int32) [(.int (0 : Int32)), (.int (2 : Int32)), (.int (1 : Int32))] (.int (0 : Int32))) (g_a : n0 ≤ a) (g_va : n0 ≤ va) (ne1 : va ≠ ta) (ov : Ovr Z kv "com/example/simpagation/simpagation/Term") :
    CT l mN_6 prog_1_method_7_code 2 none ws ({ frames := 0, cells := 0, slots := 0, locals := 0 } : Room) #[(.ref a), (.int (2 : Int32))] Z h0 (Q6t021m2 Z a va ta kv kt vv h0 n0) := by
  refine body_of (plainFor_of_name pn_2) ?_
  intro p e s m below meth c s₁ hx dB hret hlk hml hown0 hnm X0 e0 hZ
  have hown : s.vm.findClass cN_2 = some m.cls := hown0
  have N0 := Fr.nil n0
  rw [ef_6t021m2]
  show Wk p e below (FN s (Q6t021m2 Z a va ta kv kt vv h0 n0) 0 0) s₁ (mkF m 0 #[.val (.ref a), .val (.int (2 : Int32))] [])
  refine w_aloadN X0 hx (.ref a) (dB d6_0) 1 rfl rfl rfl ?_
  refine w_getF X0 hx hZ hown e0 (host := "") (Or.inl (tw_36 hw)) Via.refl F_trailSize_a (dB d6_1) 4 rfl (fun T806 X806 e806 => ?_)
  refine w_iloadN X806 hx (2 : Int32) (dB d6_4) 5 rfl rfl ?_
  refine w_icmp_le X806 hx 3 2 (by decide) (by decide) (dB d6_5) 33 8 (fun c807 => ?_) (fun c807 => ?_)
  ·exfalso; omega
  ·refine w_aloadN X806 hx (.ref a) (dB d6_8) 9 rfl rfl rfl ?_
   refine w_getF X806 hx hZ hown e806 (host := "") (Or.inl (tw_26 hw)) Via.refl F_values_a (dB d6_9) 12 rfl (fun T808 X808 e808 => ?_)
   refine w_aloadN X808 hx (.ref a) (dB d6_12) 13 rfl rfl rfl ?_
   refine w_getF X808 hx hZ hown e808 (host := "") (Or.inl (tw_29 hw)) Via.refl F_trail_a (dB d6_13) 16 rfl (fun T809 X809 e809 => ?_)
   refine w_aloadN X809 hx (.ref a) (dB d6_16) 17 rfl rfl rfl ?_
   refine w_dup X809 hx (dB d6_17) 18 rfl rfl ?_
   refine w_getF X809 hx hZ hown e809 (host := "") (Or.inl (tw_36 hw)) Via.refl F_trailSize_a (dB d6_18) 21 rfl (fun T810 X810 e810 => ?_)
   refine w_iconst X810 hx (dB d6_21) 22 rfl (1 : Int32) (by decide) ?_
   refine w_isub X810 hx (dB d6_22) 23 rfl (show (2 : Int32) = (3 : Int32) - (1 : Int32) from by decide) ?_
   refine w_dupX1 X810 hx (dB d6_23) 24 rfl rfl rfl ?_
   refine w_putF X810 hx hZ hown e810 (host := "") (Or.inl (tw_36 hw)) Via.refl F_trailSize_a E_a (Or.inl (tw_37 hw)) (tw_18 hw) (ty := .int) (by decide) rfl rfl (dB d6_24) 27 rfl (fun T811 h811 X811 e811 W811 => ?_)
   have F812 : Exa Z h811 a cN_2 := E_a.wr W811
   have F813 : Fld Z h811 a cN_2 "values" cN_3 (.ref va) := F_values_a.other W811 (Or.inr (slot_ne (Or.inr (tw_27 hw)) (Or.inl (tw_37 hw)) (by decide) (t := (.array (.object "com/example/simpagation/simpagation/Term"))) (t' := .int) (by decide) (by decide)))
   have F814 : Fld Z h811 a cN_2 "trail" "[I" (.ref ta) := F_trail_a.other W811 (Or.inr (slot_ne (Or.inr (tw_30 hw)) (Or.inl (tw_37 hw)) (by decide) (t := (.array .int)) (t' := .int) (by decide) (by decide)))
   have F815 : Fld Z h811 a cN_2 "trailSize" "I" (.int (2 : Int32)) := F_trailSize_a.same W811
   have F816 : Arv Z h811 va kv (.object cN_4) (3 : Int32) [(.ref vv), (.ref vv), (.ref vv)] .null := V_va.other W811 (Ne.symm (ne_arv E_a (tw_18 hw) V_va))
   have F817 : Arv Z h811 ta kt .int (3 : Int32) [(.int (0 : Int32)), (.int (2 : Int32)), (.int (1 : Int32))] (.int (0 : Int32)) := V_ta.other W811 (Ne.symm (ne_arv E_a (tw_18 hw) V_ta))
   have Z811 : n0 ≤ h811.size := by rw [W811.size]; exact Z0
   have K811 : Keep h0 h811 [a, va] := (Keep.refl h0 [a, va]).wr W811 (Or.inl (List.mem_of_getElem? (i := 0) rfl))
   have N811 := Fr.snoc X811 N0 g_a
   refine w_iaload X811 hx hZ e811 F817 ⟨by decide, by decide⟩ (v := (.int (1 : Int32))) rfl (dB d6_27) 28 rfl ?_
   refine w_null X811 hx (dB d6_28) 29 rfl ?_
   refine w_aastore X811 hx hZ e811 F816 ⟨by decide, by decide⟩ 1 (by decide) (show 1 < 3 from (by decide)) rfl (Or.inl rfl) (dB d6_29) 30 rfl (fun T818 h818 X818 e818 W818 V818 => ?_)
   have F819 : Exa Z h818 a cN_2 := F812.wr W818
   have F820 : Fld Z h818 a cN_2 "values" cN_3 (.ref va) := F813.other W818 (Or.inl (ne_arv F812 (tw_18 hw) F816))
   have F821 : Fld Z h818 a cN_2 "trail" "[I" (.ref ta) := F814.other W818 (Or.inl (ne_arv F812 (tw_18 hw) F816))
   have F822 : Fld Z h818 a cN_2 "trailSize" "I" (.int (2 : Int32)) := F815.other W818 (Or.inl (ne_arv F812 (tw_18 hw) F816))
   have F823 : Arv Z h818 va kv (.object cN_4) (3 : Int32) [(.ref vv), .null, (.ref vv)] .null := V818
   have F824 : Arv Z h818 ta kt .int (3 : Int32) [(.int (0 : Int32)), (.int (2 : Int32)), (.int (1 : Int32))] (.int (0 : Int32)) := F817.other W818 (Ne.symm ne1)
   have Z818 : n0 ≤ h818.size := by rw [W818.size]; exact Z811
   have K818 : Keep h0 h818 [a, va] := K811.wr W818 (Or.inl (List.mem_of_getElem? (i := 1) rfl))
   have N818 := Fr.snoc X818 N811 g_va
   refine w_goto X818 hx (dB d6_30) 0 ?_
   refine w_aloadN X818 hx (.ref a) (dB d6_0) 1 rfl rfl rfl ?_
   refine w_getF X818 hx hZ hown e818 (host := "") (Or.inl (tw_36 hw)) Via.refl F822 (dB d6_1) 4 rfl (fun T825 X825 e825 => ?_)
   refine w_iloadN X825 hx (2 : Int32) (dB d6_4) 5 rfl rfl ?_
   refine w_icmp_le X825 hx 2 2 (by decide) (by decide) (dB d6_5) 33 8 (fun c826 => ?_) (fun c826 => ?_)
   ·refine w_ret0 X825 hx hlk hret (dB d6_33) (by decide) (by decide) ?_
    rw [e825]
    exact ⟨rfl, N818, K818, F820, F821, F822, F823, F824⟩
   ·exfalso; omega
theorem ef_6t1m0 (m : MethodId) (x0 : Addr) : entryFrame m #[(.ref x0), (.int (0 : Int32))] 2 = mkF m 0 #[.val (.ref x0), .val (.int (0 : Int32))] [] := by first | (simp [entryFrame, mkF, argsToLocals, Value.category]; done) | rfl
def Q6t1m0 (Z : State) (a : Addr) (va : Addr) (ta : Addr) (kv : ClassId) (kt : ClassId) (vv : Addr) (h0 : Heap) (n0 : Nat) (v : Option Value) (h : Heap) (L : List Loc) : Prop := v = none ∧ Fr n0 L ∧ Keep h0 h [a, va] ∧ Fld Z h a cN_2 "values" cN_3 (.ref va) ∧ Fld Z h a cN_2 "trail" "[I" (.ref ta) ∧ Fld Z h a cN_2 "trailSize" "I" (.int (0 : Int32)) ∧ Arv Z h va kv (.object cN_4) (3 : Int32) [.null, .null, .null] .null ∧ Arv Z h ta kt .int (3 : Int32) [(.int (1 : Int32)), (.int (0 : Int32)), (.int (0 : Int32))] (.int (0 : Int32))
set_option maxRecDepth 65536 in
set_option maxHeartbeats 40000000 in
theorem rm6t1m0 (l : Launch) (Z : State) (a0 : Array Value) (hw : ∀ d ∈ tables_1, d.before a0 Z = true) (ws : List Jvm.Cond) (a : Addr) (va : Addr) (ta : Addr) (kv : ClassId) (kt : ClassId) (vv : Addr) (h0 : Heap) (n0 : Nat) (Z0 : n0 ≤ h0.size) (E_a : Exa Z h0 a cN_2) (F_values_a : Fld Z h0 a cN_2 "values" cN_3 (.ref va)) (F_trail_a : Fld Z h0 a cN_2 "trail" "[I" (.ref ta)) (F_trailSize_a : Fld Z h0 a cN_2 "trailSize" "I" (.int (1 : Int32))) (V_va : Arv Z h0 va kv (.object cN_4) (3 : Int32) [.null, (.ref vv), .null] .null) (V_ta : Arv Z h0 ta kt .int (3 : Int32) [(.int (1 : Int32)), (.int (0 : Int32)), (.int (0 : Int32))] (.int (0 : Int32))) (g_a : n0 ≤ a) (g_va : n0 ≤ va) (ne1 : va ≠ ta) (ov : Ovr Z kv "com/example/simpagation/simpagation/Term") :
    CT l mN_6 prog_1_method_7_code 2 none ws ({ frames := 0, cells := 0, slots := 0, locals := 0 } : Room) #[(.ref a), (.int (0 : Int32))] Z h0 (Q6t1m0 Z a va ta kv kt vv h0 n0) := by
  refine body_of (plainFor_of_name pn_2) ?_
  intro p e s m below meth c s₁ hx dB hret hlk hml hown0 hnm X0 e0 hZ
  have hown : s.vm.findClass cN_2 = some m.cls := hown0
  have N0 := Fr.nil n0
  rw [ef_6t1m0]
  show Wk p e below (FN s (Q6t1m0 Z a va ta kv kt vv h0 n0) 0 0) s₁ (mkF m 0 #[.val (.ref a), .val (.int (0 : Int32))] [])
  refine w_aloadN X0 hx (.ref a) (dB d6_0) 1 rfl rfl rfl ?_
  refine w_getF X0 hx hZ hown e0 (host := "") (Or.inl (tw_36 hw)) Via.refl F_trailSize_a (dB d6_1) 4 rfl (fun T827 X827 e827 => ?_)
  refine w_iloadN X827 hx (0 : Int32) (dB d6_4) 5 rfl rfl ?_
  refine w_icmp_le X827 hx 1 0 (by decide) (by decide) (dB d6_5) 33 8 (fun c828 => ?_) (fun c828 => ?_)
  ·exfalso; omega
  ·refine w_aloadN X827 hx (.ref a) (dB d6_8) 9 rfl rfl rfl ?_
   refine w_getF X827 hx hZ hown e827 (host := "") (Or.inl (tw_26 hw)) Via.refl F_values_a (dB d6_9) 12 rfl (fun T829 X829 e829 => ?_)
   refine w_aloadN X829 hx (.ref a) (dB d6_12) 13 rfl rfl rfl ?_
   refine w_getF X829 hx hZ hown e829 (host := "") (Or.inl (tw_29 hw)) Via.refl F_trail_a (dB d6_13) 16 rfl (fun T830 X830 e830 => ?_)
   refine w_aloadN X830 hx (.ref a) (dB d6_16) 17 rfl rfl rfl ?_
   refine w_dup X830 hx (dB d6_17) 18 rfl rfl ?_
   refine w_getF X830 hx hZ hown e830 (host := "") (Or.inl (tw_36 hw)) Via.refl F_trailSize_a (dB d6_18) 21 rfl (fun T831 X831 e831 => ?_)
   refine w_iconst X831 hx (dB d6_21) 22 rfl (1 : Int32) (by decide) ?_
   refine w_isub X831 hx (dB d6_22) 23 rfl (show (0 : Int32) = (1 : Int32) - (1 : Int32) from by decide) ?_
   refine w_dupX1 X831 hx (dB d6_23) 24 rfl rfl rfl ?_
   refine w_putF X831 hx hZ hown e831 (host := "") (Or.inl (tw_36 hw)) Via.refl F_trailSize_a E_a (Or.inl (tw_37 hw)) (tw_18 hw) (ty := .int) (by decide) rfl rfl (dB d6_24) 27 rfl (fun T832 h832 X832 e832 W832 => ?_)
   have F833 : Exa Z h832 a cN_2 := E_a.wr W832
   have F834 : Fld Z h832 a cN_2 "values" cN_3 (.ref va) := F_values_a.other W832 (Or.inr (slot_ne (Or.inr (tw_27 hw)) (Or.inl (tw_37 hw)) (by decide) (t := (.array (.object "com/example/simpagation/simpagation/Term"))) (t' := .int) (by decide) (by decide)))
   have F835 : Fld Z h832 a cN_2 "trail" "[I" (.ref ta) := F_trail_a.other W832 (Or.inr (slot_ne (Or.inr (tw_30 hw)) (Or.inl (tw_37 hw)) (by decide) (t := (.array .int)) (t' := .int) (by decide) (by decide)))
   have F836 : Fld Z h832 a cN_2 "trailSize" "I" (.int (0 : Int32)) := F_trailSize_a.same W832
   have F837 : Arv Z h832 va kv (.object cN_4) (3 : Int32) [.null, (.ref vv), .null] .null := V_va.other W832 (Ne.symm (ne_arv E_a (tw_18 hw) V_va))
   have F838 : Arv Z h832 ta kt .int (3 : Int32) [(.int (1 : Int32)), (.int (0 : Int32)), (.int (0 : Int32))] (.int (0 : Int32)) := V_ta.other W832 (Ne.symm (ne_arv E_a (tw_18 hw) V_ta))
   have Z832 : n0 ≤ h832.size := by rw [W832.size]; exact Z0
   have K832 : Keep h0 h832 [a, va] := (Keep.refl h0 [a, va]).wr W832 (Or.inl (List.mem_of_getElem? (i := 0) rfl))
   have N832 := Fr.snoc X832 N0 g_a
   refine w_iaload X832 hx hZ e832 F838 ⟨by decide, by decide⟩ (v := (.int (1 : Int32))) rfl (dB d6_27) 28 rfl ?_
   refine w_null X832 hx (dB d6_28) 29 rfl ?_
   refine w_aastore X832 hx hZ e832 F837 ⟨by decide, by decide⟩ 1 (by decide) (show 1 < 3 from (by decide)) rfl (Or.inl rfl) (dB d6_29) 30 rfl (fun T839 h839 X839 e839 W839 V839 => ?_)
   have F840 : Exa Z h839 a cN_2 := F833.wr W839
   have F841 : Fld Z h839 a cN_2 "values" cN_3 (.ref va) := F834.other W839 (Or.inl (ne_arv F833 (tw_18 hw) F837))
   have F842 : Fld Z h839 a cN_2 "trail" "[I" (.ref ta) := F835.other W839 (Or.inl (ne_arv F833 (tw_18 hw) F837))
   have F843 : Fld Z h839 a cN_2 "trailSize" "I" (.int (0 : Int32)) := F836.other W839 (Or.inl (ne_arv F833 (tw_18 hw) F837))
   have F844 : Arv Z h839 va kv (.object cN_4) (3 : Int32) [.null, .null, .null] .null := V839
   have F845 : Arv Z h839 ta kt .int (3 : Int32) [(.int (1 : Int32)), (.int (0 : Int32)), (.int (0 : Int32))] (.int (0 : Int32)) := F838.other W839 (Ne.symm ne1)
   have Z839 : n0 ≤ h839.size := by rw [W839.size]; exact Z832
   have K839 : Keep h0 h839 [a, va] := K832.wr W839 (Or.inl (List.mem_of_getElem? (i := 1) rfl))
   have N839 := Fr.snoc X839 N832 g_va
   refine w_goto X839 hx (dB d6_30) 0 ?_
   refine w_aloadN X839 hx (.ref a) (dB d6_0) 1 rfl rfl rfl ?_
   refine w_getF X839 hx hZ hown e839 (host := "") (Or.inl (tw_36 hw)) Via.refl F843 (dB d6_1) 4 rfl (fun T846 X846 e846 => ?_)
   refine w_iloadN X846 hx (0 : Int32) (dB d6_4) 5 rfl rfl ?_
   refine w_icmp_le X846 hx 0 0 (by decide) (by decide) (dB d6_5) 33 8 (fun c847 => ?_) (fun c847 => ?_)
   ·refine w_ret0 X846 hx hlk hret (dB d6_33) (by decide) (by decide) ?_
    rw [e846]
    exact ⟨rfl, N839, K839, F841, F842, F843, F844, F845⟩
   ·exfalso; omega
theorem ef_6t10m0 (m : MethodId) (x0 : Addr) : entryFrame m #[(.ref x0), (.int (0 : Int32))] 2 = mkF m 0 #[.val (.ref x0), .val (.int (0 : Int32))] [] := by first | (simp [entryFrame, mkF, argsToLocals, Value.category]; done) | rfl
def Q6t10m0 (Z : State) (a : Addr) (va : Addr) (ta : Addr) (kv : ClassId) (kt : ClassId) (vv : Addr) (h0 : Heap) (n0 : Nat) (v : Option Value) (h : Heap) (L : List Loc) : Prop := v = none ∧ Fr n0 L ∧ Keep h0 h [a, va] ∧ Fld Z h a cN_2 "values" cN_3 (.ref va) ∧ Fld Z h a cN_2 "trail" "[I" (.ref ta) ∧ Fld Z h a cN_2 "trailSize" "I" (.int (0 : Int32)) ∧ Arv Z h va kv (.object cN_4) (3 : Int32) [.null, .null, .null] .null ∧ Arv Z h ta kt .int (3 : Int32) [(.int (1 : Int32)), (.int (0 : Int32)), (.int (0 : Int32))] (.int (0 : Int32))
set_option maxRecDepth 65536 in
set_option maxHeartbeats 40000000 in
theorem rm6t10m0 (l : Launch) (Z : State) (a0 : Array Value) (hw : ∀ d ∈ tables_1, d.before a0 Z = true) (ws : List Jvm.Cond) (a : Addr) (va : Addr) (ta : Addr) (kv : ClassId) (kt : ClassId) (vv : Addr) (h0 : Heap) (n0 : Nat) (Z0 : n0 ≤ h0.size) (E_a : Exa Z h0 a cN_2) (F_values_a : Fld Z h0 a cN_2 "values" cN_3 (.ref va)) (F_trail_a : Fld Z h0 a cN_2 "trail" "[I" (.ref ta)) (F_trailSize_a : Fld Z h0 a cN_2 "trailSize" "I" (.int (2 : Int32))) (V_va : Arv Z h0 va kv (.object cN_4) (3 : Int32) [(.ref vv), (.ref vv), .null] .null) (V_ta : Arv Z h0 ta kt .int (3 : Int32) [(.int (1 : Int32)), (.int (0 : Int32)), (.int (0 : Int32))] (.int (0 : Int32))) (g_a : n0 ≤ a) (g_va : n0 ≤ va) (ne1 : va ≠ ta) (ov : Ovr Z kv "com/example/simpagation/simpagation/Term") :
    CT l mN_6 prog_1_method_7_code 2 none ws ({ frames := 0, cells := 0, slots := 0, locals := 0 } : Room) #[(.ref a), (.int (0 : Int32))] Z h0 (Q6t10m0 Z a va ta kv kt vv h0 n0) := by
  refine body_of (plainFor_of_name pn_2) ?_
  intro p e s m below meth c s₁ hx dB hret hlk hml hown0 hnm X0 e0 hZ
  have hown : s.vm.findClass cN_2 = some m.cls := hown0
  have N0 := Fr.nil n0
  rw [ef_6t10m0]
  show Wk p e below (FN s (Q6t10m0 Z a va ta kv kt vv h0 n0) 0 0) s₁ (mkF m 0 #[.val (.ref a), .val (.int (0 : Int32))] [])
  refine w_aloadN X0 hx (.ref a) (dB d6_0) 1 rfl rfl rfl ?_
  refine w_getF X0 hx hZ hown e0 (host := "") (Or.inl (tw_36 hw)) Via.refl F_trailSize_a (dB d6_1) 4 rfl (fun T848 X848 e848 => ?_)
  refine w_iloadN X848 hx (0 : Int32) (dB d6_4) 5 rfl rfl ?_
  refine w_icmp_le X848 hx 2 0 (by decide) (by decide) (dB d6_5) 33 8 (fun c849 => ?_) (fun c849 => ?_)
  ·exfalso; omega
  ·refine w_aloadN X848 hx (.ref a) (dB d6_8) 9 rfl rfl rfl ?_
   refine w_getF X848 hx hZ hown e848 (host := "") (Or.inl (tw_26 hw)) Via.refl F_values_a (dB d6_9) 12 rfl (fun T850 X850 e850 => ?_)
   refine w_aloadN X850 hx (.ref a) (dB d6_12) 13 rfl rfl rfl ?_
   refine w_getF X850 hx hZ hown e850 (host := "") (Or.inl (tw_29 hw)) Via.refl F_trail_a (dB d6_13) 16 rfl (fun T851 X851 e851 => ?_)
   refine w_aloadN X851 hx (.ref a) (dB d6_16) 17 rfl rfl rfl ?_
   refine w_dup X851 hx (dB d6_17) 18 rfl rfl ?_
   refine w_getF X851 hx hZ hown e851 (host := "") (Or.inl (tw_36 hw)) Via.refl F_trailSize_a (dB d6_18) 21 rfl (fun T852 X852 e852 => ?_)
   refine w_iconst X852 hx (dB d6_21) 22 rfl (1 : Int32) (by decide) ?_
   refine w_isub X852 hx (dB d6_22) 23 rfl (show (1 : Int32) = (2 : Int32) - (1 : Int32) from by decide) ?_
   refine w_dupX1 X852 hx (dB d6_23) 24 rfl rfl rfl ?_
   refine w_putF X852 hx hZ hown e852 (host := "") (Or.inl (tw_36 hw)) Via.refl F_trailSize_a E_a (Or.inl (tw_37 hw)) (tw_18 hw) (ty := .int) (by decide) rfl rfl (dB d6_24) 27 rfl (fun T853 h853 X853 e853 W853 => ?_)
   have F854 : Exa Z h853 a cN_2 := E_a.wr W853
   have F855 : Fld Z h853 a cN_2 "values" cN_3 (.ref va) := F_values_a.other W853 (Or.inr (slot_ne (Or.inr (tw_27 hw)) (Or.inl (tw_37 hw)) (by decide) (t := (.array (.object "com/example/simpagation/simpagation/Term"))) (t' := .int) (by decide) (by decide)))
   have F856 : Fld Z h853 a cN_2 "trail" "[I" (.ref ta) := F_trail_a.other W853 (Or.inr (slot_ne (Or.inr (tw_30 hw)) (Or.inl (tw_37 hw)) (by decide) (t := (.array .int)) (t' := .int) (by decide) (by decide)))
   have F857 : Fld Z h853 a cN_2 "trailSize" "I" (.int (1 : Int32)) := F_trailSize_a.same W853
   have F858 : Arv Z h853 va kv (.object cN_4) (3 : Int32) [(.ref vv), (.ref vv), .null] .null := V_va.other W853 (Ne.symm (ne_arv E_a (tw_18 hw) V_va))
   have F859 : Arv Z h853 ta kt .int (3 : Int32) [(.int (1 : Int32)), (.int (0 : Int32)), (.int (0 : Int32))] (.int (0 : Int32)) := V_ta.other W853 (Ne.symm (ne_arv E_a (tw_18 hw) V_ta))
   have Z853 : n0 ≤ h853.size := by rw [W853.size]; exact Z0
   have K853 : Keep h0 h853 [a, va] := (Keep.refl h0 [a, va]).wr W853 (Or.inl (List.mem_of_getElem? (i := 0) rfl))
   have N853 := Fr.snoc X853 N0 g_a
   refine w_iaload X853 hx hZ e853 F859 ⟨by decide, by decide⟩ (v := (.int (0 : Int32))) rfl (dB d6_27) 28 rfl ?_
   refine w_null X853 hx (dB d6_28) 29 rfl ?_
   refine w_aastore X853 hx hZ e853 F858 ⟨by decide, by decide⟩ 0 (by decide) (show 0 < 3 from (by decide)) rfl (Or.inl rfl) (dB d6_29) 30 rfl (fun T860 h860 X860 e860 W860 V860 => ?_)
   have F861 : Exa Z h860 a cN_2 := F854.wr W860
   have F862 : Fld Z h860 a cN_2 "values" cN_3 (.ref va) := F855.other W860 (Or.inl (ne_arv F854 (tw_18 hw) F858))
   have F863 : Fld Z h860 a cN_2 "trail" "[I" (.ref ta) := F856.other W860 (Or.inl (ne_arv F854 (tw_18 hw) F858))
   have F864 : Fld Z h860 a cN_2 "trailSize" "I" (.int (1 : Int32)) := F857.other W860 (Or.inl (ne_arv F854 (tw_18 hw) F858))
   have F865 : Arv Z h860 va kv (.object cN_4) (3 : Int32) [.null, (.ref vv), .null] .null := V860
   have F866 : Arv Z h860 ta kt .int (3 : Int32) [(.int (1 : Int32)), (.int (0 : Int32)), (.int (0 : Int32))] (.int (0 : Int32)) := F859.other W860 (Ne.symm ne1)
   have Z860 : n0 ≤ h860.size := by rw [W860.size]; exact Z853
   have K860 : Keep h0 h860 [a, va] := K853.wr W860 (Or.inl (List.mem_of_getElem? (i := 1) rfl))
   have N860 := Fr.snoc X860 N853 g_va
   refine w_goto X860 hx (dB d6_30) 0 ?_
   refine w_aloadN X860 hx (.ref a) (dB d6_0) 1 rfl rfl rfl ?_
   refine w_getF X860 hx hZ hown e860 (host := "") (Or.inl (tw_36 hw)) Via.refl F864 (dB d6_1) 4 rfl (fun T867 X867 e867 => ?_)
   refine w_iloadN X867 hx (0 : Int32) (dB d6_4) 5 rfl rfl ?_
   refine w_icmp_le X867 hx 1 0 (by decide) (by decide) (dB d6_5) 33 8 (fun c868 => ?_) (fun c868 => ?_)
   ·exfalso; omega
   ·refine w_aloadN X867 hx (.ref a) (dB d6_8) 9 rfl rfl rfl ?_
    refine w_getF X867 hx hZ hown e867 (host := "") (Or.inl (tw_26 hw)) Via.refl F862 (dB d6_9) 12 rfl (fun T869 X869 e869 => ?_)
    refine w_aloadN X869 hx (.ref a) (dB d6_12) 13 rfl rfl rfl ?_
    refine w_getF X869 hx hZ hown e869 (host := "") (Or.inl (tw_29 hw)) Via.refl F863 (dB d6_13) 16 rfl (fun T870 X870 e870 => ?_)
    refine w_aloadN X870 hx (.ref a) (dB d6_16) 17 rfl rfl rfl ?_
    refine w_dup X870 hx (dB d6_17) 18 rfl rfl ?_
    refine w_getF X870 hx hZ hown e870 (host := "") (Or.inl (tw_36 hw)) Via.refl F864 (dB d6_18) 21 rfl (fun T871 X871 e871 => ?_)
    refine w_iconst X871 hx (dB d6_21) 22 rfl (1 : Int32) (by decide) ?_
    refine w_isub X871 hx (dB d6_22) 23 rfl (show (0 : Int32) = (1 : Int32) - (1 : Int32) from by decide) ?_
    refine w_dupX1 X871 hx (dB d6_23) 24 rfl rfl rfl ?_
    refine w_putF X871 hx hZ hown e871 (host := "") (Or.inl (tw_36 hw)) Via.refl F864 F861 (Or.inl (tw_37 hw)) (tw_18 hw) (ty := .int) (by decide) rfl rfl (dB d6_24) 27 rfl (fun T872 h872 X872 e872 W872 => ?_)
    have F873 : Exa Z h872 a cN_2 := F861.wr W872
    have F874 : Fld Z h872 a cN_2 "values" cN_3 (.ref va) := F862.other W872 (Or.inr (slot_ne (Or.inr (tw_27 hw)) (Or.inl (tw_37 hw)) (by decide) (t := (.array (.object "com/example/simpagation/simpagation/Term"))) (t' := .int) (by decide) (by decide)))
    have F875 : Fld Z h872 a cN_2 "trail" "[I" (.ref ta) := F863.other W872 (Or.inr (slot_ne (Or.inr (tw_30 hw)) (Or.inl (tw_37 hw)) (by decide) (t := (.array .int)) (t' := .int) (by decide) (by decide)))
    have F876 : Fld Z h872 a cN_2 "trailSize" "I" (.int (0 : Int32)) := F864.same W872
    have F877 : Arv Z h872 va kv (.object cN_4) (3 : Int32) [.null, (.ref vv), .null] .null := F865.other W872 (Ne.symm (ne_arv F861 (tw_18 hw) F865))
    have F878 : Arv Z h872 ta kt .int (3 : Int32) [(.int (1 : Int32)), (.int (0 : Int32)), (.int (0 : Int32))] (.int (0 : Int32)) := F866.other W872 (Ne.symm (ne_arv F861 (tw_18 hw) F866))
    have Z872 : n0 ≤ h872.size := by rw [W872.size]; exact Z860
    have K872 : Keep h0 h872 [a, va] := K860.wr W872 (Or.inl (List.mem_of_getElem? (i := 0) rfl))
    have N872 := Fr.snoc X872 N860 g_a
    refine w_iaload X872 hx hZ e872 F878 ⟨by decide, by decide⟩ (v := (.int (1 : Int32))) rfl (dB d6_27) 28 rfl ?_
    refine w_null X872 hx (dB d6_28) 29 rfl ?_
    refine w_aastore X872 hx hZ e872 F877 ⟨by decide, by decide⟩ 1 (by decide) (show 1 < 3 from (by decide)) rfl (Or.inl rfl) (dB d6_29) 30 rfl (fun T879 h879 X879 e879 W879 V879 => ?_)
    have F880 : Exa Z h879 a cN_2 := F873.wr W879
    have F881 : Fld Z h879 a cN_2 "values" cN_3 (.ref va) := F874.other W879 (Or.inl (ne_arv F873 (tw_18 hw) F877))
    have F882 : Fld Z h879 a cN_2 "trail" "[I" (.ref ta) := F875.other W879 (Or.inl (ne_arv F873 (tw_18 hw) F877))
    have F883 : Fld Z h879 a cN_2 "trailSize" "I" (.int (0 : Int32)) := F876.other W879 (Or.inl (ne_arv F873 (tw_18 hw) F877))
    have F884 : Arv Z h879 va kv (.object cN_4) (3 : Int32) [.null, .null, .null] .null := V879
    have F885 : Arv Z h879 ta kt .int (3 : Int32) [(.int (1 : Int32)), (.int (0 : Int32)), (.int (0 : Int32))] (.int (0 : Int32)) := F878.other W879 (Ne.symm ne1)
    have Z879 : n0 ≤ h879.size := by rw [W879.size]; exact Z872
    have K879 : Keep h0 h879 [a, va] := K872.wr W879 (Or.inl (List.mem_of_getElem? (i := 1) rfl))
    have N879 := Fr.snoc X879 N872 g_va
    refine w_goto X879 hx (dB d6_30) 0 ?_
    refine w_aloadN X879 hx (.ref a) (dB d6_0) 1 rfl rfl rfl ?_
    refine w_getF X879 hx hZ hown e879 (host := "") (Or.inl (tw_36 hw)) Via.refl F883 (dB d6_1) 4 rfl (fun T886 X886 e886 => ?_)
    refine w_iloadN X886 hx (0 : Int32) (dB d6_4) 5 rfl rfl ?_
    refine w_icmp_le X886 hx 0 0 (by decide) (by decide) (dB d6_5) 33 8 (fun c887 => ?_) (fun c887 => ?_)
    ·refine w_ret0 X886 hx hlk hret (dB d6_33) (by decide) (by decide) ?_
     rw [e886]
     exact ⟨rfl, N879, K879, F881, F882, F883, F884, F885⟩
    ·exfalso; omega
theorem ef_6t10m1 (m : MethodId) (x0 : Addr) : entryFrame m #[(.ref x0), (.int (1 : Int32))] 2 = mkF m 0 #[.val (.ref x0), .val (.int (1 : Int32))] [] := by first | (simp [entryFrame, mkF, argsToLocals, Value.category]; done) | rfl
def Q6t10m1 (Z : State) (a : Addr) (va : Addr) (ta : Addr) (kv : ClassId) (kt : ClassId) (vv : Addr) (h0 : Heap) (n0 : Nat) (v : Option Value) (h : Heap) (L : List Loc) : Prop := v = none ∧ Fr n0 L ∧ Keep h0 h [a, va] ∧ Fld Z h a cN_2 "values" cN_3 (.ref va) ∧ Fld Z h a cN_2 "trail" "[I" (.ref ta) ∧ Fld Z h a cN_2 "trailSize" "I" (.int (1 : Int32)) ∧ Arv Z h va kv (.object cN_4) (3 : Int32) [.null, (.ref vv), .null] .null ∧ Arv Z h ta kt .int (3 : Int32) [(.int (1 : Int32)), (.int (0 : Int32)), (.int (0 : Int32))] (.int (0 : Int32))
set_option maxRecDepth 65536 in
set_option maxHeartbeats 40000000 in
theorem rm6t10m1 (l : Launch) (Z : State) (a0 : Array Value) (hw : ∀ d ∈ tables_1, d.before a0 Z = true) (ws : List Jvm.Cond) (a : Addr) (va : Addr) (ta : Addr) (kv : ClassId) (kt : ClassId) (vv : Addr) (h0 : Heap) (n0 : Nat) (Z0 : n0 ≤ h0.size) (E_a : Exa Z h0 a cN_2) (F_values_a : Fld Z h0 a cN_2 "values" cN_3 (.ref va)) (F_trail_a : Fld Z h0 a cN_2 "trail" "[I" (.ref ta)) (F_trailSize_a : Fld Z h0 a cN_2 "trailSize" "I" (.int (2 : Int32))) (V_va : Arv Z h0 va kv (.object cN_4) (3 : Int32) [(.ref vv), (.ref vv), .null] .null) (V_ta : Arv Z h0 ta kt .int (3 : Int32) [(.int (1 : Int32)), (.int (0 : Int32)), (.int (0 : Int32))] (.int (0 : Int32))) (g_a : n0 ≤ a) (g_va : n0 ≤ va) (ne1 : va ≠ ta) (ov : Ovr Z kv "com/example/simpagation/simpagation/Term") :
    CT l mN_6 prog_1_method_7_code 2 none ws ({ frames := 0, cells := 0, slots := 0, locals := 0 } : Room) #[(.ref a), (.int (1 : Int32))] Z h0 (Q6t10m1 Z a va ta kv kt vv h0 n0) := by
  refine body_of (plainFor_of_name pn_2) ?_
  intro p e s m below meth c s₁ hx dB hret hlk hml hown0 hnm X0 e0 hZ
  have hown : s.vm.findClass cN_2 = some m.cls := hown0
  have N0 := Fr.nil n0
  rw [ef_6t10m1]
  show Wk p e below (FN s (Q6t10m1 Z a va ta kv kt vv h0 n0) 0 0) s₁ (mkF m 0 #[.val (.ref a), .val (.int (1 : Int32))] [])
  refine w_aloadN X0 hx (.ref a) (dB d6_0) 1 rfl rfl rfl ?_
  refine w_getF X0 hx hZ hown e0 (host := "") (Or.inl (tw_36 hw)) Via.refl F_trailSize_a (dB d6_1) 4 rfl (fun T888 X888 e888 => ?_)
  refine w_iloadN X888 hx (1 : Int32) (dB d6_4) 5 rfl rfl ?_
  refine w_icmp_le X888 hx 2 1 (by decide) (by decide) (dB d6_5) 33 8 (fun c889 => ?_) (fun c889 => ?_)
  ·exfalso; omega
  ·refine w_aloadN X888 hx (.ref a) (dB d6_8) 9 rfl rfl rfl ?_
   refine w_getF X888 hx hZ hown e888 (host := "") (Or.inl (tw_26 hw)) Via.refl F_values_a (dB d6_9) 12 rfl (fun T890 X890 e890 => ?_)
   refine w_aloadN X890 hx (.ref a) (dB d6_12) 13 rfl rfl rfl ?_
   refine w_getF X890 hx hZ hown e890 (host := "") (Or.inl (tw_29 hw)) Via.refl F_trail_a (dB d6_13) 16 rfl (fun T891 X891 e891 => ?_)
   refine w_aloadN X891 hx (.ref a) (dB d6_16) 17 rfl rfl rfl ?_
   refine w_dup X891 hx (dB d6_17) 18 rfl rfl ?_
   refine w_getF X891 hx hZ hown e891 (host := "") (Or.inl (tw_36 hw)) Via.refl F_trailSize_a (dB d6_18) 21 rfl (fun T892 X892 e892 => ?_)
   refine w_iconst X892 hx (dB d6_21) 22 rfl (1 : Int32) (by decide) ?_
   refine w_isub X892 hx (dB d6_22) 23 rfl (show (1 : Int32) = (2 : Int32) - (1 : Int32) from by decide) ?_
   refine w_dupX1 X892 hx (dB d6_23) 24 rfl rfl rfl ?_
   refine w_putF X892 hx hZ hown e892 (host := "") (Or.inl (tw_36 hw)) Via.refl F_trailSize_a E_a (Or.inl (tw_37 hw)) (tw_18 hw) (ty := .int) (by decide) rfl rfl (dB d6_24) 27 rfl (fun T893 h893 X893 e893 W893 => ?_)
   have F894 : Exa Z h893 a cN_2 := E_a.wr W893
   have F895 : Fld Z h893 a cN_2 "values" cN_3 (.ref va) := F_values_a.other W893 (Or.inr (slot_ne (Or.inr (tw_27 hw)) (Or.inl (tw_37 hw)) (by decide) (t := (.array (.object "com/example/simpagation/simpagation/Term"))) (t' := .int) (by decide) (by decide)))
   have F896 : Fld Z h893 a cN_2 "trail" "[I" (.ref ta) := F_trail_a.other W893 (Or.inr (slot_ne (Or.inr (tw_30 hw)) (Or.inl (tw_37 hw)) (by decide) (t := (.array .int)) (t' := .int) (by decide) (by decide)))
   have F897 : Fld Z h893 a cN_2 "trailSize" "I" (.int (1 : Int32)) := F_trailSize_a.same W893
   have F898 : Arv Z h893 va kv (.object cN_4) (3 : Int32) [(.ref vv), (.ref vv), .null] .null := V_va.other W893 (Ne.symm (ne_arv E_a (tw_18 hw) V_va))
   have F899 : Arv Z h893 ta kt .int (3 : Int32) [(.int (1 : Int32)), (.int (0 : Int32)), (.int (0 : Int32))] (.int (0 : Int32)) := V_ta.other W893 (Ne.symm (ne_arv E_a (tw_18 hw) V_ta))
   have Z893 : n0 ≤ h893.size := by rw [W893.size]; exact Z0
   have K893 : Keep h0 h893 [a, va] := (Keep.refl h0 [a, va]).wr W893 (Or.inl (List.mem_of_getElem? (i := 0) rfl))
   have N893 := Fr.snoc X893 N0 g_a
   refine w_iaload X893 hx hZ e893 F899 ⟨by decide, by decide⟩ (v := (.int (0 : Int32))) rfl (dB d6_27) 28 rfl ?_
   refine w_null X893 hx (dB d6_28) 29 rfl ?_
   refine w_aastore X893 hx hZ e893 F898 ⟨by decide, by decide⟩ 0 (by decide) (show 0 < 3 from (by decide)) rfl (Or.inl rfl) (dB d6_29) 30 rfl (fun T900 h900 X900 e900 W900 V900 => ?_)
   have F901 : Exa Z h900 a cN_2 := F894.wr W900
   have F902 : Fld Z h900 a cN_2 "values" cN_3 (.ref va) := F895.other W900 (Or.inl (ne_arv F894 (tw_18 hw) F898))
   have F903 : Fld Z h900 a cN_2 "trail" "[I" (.ref ta) := F896.other W900 (Or.inl (ne_arv F894 (tw_18 hw) F898))
   have F904 : Fld Z h900 a cN_2 "trailSize" "I" (.int (1 : Int32)) := F897.other W900 (Or.inl (ne_arv F894 (tw_18 hw) F898))
   have F905 : Arv Z h900 va kv (.object cN_4) (3 : Int32) [.null, (.ref vv), .null] .null := V900
   have F906 : Arv Z h900 ta kt .int (3 : Int32) [(.int (1 : Int32)), (.int (0 : Int32)), (.int (0 : Int32))] (.int (0 : Int32)) := F899.other W900 (Ne.symm ne1)
   have Z900 : n0 ≤ h900.size := by rw [W900.size]; exact Z893
   have K900 : Keep h0 h900 [a, va] := K893.wr W900 (Or.inl (List.mem_of_getElem? (i := 1) rfl))
   have N900 := Fr.snoc X900 N893 g_va
   refine w_goto X900 hx (dB d6_30) 0 ?_
   refine w_aloadN X900 hx (.ref a) (dB d6_0) 1 rfl rfl rfl ?_
   refine w_getF X900 hx hZ hown e900 (host := "") (Or.inl (tw_36 hw)) Via.refl F904 (dB d6_1) 4 rfl (fun T907 X907 e907 => ?_)
   refine w_iloadN X907 hx (1 : Int32) (dB d6_4) 5 rfl rfl ?_
   refine w_icmp_le X907 hx 1 1 (by decide) (by decide) (dB d6_5) 33 8 (fun c908 => ?_) (fun c908 => ?_)
   ·refine w_ret0 X907 hx hlk hret (dB d6_33) (by decide) (by decide) ?_
    rw [e907]
    exact ⟨rfl, N900, K900, F902, F903, F904, F905, F906⟩
   ·exfalso; omega
theorem ef_6t102m0 (m : MethodId) (x0 : Addr) : entryFrame m #[(.ref x0), (.int (0 : Int32))] 2 = mkF m 0 #[.val (.ref x0), .val (.int (0 : Int32))] [] := by first | (simp [entryFrame, mkF, argsToLocals, Value.category]; done) | rfl
def Q6t102m0 (Z : State) (a : Addr) (va : Addr) (ta : Addr) (kv : ClassId) (kt : ClassId) (vv : Addr) (h0 : Heap) (n0 : Nat) (v : Option Value) (h : Heap) (L : List Loc) : Prop := v = none ∧ Fr n0 L ∧ Keep h0 h [a, va] ∧ Fld Z h a cN_2 "values" cN_3 (.ref va) ∧ Fld Z h a cN_2 "trail" "[I" (.ref ta) ∧ Fld Z h a cN_2 "trailSize" "I" (.int (0 : Int32)) ∧ Arv Z h va kv (.object cN_4) (3 : Int32) [.null, .null, .null] .null ∧ Arv Z h ta kt .int (3 : Int32) [(.int (1 : Int32)), (.int (0 : Int32)), (.int (2 : Int32))] (.int (0 : Int32))
set_option maxRecDepth 65536 in
set_option maxHeartbeats 40000000 in
theorem rm6t102m0 (l : Launch) (Z : State) (a0 : Array Value) (hw : ∀ d ∈ tables_1, d.before a0 Z = true) (ws : List Jvm.Cond) (a : Addr) (va : Addr) (ta : Addr) (kv : ClassId) (kt : ClassId) (vv : Addr) (h0 : Heap) (n0 : Nat) (Z0 : n0 ≤ h0.size) (E_a : Exa Z h0 a cN_2) (F_values_a : Fld Z h0 a cN_2 "values" cN_3 (.ref va)) (F_trail_a : Fld Z h0 a cN_2 "trail" "[I" (.ref ta)) (F_trailSize_a : Fld Z h0 a cN_2 "trailSize" "I" (.int (3 : Int32))) (V_va : Arv Z h0 va kv (.object cN_4) (3 : Int32) [(.ref vv), (.ref vv), (.ref vv)] .null) (V_ta : Arv Z h0 ta kt .int (3 : Int32) [(.int (1 : Int32)), (.int (0 : Int32)), (.int (2 : Int32))] (.int (0 : Int32))) (g_a : n0 ≤ a) (g_va : n0 ≤ va) (ne1 : va ≠ ta) (ov : Ovr Z kv "com/example/simpagation/simpagation/Term") :
    CT l mN_6 prog_1_method_7_code 2 none ws ({ frames := 0, cells := 0, slots := 0, locals := 0 } : Room) #[(.ref a), (.int (0 : Int32))] Z h0 (Q6t102m0 Z a va ta kv kt vv h0 n0) := by
  refine body_of (plainFor_of_name pn_2) ?_
  intro p e s m below meth c s₁ hx dB hret hlk hml hown0 hnm X0 e0 hZ
  have hown : s.vm.findClass cN_2 = some m.cls := hown0
  have N0 := Fr.nil n0
  rw [ef_6t102m0]
  show Wk p e below (FN s (Q6t102m0 Z a va ta kv kt vv h0 n0) 0 0) s₁ (mkF m 0 #[.val (.ref a), .val (.int (0 : Int32))] [])
  refine w_aloadN X0 hx (.ref a) (dB d6_0) 1 rfl rfl rfl ?_
  refine w_getF X0 hx hZ hown e0 (host := "") (Or.inl (tw_36 hw)) Via.refl F_trailSize_a (dB d6_1) 4 rfl (fun T909 X909 e909 => ?_)
  refine w_iloadN X909 hx (0 : Int32) (dB d6_4) 5 rfl rfl ?_
  refine w_icmp_le X909 hx 3 0 (by decide) (by decide) (dB d6_5) 33 8 (fun c910 => ?_) (fun c910 => ?_)
  ·exfalso; omega
  ·refine w_aloadN X909 hx (.ref a) (dB d6_8) 9 rfl rfl rfl ?_
   refine w_getF X909 hx hZ hown e909 (host := "") (Or.inl (tw_26 hw)) Via.refl F_values_a (dB d6_9) 12 rfl (fun T911 X911 e911 => ?_)
   refine w_aloadN X911 hx (.ref a) (dB d6_12) 13 rfl rfl rfl ?_
   refine w_getF X911 hx hZ hown e911 (host := "") (Or.inl (tw_29 hw)) Via.refl F_trail_a (dB d6_13) 16 rfl (fun T912 X912 e912 => ?_)
   refine w_aloadN X912 hx (.ref a) (dB d6_16) 17 rfl rfl rfl ?_
   refine w_dup X912 hx (dB d6_17) 18 rfl rfl ?_
   refine w_getF X912 hx hZ hown e912 (host := "") (Or.inl (tw_36 hw)) Via.refl F_trailSize_a (dB d6_18) 21 rfl (fun T913 X913 e913 => ?_)
   refine w_iconst X913 hx (dB d6_21) 22 rfl (1 : Int32) (by decide) ?_
   refine w_isub X913 hx (dB d6_22) 23 rfl (show (2 : Int32) = (3 : Int32) - (1 : Int32) from by decide) ?_
   refine w_dupX1 X913 hx (dB d6_23) 24 rfl rfl rfl ?_
   refine w_putF X913 hx hZ hown e913 (host := "") (Or.inl (tw_36 hw)) Via.refl F_trailSize_a E_a (Or.inl (tw_37 hw)) (tw_18 hw) (ty := .int) (by decide) rfl rfl (dB d6_24) 27 rfl (fun T914 h914 X914 e914 W914 => ?_)
   have F915 : Exa Z h914 a cN_2 := E_a.wr W914
   have F916 : Fld Z h914 a cN_2 "values" cN_3 (.ref va) := F_values_a.other W914 (Or.inr (slot_ne (Or.inr (tw_27 hw)) (Or.inl (tw_37 hw)) (by decide) (t := (.array (.object "com/example/simpagation/simpagation/Term"))) (t' := .int) (by decide) (by decide)))
   have F917 : Fld Z h914 a cN_2 "trail" "[I" (.ref ta) := F_trail_a.other W914 (Or.inr (slot_ne (Or.inr (tw_30 hw)) (Or.inl (tw_37 hw)) (by decide) (t := (.array .int)) (t' := .int) (by decide) (by decide)))
   have F918 : Fld Z h914 a cN_2 "trailSize" "I" (.int (2 : Int32)) := F_trailSize_a.same W914
   have F919 : Arv Z h914 va kv (.object cN_4) (3 : Int32) [(.ref vv), (.ref vv), (.ref vv)] .null := V_va.other W914 (Ne.symm (ne_arv E_a (tw_18 hw) V_va))
   have F920 : Arv Z h914 ta kt .int (3 : Int32) [(.int (1 : Int32)), (.int (0 : Int32)), (.int (2 : Int32))] (.int (0 : Int32)) := V_ta.other W914 (Ne.symm (ne_arv E_a (tw_18 hw) V_ta))
   have Z914 : n0 ≤ h914.size := by rw [W914.size]; exact Z0
   have K914 : Keep h0 h914 [a, va] := (Keep.refl h0 [a, va]).wr W914 (Or.inl (List.mem_of_getElem? (i := 0) rfl))
   have N914 := Fr.snoc X914 N0 g_a
   refine w_iaload X914 hx hZ e914 F920 ⟨by decide, by decide⟩ (v := (.int (2 : Int32))) rfl (dB d6_27) 28 rfl ?_
   refine w_null X914 hx (dB d6_28) 29 rfl ?_
   refine w_aastore X914 hx hZ e914 F919 ⟨by decide, by decide⟩ 2 (by decide) (show 2 < 3 from (by decide)) rfl (Or.inl rfl) (dB d6_29) 30 rfl (fun T921 h921 X921 e921 W921 V921 => ?_)
   have F922 : Exa Z h921 a cN_2 := F915.wr W921
   have F923 : Fld Z h921 a cN_2 "values" cN_3 (.ref va) := F916.other W921 (Or.inl (ne_arv F915 (tw_18 hw) F919))
   have F924 : Fld Z h921 a cN_2 "trail" "[I" (.ref ta) := F917.other W921 (Or.inl (ne_arv F915 (tw_18 hw) F919))
   have F925 : Fld Z h921 a cN_2 "trailSize" "I" (.int (2 : Int32)) := F918.other W921 (Or.inl (ne_arv F915 (tw_18 hw) F919))
   have F926 : Arv Z h921 va kv (.object cN_4) (3 : Int32) [(.ref vv), (.ref vv), .null] .null := V921
   have F927 : Arv Z h921 ta kt .int (3 : Int32) [(.int (1 : Int32)), (.int (0 : Int32)), (.int (2 : Int32))] (.int (0 : Int32)) := F920.other W921 (Ne.symm ne1)
   have Z921 : n0 ≤ h921.size := by rw [W921.size]; exact Z914
   have K921 : Keep h0 h921 [a, va] := K914.wr W921 (Or.inl (List.mem_of_getElem? (i := 1) rfl))
   have N921 := Fr.snoc X921 N914 g_va
   refine w_goto X921 hx (dB d6_30) 0 ?_
   refine w_aloadN X921 hx (.ref a) (dB d6_0) 1 rfl rfl rfl ?_
   refine w_getF X921 hx hZ hown e921 (host := "") (Or.inl (tw_36 hw)) Via.refl F925 (dB d6_1) 4 rfl (fun T928 X928 e928 => ?_)
   refine w_iloadN X928 hx (0 : Int32) (dB d6_4) 5 rfl rfl ?_
   refine w_icmp_le X928 hx 2 0 (by decide) (by decide) (dB d6_5) 33 8 (fun c929 => ?_) (fun c929 => ?_)
   ·exfalso; omega
   ·refine w_aloadN X928 hx (.ref a) (dB d6_8) 9 rfl rfl rfl ?_
    refine w_getF X928 hx hZ hown e928 (host := "") (Or.inl (tw_26 hw)) Via.refl F923 (dB d6_9) 12 rfl (fun T930 X930 e930 => ?_)
    refine w_aloadN X930 hx (.ref a) (dB d6_12) 13 rfl rfl rfl ?_
    refine w_getF X930 hx hZ hown e930 (host := "") (Or.inl (tw_29 hw)) Via.refl F924 (dB d6_13) 16 rfl (fun T931 X931 e931 => ?_)
    refine w_aloadN X931 hx (.ref a) (dB d6_16) 17 rfl rfl rfl ?_
    refine w_dup X931 hx (dB d6_17) 18 rfl rfl ?_
    refine w_getF X931 hx hZ hown e931 (host := "") (Or.inl (tw_36 hw)) Via.refl F925 (dB d6_18) 21 rfl (fun T932 X932 e932 => ?_)
    refine w_iconst X932 hx (dB d6_21) 22 rfl (1 : Int32) (by decide) ?_
    refine w_isub X932 hx (dB d6_22) 23 rfl (show (1 : Int32) = (2 : Int32) - (1 : Int32) from by decide) ?_
    refine w_dupX1 X932 hx (dB d6_23) 24 rfl rfl rfl ?_
    refine w_putF X932 hx hZ hown e932 (host := "") (Or.inl (tw_36 hw)) Via.refl F925 F922 (Or.inl (tw_37 hw)) (tw_18 hw) (ty := .int) (by decide) rfl rfl (dB d6_24) 27 rfl (fun T933 h933 X933 e933 W933 => ?_)
    have F934 : Exa Z h933 a cN_2 := F922.wr W933
    have F935 : Fld Z h933 a cN_2 "values" cN_3 (.ref va) := F923.other W933 (Or.inr (slot_ne (Or.inr (tw_27 hw)) (Or.inl (tw_37 hw)) (by decide) (t := (.array (.object "com/example/simpagation/simpagation/Term"))) (t' := .int) (by decide) (by decide)))
    have F936 : Fld Z h933 a cN_2 "trail" "[I" (.ref ta) := F924.other W933 (Or.inr (slot_ne (Or.inr (tw_30 hw)) (Or.inl (tw_37 hw)) (by decide) (t := (.array .int)) (t' := .int) (by decide) (by decide)))
    have F937 : Fld Z h933 a cN_2 "trailSize" "I" (.int (1 : Int32)) := F925.same W933
    have F938 : Arv Z h933 va kv (.object cN_4) (3 : Int32) [(.ref vv), (.ref vv), .null] .null := F926.other W933 (Ne.symm (ne_arv F922 (tw_18 hw) F926))
    have F939 : Arv Z h933 ta kt .int (3 : Int32) [(.int (1 : Int32)), (.int (0 : Int32)), (.int (2 : Int32))] (.int (0 : Int32)) := F927.other W933 (Ne.symm (ne_arv F922 (tw_18 hw) F927))
    have Z933 : n0 ≤ h933.size := by rw [W933.size]; exact Z921
    have K933 : Keep h0 h933 [a, va] := K921.wr W933 (Or.inl (List.mem_of_getElem? (i := 0) rfl))
    have N933 := Fr.snoc X933 N921 g_a
    refine w_iaload X933 hx hZ e933 F939 ⟨by decide, by decide⟩ (v := (.int (0 : Int32))) rfl (dB d6_27) 28 rfl ?_
    refine w_null X933 hx (dB d6_28) 29 rfl ?_
    refine w_aastore X933 hx hZ e933 F938 ⟨by decide, by decide⟩ 0 (by decide) (show 0 < 3 from (by decide)) rfl (Or.inl rfl) (dB d6_29) 30 rfl (fun T940 h940 X940 e940 W940 V940 => ?_)
    have F941 : Exa Z h940 a cN_2 := F934.wr W940
    have F942 : Fld Z h940 a cN_2 "values" cN_3 (.ref va) := F935.other W940 (Or.inl (ne_arv F934 (tw_18 hw) F938))
    have F943 : Fld Z h940 a cN_2 "trail" "[I" (.ref ta) := F936.other W940 (Or.inl (ne_arv F934 (tw_18 hw) F938))
    have F944 : Fld Z h940 a cN_2 "trailSize" "I" (.int (1 : Int32)) := F937.other W940 (Or.inl (ne_arv F934 (tw_18 hw) F938))
    have F945 : Arv Z h940 va kv (.object cN_4) (3 : Int32) [.null, (.ref vv), .null] .null := V940
    have F946 : Arv Z h940 ta kt .int (3 : Int32) [(.int (1 : Int32)), (.int (0 : Int32)), (.int (2 : Int32))] (.int (0 : Int32)) := F939.other W940 (Ne.symm ne1)
    have Z940 : n0 ≤ h940.size := by rw [W940.size]; exact Z933
    have K940 : Keep h0 h940 [a, va] := K933.wr W940 (Or.inl (List.mem_of_getElem? (i := 1) rfl))
    have N940 := Fr.snoc X940 N933 g_va
    refine w_goto X940 hx (dB d6_30) 0 ?_
    refine w_aloadN X940 hx (.ref a) (dB d6_0) 1 rfl rfl rfl ?_
    refine w_getF X940 hx hZ hown e940 (host := "") (Or.inl (tw_36 hw)) Via.refl F944 (dB d6_1) 4 rfl (fun T947 X947 e947 => ?_)
    refine w_iloadN X947 hx (0 : Int32) (dB d6_4) 5 rfl rfl ?_
    refine w_icmp_le X947 hx 1 0 (by decide) (by decide) (dB d6_5) 33 8 (fun c948 => ?_) (fun c948 => ?_)
    ·exfalso; omega
    ·refine w_aloadN X947 hx (.ref a) (dB d6_8) 9 rfl rfl rfl ?_
     refine w_getF X947 hx hZ hown e947 (host := "") (Or.inl (tw_26 hw)) Via.refl F942 (dB d6_9) 12 rfl (fun T949 X949 e949 => ?_)
     refine w_aloadN X949 hx (.ref a) (dB d6_12) 13 rfl rfl rfl ?_
     refine w_getF X949 hx hZ hown e949 (host := "") (Or.inl (tw_29 hw)) Via.refl F943 (dB d6_13) 16 rfl (fun T950 X950 e950 => ?_)
     refine w_aloadN X950 hx (.ref a) (dB d6_16) 17 rfl rfl rfl ?_
     refine w_dup X950 hx (dB d6_17) 18 rfl rfl ?_
     refine w_getF X950 hx hZ hown e950 (host := "") (Or.inl (tw_36 hw)) Via.refl F944 (dB d6_18) 21 rfl (fun T951 X951 e951 => ?_)
     refine w_iconst X951 hx (dB d6_21) 22 rfl (1 : Int32) (by decide) ?_
     refine w_isub X951 hx (dB d6_22) 23 rfl (show (0 : Int32) = (1 : Int32) - (1 : Int32) from by decide) ?_
     refine w_dupX1 X951 hx (dB d6_23) 24 rfl rfl rfl ?_
     refine w_putF X951 hx hZ hown e951 (host := "") (Or.inl (tw_36 hw)) Via.refl F944 F941 (Or.inl (tw_37 hw)) (tw_18 hw) (ty := .int) (by decide) rfl rfl (dB d6_24) 27 rfl (fun T952 h952 X952 e952 W952 => ?_)
     have F953 : Exa Z h952 a cN_2 := F941.wr W952
     have F954 : Fld Z h952 a cN_2 "values" cN_3 (.ref va) := F942.other W952 (Or.inr (slot_ne (Or.inr (tw_27 hw)) (Or.inl (tw_37 hw)) (by decide) (t := (.array (.object "com/example/simpagation/simpagation/Term"))) (t' := .int) (by decide) (by decide)))
     have F955 : Fld Z h952 a cN_2 "trail" "[I" (.ref ta) := F943.other W952 (Or.inr (slot_ne (Or.inr (tw_30 hw)) (Or.inl (tw_37 hw)) (by decide) (t := (.array .int)) (t' := .int) (by decide) (by decide)))
     have F956 : Fld Z h952 a cN_2 "trailSize" "I" (.int (0 : Int32)) := F944.same W952
     have F957 : Arv Z h952 va kv (.object cN_4) (3 : Int32) [.null, (.ref vv), .null] .null := F945.other W952 (Ne.symm (ne_arv F941 (tw_18 hw) F945))
     have F958 : Arv Z h952 ta kt .int (3 : Int32) [(.int (1 : Int32)), (.int (0 : Int32)), (.int (2 : Int32))] (.int (0 : Int32)) := F946.other W952 (Ne.symm (ne_arv F941 (tw_18 hw) F946))
     have Z952 : n0 ≤ h952.size := by rw [W952.size]; exact Z940
     have K952 : Keep h0 h952 [a, va] := K940.wr W952 (Or.inl (List.mem_of_getElem? (i := 0) rfl))
     have N952 := Fr.snoc X952 N940 g_a
     refine w_iaload X952 hx hZ e952 F958 ⟨by decide, by decide⟩ (v := (.int (1 : Int32))) rfl (dB d6_27) 28 rfl ?_
     refine w_null X952 hx (dB d6_28) 29 rfl ?_
     refine w_aastore X952 hx hZ e952 F957 ⟨by decide, by decide⟩ 1 (by decide) (show 1 < 3 from (by decide)) rfl (Or.inl rfl) (dB d6_29) 30 rfl (fun T959 h959 X959 e959 W959 V959 => ?_)
     have F960 : Exa Z h959 a cN_2 := F953.wr W959
     have F961 : Fld Z h959 a cN_2 "values" cN_3 (.ref va) := F954.other W959 (Or.inl (ne_arv F953 (tw_18 hw) F957))
     have F962 : Fld Z h959 a cN_2 "trail" "[I" (.ref ta) := F955.other W959 (Or.inl (ne_arv F953 (tw_18 hw) F957))
     have F963 : Fld Z h959 a cN_2 "trailSize" "I" (.int (0 : Int32)) := F956.other W959 (Or.inl (ne_arv F953 (tw_18 hw) F957))
     have F964 : Arv Z h959 va kv (.object cN_4) (3 : Int32) [.null, .null, .null] .null := V959
     have F965 : Arv Z h959 ta kt .int (3 : Int32) [(.int (1 : Int32)), (.int (0 : Int32)), (.int (2 : Int32))] (.int (0 : Int32)) := F958.other W959 (Ne.symm ne1)
     have Z959 : n0 ≤ h959.size := by rw [W959.size]; exact Z952
     have K959 : Keep h0 h959 [a, va] := K952.wr W959 (Or.inl (List.mem_of_getElem? (i := 1) rfl))
     have N959 := Fr.snoc X959 N952 g_va
     refine w_goto X959 hx (dB d6_30) 0 ?_
     refine w_aloadN X959 hx (.ref a) (dB d6_0) 1 rfl rfl rfl ?_
     refine w_getF X959 hx hZ hown e959 (host := "") (Or.inl (tw_36 hw)) Via.refl F963 (dB d6_1) 4 rfl (fun T966 X966 e966 => ?_)
     refine w_iloadN X966 hx (0 : Int32) (dB d6_4) 5 rfl rfl ?_
     refine w_icmp_le X966 hx 0 0 (by decide) (by decide) (dB d6_5) 33 8 (fun c967 => ?_) (fun c967 => ?_)
     ·refine w_ret0 X966 hx hlk hret (dB d6_33) (by decide) (by decide) ?_
      rw [e966]
      exact ⟨rfl, N959, K959, F961, F962, F963, F964, F965⟩
     ·exfalso; omega
theorem ef_6t102m1 (m : MethodId) (x0 : Addr) : entryFrame m #[(.ref x0), (.int (1 : Int32))] 2 = mkF m 0 #[.val (.ref x0), .val (.int (1 : Int32))] [] := by first | (simp [entryFrame, mkF, argsToLocals, Value.category]; done) | rfl
def Q6t102m1 (Z : State) (a : Addr) (va : Addr) (ta : Addr) (kv : ClassId) (kt : ClassId) (vv : Addr) (h0 : Heap) (n0 : Nat) (v : Option Value) (h : Heap) (L : List Loc) : Prop := v = none ∧ Fr n0 L ∧ Keep h0 h [a, va] ∧ Fld Z h a cN_2 "values" cN_3 (.ref va) ∧ Fld Z h a cN_2 "trail" "[I" (.ref ta) ∧ Fld Z h a cN_2 "trailSize" "I" (.int (1 : Int32)) ∧ Arv Z h va kv (.object cN_4) (3 : Int32) [.null, (.ref vv), .null] .null ∧ Arv Z h ta kt .int (3 : Int32) [(.int (1 : Int32)), (.int (0 : Int32)), (.int (2 : Int32))] (.int (0 : Int32))
set_option maxRecDepth 65536 in
set_option maxHeartbeats 40000000 in
theorem rm6t102m1 (l : Launch) (Z : State) (a0 : Array Value) (hw : ∀ d ∈ tables_1, d.before a0 Z = true) (ws : List Jvm.Cond) (a : Addr) (va : Addr) (ta : Addr) (kv : ClassId) (kt : ClassId) (vv : Addr) (h0 : Heap) (n0 : Nat) (Z0 : n0 ≤ h0.size) (E_a : Exa Z h0 a cN_2) (F_values_a : Fld Z h0 a cN_2 "values" cN_3 (.ref va)) (F_trail_a : Fld Z h0 a cN_2 "trail" "[I" (.ref ta)) (F_trailSize_a : Fld Z h0 a cN_2 "trailSize" "I" (.int (3 : Int32))) (V_va : Arv Z h0 va kv (.object cN_4) (3 : Int32) [(.ref vv), (.ref vv), (.ref vv)] .null) (V_ta : Arv Z h0 ta kt .int (3 : Int32) [(.int (1 : Int32)), (.int (0 : Int32)), (.int (2 : Int32))] (.int (0 : Int32))) (g_a : n0 ≤ a) (g_va : n0 ≤ va) (ne1 : va ≠ ta) (ov : Ovr Z kv "com/example/simpagation/simpagation/Term") :
    CT l mN_6 prog_1_method_7_code 2 none ws ({ frames := 0, cells := 0, slots := 0, locals := 0 } : Room) #[(.ref a), (.int (1 : Int32))] Z h0 (Q6t102m1 Z a va ta kv kt vv h0 n0) := by
  refine body_of (plainFor_of_name pn_2) ?_
  intro p e s m below meth c s₁ hx dB hret hlk hml hown0 hnm X0 e0 hZ
  have hown : s.vm.findClass cN_2 = some m.cls := hown0
  have N0 := Fr.nil n0
  rw [ef_6t102m1]
  show Wk p e below (FN s (Q6t102m1 Z a va ta kv kt vv h0 n0) 0 0) s₁ (mkF m 0 #[.val (.ref a), .val (.int (1 : Int32))] [])
  refine w_aloadN X0 hx (.ref a) (dB d6_0) 1 rfl rfl rfl ?_
  refine w_getF X0 hx hZ hown e0 (host := "") (Or.inl (tw_36 hw)) Via.refl F_trailSize_a (dB d6_1) 4 rfl (fun T968 X968 e968 => ?_)
  refine w_iloadN X968 hx (1 : Int32) (dB d6_4) 5 rfl rfl ?_
  refine w_icmp_le X968 hx 3 1 (by decide) (by decide) (dB d6_5) 33 8 (fun c969 => ?_) (fun c969 => ?_)
  ·exfalso; omega
  ·refine w_aloadN X968 hx (.ref a) (dB d6_8) 9 rfl rfl rfl ?_
   refine w_getF X968 hx hZ hown e968 (host := "") (Or.inl (tw_26 hw)) Via.refl F_values_a (dB d6_9) 12 rfl (fun T970 X970 e970 => ?_)
   refine w_aloadN X970 hx (.ref a) (dB d6_12) 13 rfl rfl rfl ?_
   refine w_getF X970 hx hZ hown e970 (host := "") (Or.inl (tw_29 hw)) Via.refl F_trail_a (dB d6_13) 16 rfl (fun T971 X971 e971 => ?_)
   refine w_aloadN X971 hx (.ref a) (dB d6_16) 17 rfl rfl rfl ?_
   refine w_dup X971 hx (dB d6_17) 18 rfl rfl ?_
   refine w_getF X971 hx hZ hown e971 (host := "") (Or.inl (tw_36 hw)) Via.refl F_trailSize_a (dB d6_18) 21 rfl (fun T972 X972 e972 => ?_)
   refine w_iconst X972 hx (dB d6_21) 22 rfl (1 : Int32) (by decide) ?_
   refine w_isub X972 hx (dB d6_22) 23 rfl (show (2 : Int32) = (3 : Int32) - (1 : Int32) from by decide) ?_
   refine w_dupX1 X972 hx (dB d6_23) 24 rfl rfl rfl ?_
   refine w_putF X972 hx hZ hown e972 (host := "") (Or.inl (tw_36 hw)) Via.refl F_trailSize_a E_a (Or.inl (tw_37 hw)) (tw_18 hw) (ty := .int) (by decide) rfl rfl (dB d6_24) 27 rfl (fun T973 h973 X973 e973 W973 => ?_)
   have F974 : Exa Z h973 a cN_2 := E_a.wr W973
   have F975 : Fld Z h973 a cN_2 "values" cN_3 (.ref va) := F_values_a.other W973 (Or.inr (slot_ne (Or.inr (tw_27 hw)) (Or.inl (tw_37 hw)) (by decide) (t := (.array (.object "com/example/simpagation/simpagation/Term"))) (t' := .int) (by decide) (by decide)))
   have F976 : Fld Z h973 a cN_2 "trail" "[I" (.ref ta) := F_trail_a.other W973 (Or.inr (slot_ne (Or.inr (tw_30 hw)) (Or.inl (tw_37 hw)) (by decide) (t := (.array .int)) (t' := .int) (by decide) (by decide)))
   have F977 : Fld Z h973 a cN_2 "trailSize" "I" (.int (2 : Int32)) := F_trailSize_a.same W973
   have F978 : Arv Z h973 va kv (.object cN_4) (3 : Int32) [(.ref vv), (.ref vv), (.ref vv)] .null := V_va.other W973 (Ne.symm (ne_arv E_a (tw_18 hw) V_va))
   have F979 : Arv Z h973 ta kt .int (3 : Int32) [(.int (1 : Int32)), (.int (0 : Int32)), (.int (2 : Int32))] (.int (0 : Int32)) := V_ta.other W973 (Ne.symm (ne_arv E_a (tw_18 hw) V_ta))
   have Z973 : n0 ≤ h973.size := by rw [W973.size]; exact Z0
   have K973 : Keep h0 h973 [a, va] := (Keep.refl h0 [a, va]).wr W973 (Or.inl (List.mem_of_getElem? (i := 0) rfl))
   have N973 := Fr.snoc X973 N0 g_a
   refine w_iaload X973 hx hZ e973 F979 ⟨by decide, by decide⟩ (v := (.int (2 : Int32))) rfl (dB d6_27) 28 rfl ?_
   refine w_null X973 hx (dB d6_28) 29 rfl ?_
   refine w_aastore X973 hx hZ e973 F978 ⟨by decide, by decide⟩ 2 (by decide) (show 2 < 3 from (by decide)) rfl (Or.inl rfl) (dB d6_29) 30 rfl (fun T980 h980 X980 e980 W980 V980 => ?_)
   have F981 : Exa Z h980 a cN_2 := F974.wr W980
   have F982 : Fld Z h980 a cN_2 "values" cN_3 (.ref va) := F975.other W980 (Or.inl (ne_arv F974 (tw_18 hw) F978))
   have F983 : Fld Z h980 a cN_2 "trail" "[I" (.ref ta) := F976.other W980 (Or.inl (ne_arv F974 (tw_18 hw) F978))
   have F984 : Fld Z h980 a cN_2 "trailSize" "I" (.int (2 : Int32)) := F977.other W980 (Or.inl (ne_arv F974 (tw_18 hw) F978))
   have F985 : Arv Z h980 va kv (.object cN_4) (3 : Int32) [(.ref vv), (.ref vv), .null] .null := V980
   have F986 : Arv Z h980 ta kt .int (3 : Int32) [(.int (1 : Int32)), (.int (0 : Int32)), (.int (2 : Int32))] (.int (0 : Int32)) := F979.other W980 (Ne.symm ne1)
   have Z980 : n0 ≤ h980.size := by rw [W980.size]; exact Z973
   have K980 : Keep h0 h980 [a, va] := K973.wr W980 (Or.inl (List.mem_of_getElem? (i := 1) rfl))
   have N980 := Fr.snoc X980 N973 g_va
   refine w_goto X980 hx (dB d6_30) 0 ?_
   refine w_aloadN X980 hx (.ref a) (dB d6_0) 1 rfl rfl rfl ?_
   refine w_getF X980 hx hZ hown e980 (host := "") (Or.inl (tw_36 hw)) Via.refl F984 (dB d6_1) 4 rfl (fun T987 X987 e987 => ?_)
   refine w_iloadN X987 hx (1 : Int32) (dB d6_4) 5 rfl rfl ?_
   refine w_icmp_le X987 hx 2 1 (by decide) (by decide) (dB d6_5) 33 8 (fun c988 => ?_) (fun c988 => ?_)
   ·exfalso; omega
   ·refine w_aloadN X987 hx (.ref a) (dB d6_8) 9 rfl rfl rfl ?_
    refine w_getF X987 hx hZ hown e987 (host := "") (Or.inl (tw_26 hw)) Via.refl F982 (dB d6_9) 12 rfl (fun T989 X989 e989 => ?_)
    refine w_aloadN X989 hx (.ref a) (dB d6_12) 13 rfl rfl rfl ?_
    refine w_getF X989 hx hZ hown e989 (host := "") (Or.inl (tw_29 hw)) Via.refl F983 (dB d6_13) 16 rfl (fun T990 X990 e990 => ?_)
    refine w_aloadN X990 hx (.ref a) (dB d6_16) 17 rfl rfl rfl ?_
    refine w_dup X990 hx (dB d6_17) 18 rfl rfl ?_
    refine w_getF X990 hx hZ hown e990 (host := "") (Or.inl (tw_36 hw)) Via.refl F984 (dB d6_18) 21 rfl (fun T991 X991 e991 => ?_)
    refine w_iconst X991 hx (dB d6_21) 22 rfl (1 : Int32) (by decide) ?_
    refine w_isub X991 hx (dB d6_22) 23 rfl (show (1 : Int32) = (2 : Int32) - (1 : Int32) from by decide) ?_
    refine w_dupX1 X991 hx (dB d6_23) 24 rfl rfl rfl ?_
    refine w_putF X991 hx hZ hown e991 (host := "") (Or.inl (tw_36 hw)) Via.refl F984 F981 (Or.inl (tw_37 hw)) (tw_18 hw) (ty := .int) (by decide) rfl rfl (dB d6_24) 27 rfl (fun T992 h992 X992 e992 W992 => ?_)
    have F993 : Exa Z h992 a cN_2 := F981.wr W992
    have F994 : Fld Z h992 a cN_2 "values" cN_3 (.ref va) := F982.other W992 (Or.inr (slot_ne (Or.inr (tw_27 hw)) (Or.inl (tw_37 hw)) (by decide) (t := (.array (.object "com/example/simpagation/simpagation/Term"))) (t' := .int) (by decide) (by decide)))
    have F995 : Fld Z h992 a cN_2 "trail" "[I" (.ref ta) := F983.other W992 (Or.inr (slot_ne (Or.inr (tw_30 hw)) (Or.inl (tw_37 hw)) (by decide) (t := (.array .int)) (t' := .int) (by decide) (by decide)))
    have F996 : Fld Z h992 a cN_2 "trailSize" "I" (.int (1 : Int32)) := F984.same W992
    have F997 : Arv Z h992 va kv (.object cN_4) (3 : Int32) [(.ref vv), (.ref vv), .null] .null := F985.other W992 (Ne.symm (ne_arv F981 (tw_18 hw) F985))
    have F998 : Arv Z h992 ta kt .int (3 : Int32) [(.int (1 : Int32)), (.int (0 : Int32)), (.int (2 : Int32))] (.int (0 : Int32)) := F986.other W992 (Ne.symm (ne_arv F981 (tw_18 hw) F986))
    have Z992 : n0 ≤ h992.size := by rw [W992.size]; exact Z980
    have K992 : Keep h0 h992 [a, va] := K980.wr W992 (Or.inl (List.mem_of_getElem? (i := 0) rfl))
    have N992 := Fr.snoc X992 N980 g_a
    refine w_iaload X992 hx hZ e992 F998 ⟨by decide, by decide⟩ (v := (.int (0 : Int32))) rfl (dB d6_27) 28 rfl ?_
    refine w_null X992 hx (dB d6_28) 29 rfl ?_
    refine w_aastore X992 hx hZ e992 F997 ⟨by decide, by decide⟩ 0 (by decide) (show 0 < 3 from (by decide)) rfl (Or.inl rfl) (dB d6_29) 30 rfl (fun T999 h999 X999 e999 W999 V999 => ?_)
    have F1000 : Exa Z h999 a cN_2 := F993.wr W999
    have F1001 : Fld Z h999 a cN_2 "values" cN_3 (.ref va) := F994.other W999 (Or.inl (ne_arv F993 (tw_18 hw) F997))
    have F1002 : Fld Z h999 a cN_2 "trail" "[I" (.ref ta) := F995.other W999 (Or.inl (ne_arv F993 (tw_18 hw) F997))
    have F1003 : Fld Z h999 a cN_2 "trailSize" "I" (.int (1 : Int32)) := F996.other W999 (Or.inl (ne_arv F993 (tw_18 hw) F997))
    have F1004 : Arv Z h999 va kv (.object cN_4) (3 : Int32) [.null, (.ref vv), .null] .null := V999
    have F1005 : Arv Z h999 ta kt .int (3 : Int32) [(.int (1 : Int32)), (.int (0 : Int32)), (.int (2 : Int32))] (.int (0 : Int32)) := F998.other W999 (Ne.symm ne1)
    have Z999 : n0 ≤ h999.size := by rw [W999.size]; exact Z992
    have K999 : Keep h0 h999 [a, va] := K992.wr W999 (Or.inl (List.mem_of_getElem? (i := 1) rfl))
    have N999 := Fr.snoc X999 N992 g_va
    refine w_goto X999 hx (dB d6_30) 0 ?_
    refine w_aloadN X999 hx (.ref a) (dB d6_0) 1 rfl rfl rfl ?_
    refine w_getF X999 hx hZ hown e999 (host := "") (Or.inl (tw_36 hw)) Via.refl F1003 (dB d6_1) 4 rfl (fun T1006 X1006 e1006 => ?_)
    refine w_iloadN X1006 hx (1 : Int32) (dB d6_4) 5 rfl rfl ?_
    refine w_icmp_le X1006 hx 1 1 (by decide) (by decide) (dB d6_5) 33 8 (fun c1007 => ?_) (fun c1007 => ?_)
    ·refine w_ret0 X1006 hx hlk hret (dB d6_33) (by decide) (by decide) ?_
     rw [e1006]
     exact ⟨rfl, N999, K999, F1001, F1002, F1003, F1004, F1005⟩
    ·exfalso; omega
theorem ef_6t102m2 (m : MethodId) (x0 : Addr) : entryFrame m #[(.ref x0), (.int (2 : Int32))] 2 = mkF m 0 #[.val (.ref x0), .val (.int (2 : Int32))] [] := by first | (simp [entryFrame, mkF, argsToLocals, Value.category]; done) | rfl
def Q6t102m2 (Z : State) (a : Addr) (va : Addr) (ta : Addr) (kv : ClassId) (kt : ClassId) (vv : Addr) (h0 : Heap) (n0 : Nat) (v : Option Value) (h : Heap) (L : List Loc) : Prop := v = none ∧ Fr n0 L ∧ Keep h0 h [a, va] ∧ Fld Z h a cN_2 "values" cN_3 (.ref va) ∧ Fld Z h a cN_2 "trail" "[I" (.ref ta) ∧ Fld Z h a cN_2 "trailSize" "I" (.int (2 : Int32)) ∧ Arv Z h va kv (.object cN_4) (3 : Int32) [(.ref vv), (.ref vv), .null] .null ∧ Arv Z h ta kt .int (3 : Int32) [(.int (1 : Int32)), (.int (0 : Int32)), (.int (2 : Int32))] (.int (0 : Int32))
set_option maxRecDepth 65536 in
set_option maxHeartbeats 40000000 in
theorem rm6t102m2 (l : Launch) (Z : State) (a0 : Array Value) (hw : ∀ d ∈ tables_1, d.before a0 Z = true) (ws : List Jvm.Cond) (a : Addr) (va : Addr) (ta : Addr) (kv : ClassId) (kt : ClassId) (vv : Addr) (h0 : Heap) (n0 : Nat) (Z0 : n0 ≤ h0.size) (E_a : Exa Z h0 a cN_2) (F_values_a : Fld Z h0 a cN_2 "values" cN_3 (.ref va)) (F_trail_a : Fld Z h0 a cN_2 "trail" "[I" (.ref ta)) (F_trailSize_a : Fld Z h0 a cN_2 "trailSize" "I" (.int (3 : Int32))) (V_va : Arv Z h0 va kv (.object cN_4) (3 : Int32) [(.ref vv), (.ref vv), (.ref vv)] .null) (V_ta : Arv Z h0 ta kt .int (3 : Int32) [(.int (1 : Int32)), (.int (0 : Int32)), (.int (2 : Int32))] (.int (0 : Int32))) (g_a : n0 ≤ a) (g_va : n0 ≤ va) (ne1 : va ≠ ta) (ov : Ovr Z kv "com/example/simpagation/simpagation/Term") :
    CT l mN_6 prog_1_method_7_code 2 none ws ({ frames := 0, cells := 0, slots := 0, locals := 0 } : Room) #[(.ref a), (.int (2 : Int32))] Z h0 (Q6t102m2 Z a va ta kv kt vv h0 n0) := by
  refine body_of (plainFor_of_name pn_2) ?_
  intro p e s m below meth c s₁ hx dB hret hlk hml hown0 hnm X0 e0 hZ
  have hown : s.vm.findClass cN_2 = some m.cls := hown0
  have N0 := Fr.nil n0
  rw [ef_6t102m2]
  show Wk p e below (FN s (Q6t102m2 Z a va ta kv kt vv h0 n0) 0 0) s₁ (mkF m 0 #[.val (.ref a), .val (.int (2 : Int32))] [])
  refine w_aloadN X0 hx (.ref a) (dB d6_0) 1 rfl rfl rfl ?_
  refine w_getF X0 hx hZ hown e0 (host := "") (Or.inl (tw_36 hw)) Via.refl F_trailSize_a (dB d6_1) 4 rfl (fun T1008 X1008 e1008 => ?_)
  refine w_iloadN X1008 hx (2 : Int32) (dB d6_4) 5 rfl rfl ?_
  refine w_icmp_le X1008 hx 3 2 (by decide) (by decide) (dB d6_5) 33 8 (fun c1009 => ?_) (fun c1009 => ?_)
  ·exfalso; omega
  ·refine w_aloadN X1008 hx (.ref a) (dB d6_8) 9 rfl rfl rfl ?_
   refine w_getF X1008 hx hZ hown e1008 (host := "") (Or.inl (tw_26 hw)) Via.refl F_values_a (dB d6_9) 12 rfl (fun T1010 X1010 e1010 => ?_)
   refine w_aloadN X1010 hx (.ref a) (dB d6_12) 13 rfl rfl rfl ?_
   refine w_getF X1010 hx hZ hown e1010 (host := "") (Or.inl (tw_29 hw)) Via.refl F_trail_a (dB d6_13) 16 rfl (fun T1011 X1011 e1011 => ?_)
   refine w_aloadN X1011 hx (.ref a) (dB d6_16) 17 rfl rfl rfl ?_
   refine w_dup X1011 hx (dB d6_17) 18 rfl rfl ?_
   refine w_getF X1011 hx hZ hown e1011 (host := "") (Or.inl (tw_36 hw)) Via.refl F_trailSize_a (dB d6_18) 21 rfl (fun T1012 X1012 e1012 => ?_)
   refine w_iconst X1012 hx (dB d6_21) 22 rfl (1 : Int32) (by decide) ?_
   refine w_isub X1012 hx (dB d6_22) 23 rfl (show (2 : Int32) = (3 : Int32) - (1 : Int32) from by decide) ?_
   refine w_dupX1 X1012 hx (dB d6_23) 24 rfl rfl rfl ?_
   refine w_putF X1012 hx hZ hown e1012 (host := "") (Or.inl (tw_36 hw)) Via.refl F_trailSize_a E_a (Or.inl (tw_37 hw)) (tw_18 hw) (ty := .int) (by decide) rfl rfl (dB d6_24) 27 rfl (fun T1013 h1013 X1013 e1013 W1013 => ?_)
   have F1014 : Exa Z h1013 a cN_2 := E_a.wr W1013
   have F1015 : Fld Z h1013 a cN_2 "values" cN_3 (.ref va) := F_values_a.other W1013 (Or.inr (slot_ne (Or.inr (tw_27 hw)) (Or.inl (tw_37 hw)) (by decide) (t := (.array (.object "com/example/simpagation/simpagation/Term"))) (t' := .int) (by decide) (by decide)))
   have F1016 : Fld Z h1013 a cN_2 "trail" "[I" (.ref ta) := F_trail_a.other W1013 (Or.inr (slot_ne (Or.inr (tw_30 hw)) (Or.inl (tw_37 hw)) (by decide) (t := (.array .int)) (t' := .int) (by decide) (by decide)))
   have F1017 : Fld Z h1013 a cN_2 "trailSize" "I" (.int (2 : Int32)) := F_trailSize_a.same W1013
   have F1018 : Arv Z h1013 va kv (.object cN_4) (3 : Int32) [(.ref vv), (.ref vv), (.ref vv)] .null := V_va.other W1013 (Ne.symm (ne_arv E_a (tw_18 hw) V_va))
   have F1019 : Arv Z h1013 ta kt .int (3 : Int32) [(.int (1 : Int32)), (.int (0 : Int32)), (.int (2 : Int32))] (.int (0 : Int32)) := V_ta.other W1013 (Ne.symm (ne_arv E_a (tw_18 hw) V_ta))
   have Z1013 : n0 ≤ h1013.size := by rw [W1013.size]; exact Z0
   have K1013 : Keep h0 h1013 [a, va] := (Keep.refl h0 [a, va]).wr W1013 (Or.inl (List.mem_of_getElem? (i := 0) rfl))
   have N1013 := Fr.snoc X1013 N0 g_a
   refine w_iaload X1013 hx hZ e1013 F1019 ⟨by decide, by decide⟩ (v := (.int (2 : Int32))) rfl (dB d6_27) 28 rfl ?_
   refine w_null X1013 hx (dB d6_28) 29 rfl ?_
   refine w_aastore X1013 hx hZ e1013 F1018 ⟨by decide, by decide⟩ 2 (by decide) (show 2 < 3 from (by decide)) rfl (Or.inl rfl) (dB d6_29) 30 rfl (fun T1020 h1020 X1020 e1020 W1020 V1020 => ?_)
   have F1021 : Exa Z h1020 a cN_2 := F1014.wr W1020
   have F1022 : Fld Z h1020 a cN_2 "values" cN_3 (.ref va) := F1015.other W1020 (Or.inl (ne_arv F1014 (tw_18 hw) F1018))
   have F1023 : Fld Z h1020 a cN_2 "trail" "[I" (.ref ta) := F1016.other W1020 (Or.inl (ne_arv F1014 (tw_18 hw) F1018))
   have F1024 : Fld Z h1020 a cN_2 "trailSize" "I" (.int (2 : Int32)) := F1017.other W1020 (Or.inl (ne_arv F1014 (tw_18 hw) F1018))
   have F1025 : Arv Z h1020 va kv (.object cN_4) (3 : Int32) [(.ref vv), (.ref vv), .null] .null := V1020
   have F1026 : Arv Z h1020 ta kt .int (3 : Int32) [(.int (1 : Int32)), (.int (0 : Int32)), (.int (2 : Int32))] (.int (0 : Int32)) := F1019.other W1020 (Ne.symm ne1)
   have Z1020 : n0 ≤ h1020.size := by rw [W1020.size]; exact Z1013
   have K1020 : Keep h0 h1020 [a, va] := K1013.wr W1020 (Or.inl (List.mem_of_getElem? (i := 1) rfl))
   have N1020 := Fr.snoc X1020 N1013 g_va
   refine w_goto X1020 hx (dB d6_30) 0 ?_
   refine w_aloadN X1020 hx (.ref a) (dB d6_0) 1 rfl rfl rfl ?_
   refine w_getF X1020 hx hZ hown e1020 (host := "") (Or.inl (tw_36 hw)) Via.refl F1024 (dB d6_1) 4 rfl (fun T1027 X1027 e1027 => ?_)
   refine w_iloadN X1027 hx (2 : Int32) (dB d6_4) 5 rfl rfl ?_
   refine w_icmp_le X1027 hx 2 2 (by decide) (by decide) (dB d6_5) 33 8 (fun c1028 => ?_) (fun c1028 => ?_)
   ·refine w_ret0 X1027 hx hlk hret (dB d6_33) (by decide) (by decide) ?_
    rw [e1027]
    exact ⟨rfl, N1020, K1020, F1022, F1023, F1024, F1025, F1026⟩
   ·exfalso; omega
theorem ef_6t12m0 (m : MethodId) (x0 : Addr) : entryFrame m #[(.ref x0), (.int (0 : Int32))] 2 = mkF m 0 #[.val (.ref x0), .val (.int (0 : Int32))] [] := by first | (simp [entryFrame, mkF, argsToLocals, Value.category]; done) | rfl
def Q6t12m0 (Z : State) (a : Addr) (va : Addr) (ta : Addr) (kv : ClassId) (kt : ClassId) (vv : Addr) (h0 : Heap) (n0 : Nat) (v : Option Value) (h : Heap) (L : List Loc) : Prop := v = none ∧ Fr n0 L ∧ Keep h0 h [a, va] ∧ Fld Z h a cN_2 "values" cN_3 (.ref va) ∧ Fld Z h a cN_2 "trail" "[I" (.ref ta) ∧ Fld Z h a cN_2 "trailSize" "I" (.int (0 : Int32)) ∧ Arv Z h va kv (.object cN_4) (3 : Int32) [.null, .null, .null] .null ∧ Arv Z h ta kt .int (3 : Int32) [(.int (1 : Int32)), (.int (2 : Int32)), (.int (0 : Int32))] (.int (0 : Int32))
set_option maxRecDepth 65536 in
set_option maxHeartbeats 40000000 in
theorem rm6t12m0 (l : Launch) (Z : State) (a0 : Array Value) (hw : ∀ d ∈ tables_1, d.before a0 Z = true) (ws : List Jvm.Cond) (a : Addr) (va : Addr) (ta : Addr) (kv : ClassId) (kt : ClassId) (vv : Addr) (h0 : Heap) (n0 : Nat) (Z0 : n0 ≤ h0.size) (E_a : Exa Z h0 a cN_2) (F_values_a : Fld Z h0 a cN_2 "values" cN_3 (.ref va)) (F_trail_a : Fld Z h0 a cN_2 "trail" "[I" (.ref ta)) (F_trailSize_a : Fld Z h0 a cN_2 "trailSize" "I" (.int (2 : Int32))) (V_va : Arv Z h0 va kv (.object cN_4) (3 : Int32) [.null, (.ref vv), (.ref vv)] .null) (V_ta : Arv Z h0 ta kt .int (3 : Int32) [(.int (1 : Int32)), (.int (2 : Int32)), (.int (0 : Int32))] (.int (0 : Int32))) (g_a : n0 ≤ a) (g_va : n0 ≤ va) (ne1 : va ≠ ta) (ov : Ovr Z kv "com/example/simpagation/simpagation/Term") :
    CT l mN_6 prog_1_method_7_code 2 none ws ({ frames := 0, cells := 0, slots := 0, locals := 0 } : Room) #[(.ref a), (.int (0 : Int32))] Z h0 (Q6t12m0 Z a va ta kv kt vv h0 n0) := by
  refine body_of (plainFor_of_name pn_2) ?_
  intro p e s m below meth c s₁ hx dB hret hlk hml hown0 hnm X0 e0 hZ
  have hown : s.vm.findClass cN_2 = some m.cls := hown0
  have N0 := Fr.nil n0
  rw [ef_6t12m0]
  show Wk p e below (FN s (Q6t12m0 Z a va ta kv kt vv h0 n0) 0 0) s₁ (mkF m 0 #[.val (.ref a), .val (.int (0 : Int32))] [])
  refine w_aloadN X0 hx (.ref a) (dB d6_0) 1 rfl rfl rfl ?_
  refine w_getF X0 hx hZ hown e0 (host := "") (Or.inl (tw_36 hw)) Via.refl F_trailSize_a (dB d6_1) 4 rfl (fun T1029 X1029 e1029 => ?_)
  refine w_iloadN X1029 hx (0 : Int32) (dB d6_4) 5 rfl rfl ?_
  refine w_icmp_le X1029 hx 2 0 (by decide) (by decide) (dB d6_5) 33 8 (fun c1030 => ?_) (fun c1030 => ?_)
  ·exfalso; omega
  ·refine w_aloadN X1029 hx (.ref a) (dB d6_8) 9 rfl rfl rfl ?_
   refine w_getF X1029 hx hZ hown e1029 (host := "") (Or.inl (tw_26 hw)) Via.refl F_values_a (dB d6_9) 12 rfl (fun T1031 X1031 e1031 => ?_)
   refine w_aloadN X1031 hx (.ref a) (dB d6_12) 13 rfl rfl rfl ?_
   refine w_getF X1031 hx hZ hown e1031 (host := "") (Or.inl (tw_29 hw)) Via.refl F_trail_a (dB d6_13) 16 rfl (fun T1032 X1032 e1032 => ?_)
   refine w_aloadN X1032 hx (.ref a) (dB d6_16) 17 rfl rfl rfl ?_
   refine w_dup X1032 hx (dB d6_17) 18 rfl rfl ?_
   refine w_getF X1032 hx hZ hown e1032 (host := "") (Or.inl (tw_36 hw)) Via.refl F_trailSize_a (dB d6_18) 21 rfl (fun T1033 X1033 e1033 => ?_)
   refine w_iconst X1033 hx (dB d6_21) 22 rfl (1 : Int32) (by decide) ?_
   refine w_isub X1033 hx (dB d6_22) 23 rfl (show (1 : Int32) = (2 : Int32) - (1 : Int32) from by decide) ?_
   refine w_dupX1 X1033 hx (dB d6_23) 24 rfl rfl rfl ?_
   refine w_putF X1033 hx hZ hown e1033 (host := "") (Or.inl (tw_36 hw)) Via.refl F_trailSize_a E_a (Or.inl (tw_37 hw)) (tw_18 hw) (ty := .int) (by decide) rfl rfl (dB d6_24) 27 rfl (fun T1034 h1034 X1034 e1034 W1034 => ?_)
   have F1035 : Exa Z h1034 a cN_2 := E_a.wr W1034
   have F1036 : Fld Z h1034 a cN_2 "values" cN_3 (.ref va) := F_values_a.other W1034 (Or.inr (slot_ne (Or.inr (tw_27 hw)) (Or.inl (tw_37 hw)) (by decide) (t := (.array (.object "com/example/simpagation/simpagation/Term"))) (t' := .int) (by decide) (by decide)))
   have F1037 : Fld Z h1034 a cN_2 "trail" "[I" (.ref ta) := F_trail_a.other W1034 (Or.inr (slot_ne (Or.inr (tw_30 hw)) (Or.inl (tw_37 hw)) (by decide) (t := (.array .int)) (t' := .int) (by decide) (by decide)))
   have F1038 : Fld Z h1034 a cN_2 "trailSize" "I" (.int (1 : Int32)) := F_trailSize_a.same W1034
   have F1039 : Arv Z h1034 va kv (.object cN_4) (3 : Int32) [.null, (.ref vv), (.ref vv)] .null := V_va.other W1034 (Ne.symm (ne_arv E_a (tw_18 hw) V_va))
   have F1040 : Arv Z h1034 ta kt .int (3 : Int32) [(.int (1 : Int32)), (.int (2 : Int32)), (.int (0 : Int32))] (.int (0 : Int32)) := V_ta.other W1034 (Ne.symm (ne_arv E_a (tw_18 hw) V_ta))
   have Z1034 : n0 ≤ h1034.size := by rw [W1034.size]; exact Z0
   have K1034 : Keep h0 h1034 [a, va] := (Keep.refl h0 [a, va]).wr W1034 (Or.inl (List.mem_of_getElem? (i := 0) rfl))
   have N1034 := Fr.snoc X1034 N0 g_a
   refine w_iaload X1034 hx hZ e1034 F1040 ⟨by decide, by decide⟩ (v := (.int (2 : Int32))) rfl (dB d6_27) 28 rfl ?_
   refine w_null X1034 hx (dB d6_28) 29 rfl ?_
   refine w_aastore X1034 hx hZ e1034 F1039 ⟨by decide, by decide⟩ 2 (by decide) (show 2 < 3 from (by decide)) rfl (Or.inl rfl) (dB d6_29) 30 rfl (fun T1041 h1041 X1041 e1041 W1041 V1041 => ?_)
   have F1042 : Exa Z h1041 a cN_2 := F1035.wr W1041
   have F1043 : Fld Z h1041 a cN_2 "values" cN_3 (.ref va) := F1036.other W1041 (Or.inl (ne_arv F1035 (tw_18 hw) F1039))
   have F1044 : Fld Z h1041 a cN_2 "trail" "[I" (.ref ta) := F1037.other W1041 (Or.inl (ne_arv F1035 (tw_18 hw) F1039))
   have F1045 : Fld Z h1041 a cN_2 "trailSize" "I" (.int (1 : Int32)) := F1038.other W1041 (Or.inl (ne_arv F1035 (tw_18 hw) F1039))
   have F1046 : Arv Z h1041 va kv (.object cN_4) (3 : Int32) [.null, (.ref vv), .null] .null := V1041
   have F1047 : Arv Z h1041 ta kt .int (3 : Int32) [(.int (1 : Int32)), (.int (2 : Int32)), (.int (0 : Int32))] (.int (0 : Int32)) := F1040.other W1041 (Ne.symm ne1)
   have Z1041 : n0 ≤ h1041.size := by rw [W1041.size]; exact Z1034
   have K1041 : Keep h0 h1041 [a, va] := K1034.wr W1041 (Or.inl (List.mem_of_getElem? (i := 1) rfl))
   have N1041 := Fr.snoc X1041 N1034 g_va
   refine w_goto X1041 hx (dB d6_30) 0 ?_
   refine w_aloadN X1041 hx (.ref a) (dB d6_0) 1 rfl rfl rfl ?_
   refine w_getF X1041 hx hZ hown e1041 (host := "") (Or.inl (tw_36 hw)) Via.refl F1045 (dB d6_1) 4 rfl (fun T1048 X1048 e1048 => ?_)
   refine w_iloadN X1048 hx (0 : Int32) (dB d6_4) 5 rfl rfl ?_
   refine w_icmp_le X1048 hx 1 0 (by decide) (by decide) (dB d6_5) 33 8 (fun c1049 => ?_) (fun c1049 => ?_)
   ·exfalso; omega
   ·refine w_aloadN X1048 hx (.ref a) (dB d6_8) 9 rfl rfl rfl ?_
    refine w_getF X1048 hx hZ hown e1048 (host := "") (Or.inl (tw_26 hw)) Via.refl F1043 (dB d6_9) 12 rfl (fun T1050 X1050 e1050 => ?_)
    refine w_aloadN X1050 hx (.ref a) (dB d6_12) 13 rfl rfl rfl ?_
    refine w_getF X1050 hx hZ hown e1050 (host := "") (Or.inl (tw_29 hw)) Via.refl F1044 (dB d6_13) 16 rfl (fun T1051 X1051 e1051 => ?_)
    refine w_aloadN X1051 hx (.ref a) (dB d6_16) 17 rfl rfl rfl ?_
    refine w_dup X1051 hx (dB d6_17) 18 rfl rfl ?_
    refine w_getF X1051 hx hZ hown e1051 (host := "") (Or.inl (tw_36 hw)) Via.refl F1045 (dB d6_18) 21 rfl (fun T1052 X1052 e1052 => ?_)
    refine w_iconst X1052 hx (dB d6_21) 22 rfl (1 : Int32) (by decide) ?_
    refine w_isub X1052 hx (dB d6_22) 23 rfl (show (0 : Int32) = (1 : Int32) - (1 : Int32) from by decide) ?_
    refine w_dupX1 X1052 hx (dB d6_23) 24 rfl rfl rfl ?_
    refine w_putF X1052 hx hZ hown e1052 (host := "") (Or.inl (tw_36 hw)) Via.refl F1045 F1042 (Or.inl (tw_37 hw)) (tw_18 hw) (ty := .int) (by decide) rfl rfl (dB d6_24) 27 rfl (fun T1053 h1053 X1053 e1053 W1053 => ?_)
    have F1054 : Exa Z h1053 a cN_2 := F1042.wr W1053
    have F1055 : Fld Z h1053 a cN_2 "values" cN_3 (.ref va) := F1043.other W1053 (Or.inr (slot_ne (Or.inr (tw_27 hw)) (Or.inl (tw_37 hw)) (by decide) (t := (.array (.object "com/example/simpagation/simpagation/Term"))) (t' := .int) (by decide) (by decide)))
    have F1056 : Fld Z h1053 a cN_2 "trail" "[I" (.ref ta) := F1044.other W1053 (Or.inr (slot_ne (Or.inr (tw_30 hw)) (Or.inl (tw_37 hw)) (by decide) (t := (.array .int)) (t' := .int) (by decide) (by decide)))
    have F1057 : Fld Z h1053 a cN_2 "trailSize" "I" (.int (0 : Int32)) := F1045.same W1053
    have F1058 : Arv Z h1053 va kv (.object cN_4) (3 : Int32) [.null, (.ref vv), .null] .null := F1046.other W1053 (Ne.symm (ne_arv F1042 (tw_18 hw) F1046))
    have F1059 : Arv Z h1053 ta kt .int (3 : Int32) [(.int (1 : Int32)), (.int (2 : Int32)), (.int (0 : Int32))] (.int (0 : Int32)) := F1047.other W1053 (Ne.symm (ne_arv F1042 (tw_18 hw) F1047))
    have Z1053 : n0 ≤ h1053.size := by rw [W1053.size]; exact Z1041
    have K1053 : Keep h0 h1053 [a, va] := K1041.wr W1053 (Or.inl (List.mem_of_getElem? (i := 0) rfl))
    have N1053 := Fr.snoc X1053 N1041 g_a
    refine w_iaload X1053 hx hZ e1053 F1059 ⟨by decide, by decide⟩ (v := (.int (1 : Int32))) rfl (dB d6_27) 28 rfl ?_
    refine w_null X1053 hx (dB d6_28) 29 rfl ?_
    refine w_aastore X1053 hx hZ e1053 F1058 ⟨by decide, by decide⟩ 1 (by decide) (show 1 < 3 from (by decide)) rfl (Or.inl rfl) (dB d6_29) 30 rfl (fun T1060 h1060 X1060 e1060 W1060 V1060 => ?_)
    have F1061 : Exa Z h1060 a cN_2 := F1054.wr W1060
    have F1062 : Fld Z h1060 a cN_2 "values" cN_3 (.ref va) := F1055.other W1060 (Or.inl (ne_arv F1054 (tw_18 hw) F1058))
    have F1063 : Fld Z h1060 a cN_2 "trail" "[I" (.ref ta) := F1056.other W1060 (Or.inl (ne_arv F1054 (tw_18 hw) F1058))
    have F1064 : Fld Z h1060 a cN_2 "trailSize" "I" (.int (0 : Int32)) := F1057.other W1060 (Or.inl (ne_arv F1054 (tw_18 hw) F1058))
    have F1065 : Arv Z h1060 va kv (.object cN_4) (3 : Int32) [.null, .null, .null] .null := V1060
    have F1066 : Arv Z h1060 ta kt .int (3 : Int32) [(.int (1 : Int32)), (.int (2 : Int32)), (.int (0 : Int32))] (.int (0 : Int32)) := F1059.other W1060 (Ne.symm ne1)
    have Z1060 : n0 ≤ h1060.size := by rw [W1060.size]; exact Z1053
    have K1060 : Keep h0 h1060 [a, va] := K1053.wr W1060 (Or.inl (List.mem_of_getElem? (i := 1) rfl))
    have N1060 := Fr.snoc X1060 N1053 g_va
    refine w_goto X1060 hx (dB d6_30) 0 ?_
    refine w_aloadN X1060 hx (.ref a) (dB d6_0) 1 rfl rfl rfl ?_
    refine w_getF X1060 hx hZ hown e1060 (host := "") (Or.inl (tw_36 hw)) Via.refl F1064 (dB d6_1) 4 rfl (fun T1067 X1067 e1067 => ?_)
    refine w_iloadN X1067 hx (0 : Int32) (dB d6_4) 5 rfl rfl ?_
    refine w_icmp_le X1067 hx 0 0 (by decide) (by decide) (dB d6_5) 33 8 (fun c1068 => ?_) (fun c1068 => ?_)
    ·refine w_ret0 X1067 hx hlk hret (dB d6_33) (by decide) (by decide) ?_
     rw [e1067]
     exact ⟨rfl, N1060, K1060, F1062, F1063, F1064, F1065, F1066⟩
    ·exfalso; omega
theorem ef_6t12m1 (m : MethodId) (x0 : Addr) : entryFrame m #[(.ref x0), (.int (1 : Int32))] 2 = mkF m 0 #[.val (.ref x0), .val (.int (1 : Int32))] [] := by first | (simp [entryFrame, mkF, argsToLocals, Value.category]; done) | rfl
def Q6t12m1 (Z : State) (a : Addr) (va : Addr) (ta : Addr) (kv : ClassId) (kt : ClassId) (vv : Addr) (h0 : Heap) (n0 : Nat) (v : Option Value) (h : Heap) (L : List Loc) : Prop := v = none ∧ Fr n0 L ∧ Keep h0 h [a, va] ∧ Fld Z h a cN_2 "values" cN_3 (.ref va) ∧ Fld Z h a cN_2 "trail" "[I" (.ref ta) ∧ Fld Z h a cN_2 "trailSize" "I" (.int (1 : Int32)) ∧ Arv Z h va kv (.object cN_4) (3 : Int32) [.null, (.ref vv), .null] .null ∧ Arv Z h ta kt .int (3 : Int32) [(.int (1 : Int32)), (.int (2 : Int32)), (.int (0 : Int32))] (.int (0 : Int32))
set_option maxRecDepth 65536 in
set_option maxHeartbeats 40000000 in
theorem rm6t12m1 (l : Launch) (Z : State) (a0 : Array Value) (hw : ∀ d ∈ tables_1, d.before a0 Z = true) (ws : List Jvm.Cond) (a : Addr) (va : Addr) (ta : Addr) (kv : ClassId) (kt : ClassId) (vv : Addr) (h0 : Heap) (n0 : Nat) (Z0 : n0 ≤ h0.size) (E_a : Exa Z h0 a cN_2) (F_values_a : Fld Z h0 a cN_2 "values" cN_3 (.ref va)) (F_trail_a : Fld Z h0 a cN_2 "trail" "[I" (.ref ta)) (F_trailSize_a : Fld Z h0 a cN_2 "trailSize" "I" (.int (2 : Int32))) (V_va : Arv Z h0 va kv (.object cN_4) (3 : Int32) [.null, (.ref vv), (.ref vv)] .null) (V_ta : Arv Z h0 ta kt .int (3 : Int32) [(.int (1 : Int32)), (.int (2 : Int32)), (.int (0 : Int32))] (.int (0 : Int32))) (g_a : n0 ≤ a) (g_va : n0 ≤ va) (ne1 : va ≠ ta) (ov : Ovr Z kv "com/example/simpagation/simpagation/Term") :
    CT l mN_6 prog_1_method_7_code 2 none ws ({ frames := 0, cells := 0, slots := 0, locals := 0 } : Room) #[(.ref a), (.int (1 : Int32))] Z h0 (Q6t12m1 Z a va ta kv kt vv h0 n0) := by
  refine body_of (plainFor_of_name pn_2) ?_
  intro p e s m below meth c s₁ hx dB hret hlk hml hown0 hnm X0 e0 hZ
  have hown : s.vm.findClass cN_2 = some m.cls := hown0
  have N0 := Fr.nil n0
  rw [ef_6t12m1]
  show Wk p e below (FN s (Q6t12m1 Z a va ta kv kt vv h0 n0) 0 0) s₁ (mkF m 0 #[.val (.ref a), .val (.int (1 : Int32))] [])
  refine w_aloadN X0 hx (.ref a) (dB d6_0) 1 rfl rfl rfl ?_
  refine w_getF X0 hx hZ hown e0 (host := "") (Or.inl (tw_36 hw)) Via.refl F_trailSize_a (dB d6_1) 4 rfl (fun T1069 X1069 e1069 => ?_)
  refine w_iloadN X1069 hx (1 : Int32) (dB d6_4) 5 rfl rfl ?_
  refine w_icmp_le X1069 hx 2 1 (by decide) (by decide) (dB d6_5) 33 8 (fun c1070 => ?_) (fun c1070 => ?_)
  ·exfalso; omega
  ·refine w_aloadN X1069 hx (.ref a) (dB d6_8) 9 rfl rfl rfl ?_
   refine w_getF X1069 hx hZ hown e1069 (host := "") (Or.inl (tw_26 hw)) Via.refl F_values_a (dB d6_9) 12 rfl (fun T1071 X1071 e1071 => ?_)
   refine w_aloadN X1071 hx (.ref a) (dB d6_12) 13 rfl rfl rfl ?_
   refine w_getF X1071 hx hZ hown e1071 (host := "") (Or.inl (tw_29 hw)) Via.refl F_trail_a (dB d6_13) 16 rfl (fun T1072 X1072 e1072 => ?_)
   refine w_aloadN X1072 hx (.ref a) (dB d6_16) 17 rfl rfl rfl ?_
   refine w_dup X1072 hx (dB d6_17) 18 rfl rfl ?_
   refine w_getF X1072 hx hZ hown e1072 (host := "") (Or.inl (tw_36 hw)) Via.refl F_trailSize_a (dB d6_18) 21 rfl (fun T1073 X1073 e1073 => ?_)
   refine w_iconst X1073 hx (dB d6_21) 22 rfl (1 : Int32) (by decide) ?_
   refine w_isub X1073 hx (dB d6_22) 23 rfl (show (1 : Int32) = (2 : Int32) - (1 : Int32) from by decide) ?_
   refine w_dupX1 X1073 hx (dB d6_23) 24 rfl rfl rfl ?_
   refine w_putF X1073 hx hZ hown e1073 (host := "") (Or.inl (tw_36 hw)) Via.refl F_trailSize_a E_a (Or.inl (tw_37 hw)) (tw_18 hw) (ty := .int) (by decide) rfl rfl (dB d6_24) 27 rfl (fun T1074 h1074 X1074 e1074 W1074 => ?_)
   have F1075 : Exa Z h1074 a cN_2 := E_a.wr W1074
   have F1076 : Fld Z h1074 a cN_2 "values" cN_3 (.ref va) := F_values_a.other W1074 (Or.inr (slot_ne (Or.inr (tw_27 hw)) (Or.inl (tw_37 hw)) (by decide) (t := (.array (.object "com/example/simpagation/simpagation/Term"))) (t' := .int) (by decide) (by decide)))
   have F1077 : Fld Z h1074 a cN_2 "trail" "[I" (.ref ta) := F_trail_a.other W1074 (Or.inr (slot_ne (Or.inr (tw_30 hw)) (Or.inl (tw_37 hw)) (by decide) (t := (.array .int)) (t' := .int) (by decide) (by decide)))
   have F1078 : Fld Z h1074 a cN_2 "trailSize" "I" (.int (1 : Int32)) := F_trailSize_a.same W1074
   have F1079 : Arv Z h1074 va kv (.object cN_4) (3 : Int32) [.null, (.ref vv), (.ref vv)] .null := V_va.other W1074 (Ne.symm (ne_arv E_a (tw_18 hw) V_va))
   have F1080 : Arv Z h1074 ta kt .int (3 : Int32) [(.int (1 : Int32)), (.int (2 : Int32)), (.int (0 : Int32))] (.int (0 : Int32)) := V_ta.other W1074 (Ne.symm (ne_arv E_a (tw_18 hw) V_ta))
   have Z1074 : n0 ≤ h1074.size := by rw [W1074.size]; exact Z0
   have K1074 : Keep h0 h1074 [a, va] := (Keep.refl h0 [a, va]).wr W1074 (Or.inl (List.mem_of_getElem? (i := 0) rfl))
   have N1074 := Fr.snoc X1074 N0 g_a
   refine w_iaload X1074 hx hZ e1074 F1080 ⟨by decide, by decide⟩ (v := (.int (2 : Int32))) rfl (dB d6_27) 28 rfl ?_
   refine w_null X1074 hx (dB d6_28) 29 rfl ?_
   refine w_aastore X1074 hx hZ e1074 F1079 ⟨by decide, by decide⟩ 2 (by decide) (show 2 < 3 from (by decide)) rfl (Or.inl rfl) (dB d6_29) 30 rfl (fun T1081 h1081 X1081 e1081 W1081 V1081 => ?_)
   have F1082 : Exa Z h1081 a cN_2 := F1075.wr W1081
   have F1083 : Fld Z h1081 a cN_2 "values" cN_3 (.ref va) := F1076.other W1081 (Or.inl (ne_arv F1075 (tw_18 hw) F1079))
   have F1084 : Fld Z h1081 a cN_2 "trail" "[I" (.ref ta) := F1077.other W1081 (Or.inl (ne_arv F1075 (tw_18 hw) F1079))
   have F1085 : Fld Z h1081 a cN_2 "trailSize" "I" (.int (1 : Int32)) := F1078.other W1081 (Or.inl (ne_arv F1075 (tw_18 hw) F1079))
   have F1086 : Arv Z h1081 va kv (.object cN_4) (3 : Int32) [.null, (.ref vv), .null] .null := V1081
   have F1087 : Arv Z h1081 ta kt .int (3 : Int32) [(.int (1 : Int32)), (.int (2 : Int32)), (.int (0 : Int32))] (.int (0 : Int32)) := F1080.other W1081 (Ne.symm ne1)
   have Z1081 : n0 ≤ h1081.size := by rw [W1081.size]; exact Z1074
   have K1081 : Keep h0 h1081 [a, va] := K1074.wr W1081 (Or.inl (List.mem_of_getElem? (i := 1) rfl))
   have N1081 := Fr.snoc X1081 N1074 g_va
   refine w_goto X1081 hx (dB d6_30) 0 ?_
   refine w_aloadN X1081 hx (.ref a) (dB d6_0) 1 rfl rfl rfl ?_
   refine w_getF X1081 hx hZ hown e1081 (host := "") (Or.inl (tw_36 hw)) Via.refl F1085 (dB d6_1) 4 rfl (fun T1088 X1088 e1088 => ?_)
   refine w_iloadN X1088 hx (1 : Int32) (dB d6_4) 5 rfl rfl ?_
   refine w_icmp_le X1088 hx 1 1 (by decide) (by decide) (dB d6_5) 33 8 (fun c1089 => ?_) (fun c1089 => ?_)
   ·refine w_ret0 X1088 hx hlk hret (dB d6_33) (by decide) (by decide) ?_
    rw [e1088]
    exact ⟨rfl, N1081, K1081, F1083, F1084, F1085, F1086, F1087⟩
   ·exfalso; omega
theorem ef_6t120m0 (m : MethodId) (x0 : Addr) : entryFrame m #[(.ref x0), (.int (0 : Int32))] 2 = mkF m 0 #[.val (.ref x0), .val (.int (0 : Int32))] [] := by first | (simp [entryFrame, mkF, argsToLocals, Value.category]; done) | rfl
def Q6t120m0 (Z : State) (a : Addr) (va : Addr) (ta : Addr) (kv : ClassId) (kt : ClassId) (vv : Addr) (h0 : Heap) (n0 : Nat) (v : Option Value) (h : Heap) (L : List Loc) : Prop := v = none ∧ Fr n0 L ∧ Keep h0 h [a, va] ∧ Fld Z h a cN_2 "values" cN_3 (.ref va) ∧ Fld Z h a cN_2 "trail" "[I" (.ref ta) ∧ Fld Z h a cN_2 "trailSize" "I" (.int (0 : Int32)) ∧ Arv Z h va kv (.object cN_4) (3 : Int32) [.null, .null, .null] .null ∧ Arv Z h ta kt .int (3 : Int32) [(.int (1 : Int32)), (.int (2 : Int32)), (.int (0 : Int32))] (.int (0 : Int32))
set_option maxRecDepth 65536 in
set_option maxHeartbeats 40000000 in
theorem rm6t120m0 (l : Launch) (Z : State) (a0 : Array Value) (hw : ∀ d ∈ tables_1, d.before a0 Z = true) (ws : List Jvm.Cond) (a : Addr) (va : Addr) (ta : Addr) (kv : ClassId) (kt : ClassId) (vv : Addr) (h0 : Heap) (n0 : Nat) (Z0 : n0 ≤ h0.size) (E_a : Exa Z h0 a cN_2) (F_values_a : Fld Z h0 a cN_2 "values" cN_3 (.ref va)) (F_trail_a : Fld Z h0 a cN_2 "trail" "[I" (.ref ta)) (F_trailSize_a : Fld Z h0 a cN_2 "trailSize" "I" (.int (3 : Int32))) (V_va : Arv Z h0 va kv (.object cN_4) (3 : Int32) [(.ref vv), (.ref vv), (.ref vv)] .null) (V_ta : Arv Z h0 ta kt .int (3 : Int32) [(.int (1 : Int32)), (.int (2 : Int32)), (.int (0 : Int32))] (.int (0 : Int32))) (g_a : n0 ≤ a) (g_va : n0 ≤ va) (ne1 : va ≠ ta) (ov : Ovr Z kv "com/example/simpagation/simpagation/Term") :
    CT l mN_6 prog_1_method_7_code 2 none ws ({ frames := 0, cells := 0, slots := 0, locals := 0 } : Room) #[(.ref a), (.int (0 : Int32))] Z h0 (Q6t120m0 Z a va ta kv kt vv h0 n0) := by
  refine body_of (plainFor_of_name pn_2) ?_
  intro p e s m below meth c s₁ hx dB hret hlk hml hown0 hnm X0 e0 hZ
  have hown : s.vm.findClass cN_2 = some m.cls := hown0
  have N0 := Fr.nil n0
  rw [ef_6t120m0]
  show Wk p e below (FN s (Q6t120m0 Z a va ta kv kt vv h0 n0) 0 0) s₁ (mkF m 0 #[.val (.ref a), .val (.int (0 : Int32))] [])
  refine w_aloadN X0 hx (.ref a) (dB d6_0) 1 rfl rfl rfl ?_
  refine w_getF X0 hx hZ hown e0 (host := "") (Or.inl (tw_36 hw)) Via.refl F_trailSize_a (dB d6_1) 4 rfl (fun T1090 X1090 e1090 => ?_)
  refine w_iloadN X1090 hx (0 : Int32) (dB d6_4) 5 rfl rfl ?_
  refine w_icmp_le X1090 hx 3 0 (by decide) (by decide) (dB d6_5) 33 8 (fun c1091 => ?_) (fun c1091 => ?_)
  ·exfalso; omega
  ·refine w_aloadN X1090 hx (.ref a) (dB d6_8) 9 rfl rfl rfl ?_
   refine w_getF X1090 hx hZ hown e1090 (host := "") (Or.inl (tw_26 hw)) Via.refl F_values_a (dB d6_9) 12 rfl (fun T1092 X1092 e1092 => ?_)
   refine w_aloadN X1092 hx (.ref a) (dB d6_12) 13 rfl rfl rfl ?_
   refine w_getF X1092 hx hZ hown e1092 (host := "") (Or.inl (tw_29 hw)) Via.refl F_trail_a (dB d6_13) 16 rfl (fun T1093 X1093 e1093 => ?_)
   refine w_aloadN X1093 hx (.ref a) (dB d6_16) 17 rfl rfl rfl ?_
   refine w_dup X1093 hx (dB d6_17) 18 rfl rfl ?_
   refine w_getF X1093 hx hZ hown e1093 (host := "") (Or.inl (tw_36 hw)) Via.refl F_trailSize_a (dB d6_18) 21 rfl (fun T1094 X1094 e1094 => ?_)
   refine w_iconst X1094 hx (dB d6_21) 22 rfl (1 : Int32) (by decide) ?_
   refine w_isub X1094 hx (dB d6_22) 23 rfl (show (2 : Int32) = (3 : Int32) - (1 : Int32) from by decide) ?_
   refine w_dupX1 X1094 hx (dB d6_23) 24 rfl rfl rfl ?_
   refine w_putF X1094 hx hZ hown e1094 (host := "") (Or.inl (tw_36 hw)) Via.refl F_trailSize_a E_a (Or.inl (tw_37 hw)) (tw_18 hw) (ty := .int) (by decide) rfl rfl (dB d6_24) 27 rfl (fun T1095 h1095 X1095 e1095 W1095 => ?_)
   have F1096 : Exa Z h1095 a cN_2 := E_a.wr W1095
   have F1097 : Fld Z h1095 a cN_2 "values" cN_3 (.ref va) := F_values_a.other W1095 (Or.inr (slot_ne (Or.inr (tw_27 hw)) (Or.inl (tw_37 hw)) (by decide) (t := (.array (.object "com/example/simpagation/simpagation/Term"))) (t' := .int) (by decide) (by decide)))
   have F1098 : Fld Z h1095 a cN_2 "trail" "[I" (.ref ta) := F_trail_a.other W1095 (Or.inr (slot_ne (Or.inr (tw_30 hw)) (Or.inl (tw_37 hw)) (by decide) (t := (.array .int)) (t' := .int) (by decide) (by decide)))
   have F1099 : Fld Z h1095 a cN_2 "trailSize" "I" (.int (2 : Int32)) := F_trailSize_a.same W1095
   have F1100 : Arv Z h1095 va kv (.object cN_4) (3 : Int32) [(.ref vv), (.ref vv), (.ref vv)] .null := V_va.other W1095 (Ne.symm (ne_arv E_a (tw_18 hw) V_va))
   have F1101 : Arv Z h1095 ta kt .int (3 : Int32) [(.int (1 : Int32)), (.int (2 : Int32)), (.int (0 : Int32))] (.int (0 : Int32)) := V_ta.other W1095 (Ne.symm (ne_arv E_a (tw_18 hw) V_ta))
   have Z1095 : n0 ≤ h1095.size := by rw [W1095.size]; exact Z0
   have K1095 : Keep h0 h1095 [a, va] := (Keep.refl h0 [a, va]).wr W1095 (Or.inl (List.mem_of_getElem? (i := 0) rfl))
   have N1095 := Fr.snoc X1095 N0 g_a
   refine w_iaload X1095 hx hZ e1095 F1101 ⟨by decide, by decide⟩ (v := (.int (0 : Int32))) rfl (dB d6_27) 28 rfl ?_
   refine w_null X1095 hx (dB d6_28) 29 rfl ?_
   refine w_aastore X1095 hx hZ e1095 F1100 ⟨by decide, by decide⟩ 0 (by decide) (show 0 < 3 from (by decide)) rfl (Or.inl rfl) (dB d6_29) 30 rfl (fun T1102 h1102 X1102 e1102 W1102 V1102 => ?_)
   have F1103 : Exa Z h1102 a cN_2 := F1096.wr W1102
   have F1104 : Fld Z h1102 a cN_2 "values" cN_3 (.ref va) := F1097.other W1102 (Or.inl (ne_arv F1096 (tw_18 hw) F1100))
   have F1105 : Fld Z h1102 a cN_2 "trail" "[I" (.ref ta) := F1098.other W1102 (Or.inl (ne_arv F1096 (tw_18 hw) F1100))
   have F1106 : Fld Z h1102 a cN_2 "trailSize" "I" (.int (2 : Int32)) := F1099.other W1102 (Or.inl (ne_arv F1096 (tw_18 hw) F1100))
   have F1107 : Arv Z h1102 va kv (.object cN_4) (3 : Int32) [.null, (.ref vv), (.ref vv)] .null := V1102
   have F1108 : Arv Z h1102 ta kt .int (3 : Int32) [(.int (1 : Int32)), (.int (2 : Int32)), (.int (0 : Int32))] (.int (0 : Int32)) := F1101.other W1102 (Ne.symm ne1)
   have Z1102 : n0 ≤ h1102.size := by rw [W1102.size]; exact Z1095
   have K1102 : Keep h0 h1102 [a, va] := K1095.wr W1102 (Or.inl (List.mem_of_getElem? (i := 1) rfl))
   have N1102 := Fr.snoc X1102 N1095 g_va
   refine w_goto X1102 hx (dB d6_30) 0 ?_
   refine w_aloadN X1102 hx (.ref a) (dB d6_0) 1 rfl rfl rfl ?_
   refine w_getF X1102 hx hZ hown e1102 (host := "") (Or.inl (tw_36 hw)) Via.refl F1106 (dB d6_1) 4 rfl (fun T1109 X1109 e1109 => ?_)
   refine w_iloadN X1109 hx (0 : Int32) (dB d6_4) 5 rfl rfl ?_
   refine w_icmp_le X1109 hx 2 0 (by decide) (by decide) (dB d6_5) 33 8 (fun c1110 => ?_) (fun c1110 => ?_)
   ·exfalso; omega
   ·refine w_aloadN X1109 hx (.ref a) (dB d6_8) 9 rfl rfl rfl ?_
    refine w_getF X1109 hx hZ hown e1109 (host := "") (Or.inl (tw_26 hw)) Via.refl F1104 (dB d6_9) 12 rfl (fun T1111 X1111 e1111 => ?_)
    refine w_aloadN X1111 hx (.ref a) (dB d6_12) 13 rfl rfl rfl ?_
    refine w_getF X1111 hx hZ hown e1111 (host := "") (Or.inl (tw_29 hw)) Via.refl F1105 (dB d6_13) 16 rfl (fun T1112 X1112 e1112 => ?_)
    refine w_aloadN X1112 hx (.ref a) (dB d6_16) 17 rfl rfl rfl ?_
    refine w_dup X1112 hx (dB d6_17) 18 rfl rfl ?_
    refine w_getF X1112 hx hZ hown e1112 (host := "") (Or.inl (tw_36 hw)) Via.refl F1106 (dB d6_18) 21 rfl (fun T1113 X1113 e1113 => ?_)
    refine w_iconst X1113 hx (dB d6_21) 22 rfl (1 : Int32) (by decide) ?_
    refine w_isub X1113 hx (dB d6_22) 23 rfl (show (1 : Int32) = (2 : Int32) - (1 : Int32) from by decide) ?_
    refine w_dupX1 X1113 hx (dB d6_23) 24 rfl rfl rfl ?_
    refine w_putF X1113 hx hZ hown e1113 (host := "") (Or.inl (tw_36 hw)) Via.refl F1106 F1103 (Or.inl (tw_37 hw)) (tw_18 hw) (ty := .int) (by decide) rfl rfl (dB d6_24) 27 rfl (fun T1114 h1114 X1114 e1114 W1114 => ?_)
    have F1115 : Exa Z h1114 a cN_2 := F1103.wr W1114
    have F1116 : Fld Z h1114 a cN_2 "values" cN_3 (.ref va) := F1104.other W1114 (Or.inr (slot_ne (Or.inr (tw_27 hw)) (Or.inl (tw_37 hw)) (by decide) (t := (.array (.object "com/example/simpagation/simpagation/Term"))) (t' := .int) (by decide) (by decide)))
    have F1117 : Fld Z h1114 a cN_2 "trail" "[I" (.ref ta) := F1105.other W1114 (Or.inr (slot_ne (Or.inr (tw_30 hw)) (Or.inl (tw_37 hw)) (by decide) (t := (.array .int)) (t' := .int) (by decide) (by decide)))
    have F1118 : Fld Z h1114 a cN_2 "trailSize" "I" (.int (1 : Int32)) := F1106.same W1114
    have F1119 : Arv Z h1114 va kv (.object cN_4) (3 : Int32) [.null, (.ref vv), (.ref vv)] .null := F1107.other W1114 (Ne.symm (ne_arv F1103 (tw_18 hw) F1107))
    have F1120 : Arv Z h1114 ta kt .int (3 : Int32) [(.int (1 : Int32)), (.int (2 : Int32)), (.int (0 : Int32))] (.int (0 : Int32)) := F1108.other W1114 (Ne.symm (ne_arv F1103 (tw_18 hw) F1108))
    have Z1114 : n0 ≤ h1114.size := by rw [W1114.size]; exact Z1102
    have K1114 : Keep h0 h1114 [a, va] := K1102.wr W1114 (Or.inl (List.mem_of_getElem? (i := 0) rfl))
    have N1114 := Fr.snoc X1114 N1102 g_a
    refine w_iaload X1114 hx hZ e1114 F1120 ⟨by decide, by decide⟩ (v := (.int (2 : Int32))) rfl (dB d6_27) 28 rfl ?_
    refine w_null X1114 hx (dB d6_28) 29 rfl ?_
    refine w_aastore X1114 hx hZ e1114 F1119 ⟨by decide, by decide⟩ 2 (by decide) (show 2 < 3 from (by decide)) rfl (Or.inl rfl) (dB d6_29) 30 rfl (fun T1121 h1121 X1121 e1121 W1121 V1121 => ?_)
    have F1122 : Exa Z h1121 a cN_2 := F1115.wr W1121
    have F1123 : Fld Z h1121 a cN_2 "values" cN_3 (.ref va) := F1116.other W1121 (Or.inl (ne_arv F1115 (tw_18 hw) F1119))
    have F1124 : Fld Z h1121 a cN_2 "trail" "[I" (.ref ta) := F1117.other W1121 (Or.inl (ne_arv F1115 (tw_18 hw) F1119))
    have F1125 : Fld Z h1121 a cN_2 "trailSize" "I" (.int (1 : Int32)) := F1118.other W1121 (Or.inl (ne_arv F1115 (tw_18 hw) F1119))
    have F1126 : Arv Z h1121 va kv (.object cN_4) (3 : Int32) [.null, (.ref vv), .null] .null := V1121
    have F1127 : Arv Z h1121 ta kt .int (3 : Int32) [(.int (1 : Int32)), (.int (2 : Int32)), (.int (0 : Int32))] (.int (0 : Int32)) := F1120.other W1121 (Ne.symm ne1)
    have Z1121 : n0 ≤ h1121.size := by rw [W1121.size]; exact Z1114
    have K1121 : Keep h0 h1121 [a, va] := K1114.wr W1121 (Or.inl (List.mem_of_getElem? (i := 1) rfl))
    have N1121 := Fr.snoc X1121 N1114 g_va
    refine w_goto X1121 hx (dB d6_30) 0 ?_
    refine w_aloadN X1121 hx (.ref a) (dB d6_0) 1 rfl rfl rfl ?_
    refine w_getF X1121 hx hZ hown e1121 (host := "") (Or.inl (tw_36 hw)) Via.refl F1125 (dB d6_1) 4 rfl (fun T1128 X1128 e1128 => ?_)
    refine w_iloadN X1128 hx (0 : Int32) (dB d6_4) 5 rfl rfl ?_
    refine w_icmp_le X1128 hx 1 0 (by decide) (by decide) (dB d6_5) 33 8 (fun c1129 => ?_) (fun c1129 => ?_)
    ·exfalso; omega
    ·refine w_aloadN X1128 hx (.ref a) (dB d6_8) 9 rfl rfl rfl ?_
     refine w_getF X1128 hx hZ hown e1128 (host := "") (Or.inl (tw_26 hw)) Via.refl F1123 (dB d6_9) 12 rfl (fun T1130 X1130 e1130 => ?_)
     refine w_aloadN X1130 hx (.ref a) (dB d6_12) 13 rfl rfl rfl ?_
     refine w_getF X1130 hx hZ hown e1130 (host := "") (Or.inl (tw_29 hw)) Via.refl F1124 (dB d6_13) 16 rfl (fun T1131 X1131 e1131 => ?_)
     refine w_aloadN X1131 hx (.ref a) (dB d6_16) 17 rfl rfl rfl ?_
     refine w_dup X1131 hx (dB d6_17) 18 rfl rfl ?_
     refine w_getF X1131 hx hZ hown e1131 (host := "") (Or.inl (tw_36 hw)) Via.refl F1125 (dB d6_18) 21 rfl (fun T1132 X1132 e1132 => ?_)
     refine w_iconst X1132 hx (dB d6_21) 22 rfl (1 : Int32) (by decide) ?_
     refine w_isub X1132 hx (dB d6_22) 23 rfl (show (0 : Int32) = (1 : Int32) - (1 : Int32) from by decide) ?_
     refine w_dupX1 X1132 hx (dB d6_23) 24 rfl rfl rfl ?_
     refine w_putF X1132 hx hZ hown e1132 (host := "") (Or.inl (tw_36 hw)) Via.refl F1125 F1122 (Or.inl (tw_37 hw)) (tw_18 hw) (ty := .int) (by decide) rfl rfl (dB d6_24) 27 rfl (fun T1133 h1133 X1133 e1133 W1133 => ?_)
     have F1134 : Exa Z h1133 a cN_2 := F1122.wr W1133
     have F1135 : Fld Z h1133 a cN_2 "values" cN_3 (.ref va) := F1123.other W1133 (Or.inr (slot_ne (Or.inr (tw_27 hw)) (Or.inl (tw_37 hw)) (by decide) (t := (.array (.object "com/example/simpagation/simpagation/Term"))) (t' := .int) (by decide) (by decide)))
     have F1136 : Fld Z h1133 a cN_2 "trail" "[I" (.ref ta) := F1124.other W1133 (Or.inr (slot_ne (Or.inr (tw_30 hw)) (Or.inl (tw_37 hw)) (by decide) (t := (.array .int)) (t' := .int) (by decide) (by decide)))
     have F1137 : Fld Z h1133 a cN_2 "trailSize" "I" (.int (0 : Int32)) := F1125.same W1133
     have F1138 : Arv Z h1133 va kv (.object cN_4) (3 : Int32) [.null, (.ref vv), .null] .null := F1126.other W1133 (Ne.symm (ne_arv F1122 (tw_18 hw) F1126))
     have F1139 : Arv Z h1133 ta kt .int (3 : Int32) [(.int (1 : Int32)), (.int (2 : Int32)), (.int (0 : Int32))] (.int (0 : Int32)) := F1127.other W1133 (Ne.symm (ne_arv F1122 (tw_18 hw) F1127))
     have Z1133 : n0 ≤ h1133.size := by rw [W1133.size]; exact Z1121
     have K1133 : Keep h0 h1133 [a, va] := K1121.wr W1133 (Or.inl (List.mem_of_getElem? (i := 0) rfl))
     have N1133 := Fr.snoc X1133 N1121 g_a
     refine w_iaload X1133 hx hZ e1133 F1139 ⟨by decide, by decide⟩ (v := (.int (1 : Int32))) rfl (dB d6_27) 28 rfl ?_
     refine w_null X1133 hx (dB d6_28) 29 rfl ?_
     refine w_aastore X1133 hx hZ e1133 F1138 ⟨by decide, by decide⟩ 1 (by decide) (show 1 < 3 from (by decide)) rfl (Or.inl rfl) (dB d6_29) 30 rfl (fun T1140 h1140 X1140 e1140 W1140 V1140 => ?_)
     have F1141 : Exa Z h1140 a cN_2 := F1134.wr W1140
     have F1142 : Fld Z h1140 a cN_2 "values" cN_3 (.ref va) := F1135.other W1140 (Or.inl (ne_arv F1134 (tw_18 hw) F1138))
     have F1143 : Fld Z h1140 a cN_2 "trail" "[I" (.ref ta) := F1136.other W1140 (Or.inl (ne_arv F1134 (tw_18 hw) F1138))
     have F1144 : Fld Z h1140 a cN_2 "trailSize" "I" (.int (0 : Int32)) := F1137.other W1140 (Or.inl (ne_arv F1134 (tw_18 hw) F1138))
     have F1145 : Arv Z h1140 va kv (.object cN_4) (3 : Int32) [.null, .null, .null] .null := V1140
     have F1146 : Arv Z h1140 ta kt .int (3 : Int32) [(.int (1 : Int32)), (.int (2 : Int32)), (.int (0 : Int32))] (.int (0 : Int32)) := F1139.other W1140 (Ne.symm ne1)
     have Z1140 : n0 ≤ h1140.size := by rw [W1140.size]; exact Z1133
     have K1140 : Keep h0 h1140 [a, va] := K1133.wr W1140 (Or.inl (List.mem_of_getElem? (i := 1) rfl))
     have N1140 := Fr.snoc X1140 N1133 g_va
     refine w_goto X1140 hx (dB d6_30) 0 ?_
     refine w_aloadN X1140 hx (.ref a) (dB d6_0) 1 rfl rfl rfl ?_
     refine w_getF X1140 hx hZ hown e1140 (host := "") (Or.inl (tw_36 hw)) Via.refl F1144 (dB d6_1) 4 rfl (fun T1147 X1147 e1147 => ?_)
     refine w_iloadN X1147 hx (0 : Int32) (dB d6_4) 5 rfl rfl ?_
     refine w_icmp_le X1147 hx 0 0 (by decide) (by decide) (dB d6_5) 33 8 (fun c1148 => ?_) (fun c1148 => ?_)
     ·refine w_ret0 X1147 hx hlk hret (dB d6_33) (by decide) (by decide) ?_
      rw [e1147]
      exact ⟨rfl, N1140, K1140, F1142, F1143, F1144, F1145, F1146⟩
     ·exfalso; omega
theorem ef_6t120m1 (m : MethodId) (x0 : Addr) : entryFrame m #[(.ref x0), (.int (1 : Int32))] 2 = mkF m 0 #[.val (.ref x0), .val (.int (1 : Int32))] [] := by first | (simp [entryFrame, mkF, argsToLocals, Value.category]; done) | rfl
def Q6t120m1 (Z : State) (a : Addr) (va : Addr) (ta : Addr) (kv : ClassId) (kt : ClassId) (vv : Addr) (h0 : Heap) (n0 : Nat) (v : Option Value) (h : Heap) (L : List Loc) : Prop := v = none ∧ Fr n0 L ∧ Keep h0 h [a, va] ∧ Fld Z h a cN_2 "values" cN_3 (.ref va) ∧ Fld Z h a cN_2 "trail" "[I" (.ref ta) ∧ Fld Z h a cN_2 "trailSize" "I" (.int (1 : Int32)) ∧ Arv Z h va kv (.object cN_4) (3 : Int32) [.null, (.ref vv), .null] .null ∧ Arv Z h ta kt .int (3 : Int32) [(.int (1 : Int32)), (.int (2 : Int32)), (.int (0 : Int32))] (.int (0 : Int32))
set_option maxRecDepth 65536 in
set_option maxHeartbeats 40000000 in
theorem rm6t120m1 (l : Launch) (Z : State) (a0 : Array Value) (hw : ∀ d ∈ tables_1, d.before a0 Z = true) (ws : List Jvm.Cond) (a : Addr) (va : Addr) (ta : Addr) (kv : ClassId) (kt : ClassId) (vv : Addr) (h0 : Heap) (n0 : Nat) (Z0 : n0 ≤ h0.size) (E_a : Exa Z h0 a cN_2) (F_values_a : Fld Z h0 a cN_2 "values" cN_3 (.ref va)) (F_trail_a : Fld Z h0 a cN_2 "trail" "[I" (.ref ta)) (F_trailSize_a : Fld Z h0 a cN_2 "trailSize" "I" (.int (3 : Int32))) (V_va : Arv Z h0 va kv (.object cN_4) (3 : Int32) [(.ref vv), (.ref vv), (.ref vv)] .null) (V_ta : Arv Z h0 ta kt .int (3 : Int32) [(.int (1 : Int32)), (.int (2 : Int32)), (.int (0 : Int32))] (.int (0 : Int32))) (g_a : n0 ≤ a) (g_va : n0 ≤ va) (ne1 : va ≠ ta) (ov : Ovr Z kv "com/example/simpagation/simpagation/Term") :
    CT l mN_6 prog_1_method_7_code 2 none ws ({ frames := 0, cells := 0, slots := 0, locals := 0 } : Room) #[(.ref a), (.int (1 : Int32))] Z h0 (Q6t120m1 Z a va ta kv kt vv h0 n0) := by
  refine body_of (plainFor_of_name pn_2) ?_
  intro p e s m below meth c s₁ hx dB hret hlk hml hown0 hnm X0 e0 hZ
  have hown : s.vm.findClass cN_2 = some m.cls := hown0
  have N0 := Fr.nil n0
  rw [ef_6t120m1]
  show Wk p e below (FN s (Q6t120m1 Z a va ta kv kt vv h0 n0) 0 0) s₁ (mkF m 0 #[.val (.ref a), .val (.int (1 : Int32))] [])
  refine w_aloadN X0 hx (.ref a) (dB d6_0) 1 rfl rfl rfl ?_
  refine w_getF X0 hx hZ hown e0 (host := "") (Or.inl (tw_36 hw)) Via.refl F_trailSize_a (dB d6_1) 4 rfl (fun T1149 X1149 e1149 => ?_)
  refine w_iloadN X1149 hx (1 : Int32) (dB d6_4) 5 rfl rfl ?_
  refine w_icmp_le X1149 hx 3 1 (by decide) (by decide) (dB d6_5) 33 8 (fun c1150 => ?_) (fun c1150 => ?_)
  ·exfalso; omega
  ·refine w_aloadN X1149 hx (.ref a) (dB d6_8) 9 rfl rfl rfl ?_
   refine w_getF X1149 hx hZ hown e1149 (host := "") (Or.inl (tw_26 hw)) Via.refl F_values_a (dB d6_9) 12 rfl (fun T1151 X1151 e1151 => ?_)
   refine w_aloadN X1151 hx (.ref a) (dB d6_12) 13 rfl rfl rfl ?_
   refine w_getF X1151 hx hZ hown e1151 (host := "") (Or.inl (tw_29 hw)) Via.refl F_trail_a (dB d6_13) 16 rfl (fun T1152 X1152 e1152 => ?_)
   refine w_aloadN X1152 hx (.ref a) (dB d6_16) 17 rfl rfl rfl ?_
   refine w_dup X1152 hx (dB d6_17) 18 rfl rfl ?_
   refine w_getF X1152 hx hZ hown e1152 (host := "") (Or.inl (tw_36 hw)) Via.refl F_trailSize_a (dB d6_18) 21 rfl (fun T1153 X1153 e1153 => ?_)
   refine w_iconst X1153 hx (dB d6_21) 22 rfl (1 : Int32) (by decide) ?_
   refine w_isub X1153 hx (dB d6_22) 23 rfl (show (2 : Int32) = (3 : Int32) - (1 : Int32) from by decide) ?_
   refine w_dupX1 X1153 hx (dB d6_23) 24 rfl rfl rfl ?_
   refine w_putF X1153 hx hZ hown e1153 (host := "") (Or.inl (tw_36 hw)) Via.refl F_trailSize_a E_a (Or.inl (tw_37 hw)) (tw_18 hw) (ty := .int) (by decide) rfl rfl (dB d6_24) 27 rfl (fun T1154 h1154 X1154 e1154 W1154 => ?_)
   have F1155 : Exa Z h1154 a cN_2 := E_a.wr W1154
   have F1156 : Fld Z h1154 a cN_2 "values" cN_3 (.ref va) := F_values_a.other W1154 (Or.inr (slot_ne (Or.inr (tw_27 hw)) (Or.inl (tw_37 hw)) (by decide) (t := (.array (.object "com/example/simpagation/simpagation/Term"))) (t' := .int) (by decide) (by decide)))
   have F1157 : Fld Z h1154 a cN_2 "trail" "[I" (.ref ta) := F_trail_a.other W1154 (Or.inr (slot_ne (Or.inr (tw_30 hw)) (Or.inl (tw_37 hw)) (by decide) (t := (.array .int)) (t' := .int) (by decide) (by decide)))
   have F1158 : Fld Z h1154 a cN_2 "trailSize" "I" (.int (2 : Int32)) := F_trailSize_a.same W1154
   have F1159 : Arv Z h1154 va kv (.object cN_4) (3 : Int32) [(.ref vv), (.ref vv), (.ref vv)] .null := V_va.other W1154 (Ne.symm (ne_arv E_a (tw_18 hw) V_va))
   have F1160 : Arv Z h1154 ta kt .int (3 : Int32) [(.int (1 : Int32)), (.int (2 : Int32)), (.int (0 : Int32))] (.int (0 : Int32)) := V_ta.other W1154 (Ne.symm (ne_arv E_a (tw_18 hw) V_ta))
   have Z1154 : n0 ≤ h1154.size := by rw [W1154.size]; exact Z0
   have K1154 : Keep h0 h1154 [a, va] := (Keep.refl h0 [a, va]).wr W1154 (Or.inl (List.mem_of_getElem? (i := 0) rfl))
   have N1154 := Fr.snoc X1154 N0 g_a
   refine w_iaload X1154 hx hZ e1154 F1160 ⟨by decide, by decide⟩ (v := (.int (0 : Int32))) rfl (dB d6_27) 28 rfl ?_
   refine w_null X1154 hx (dB d6_28) 29 rfl ?_
   refine w_aastore X1154 hx hZ e1154 F1159 ⟨by decide, by decide⟩ 0 (by decide) (show 0 < 3 from (by decide)) rfl (Or.inl rfl) (dB d6_29) 30 rfl (fun T1161 h1161 X1161 e1161 W1161 V1161 => ?_)
   have F1162 : Exa Z h1161 a cN_2 := F1155.wr W1161
   have F1163 : Fld Z h1161 a cN_2 "values" cN_3 (.ref va) := F1156.other W1161 (Or.inl (ne_arv F1155 (tw_18 hw) F1159))
   have F1164 : Fld Z h1161 a cN_2 "trail" "[I" (.ref ta) := F1157.other W1161 (Or.inl (ne_arv F1155 (tw_18 hw) F1159))
   have F1165 : Fld Z h1161 a cN_2 "trailSize" "I" (.int (2 : Int32)) := F1158.other W1161 (Or.inl (ne_arv F1155 (tw_18 hw) F1159))
   have F1166 : Arv Z h1161 va kv (.object cN_4) (3 : Int32) [.null, (.ref vv), (.ref vv)] .null := V1161
   have F1167 : Arv Z h1161 ta kt .int (3 : Int32) [(.int (1 : Int32)), (.int (2 : Int32)), (.int (0 : Int32))] (.int (0 : Int32)) := F1160.other W1161 (Ne.symm ne1)
   have Z1161 : n0 ≤ h1161.size := by rw [W1161.size]; exact Z1154
   have K1161 : Keep h0 h1161 [a, va] := K1154.wr W1161 (Or.inl (List.mem_of_getElem? (i := 1) rfl))
   have N1161 := Fr.snoc X1161 N1154 g_va
   refine w_goto X1161 hx (dB d6_30) 0 ?_
   refine w_aloadN X1161 hx (.ref a) (dB d6_0) 1 rfl rfl rfl ?_
   refine w_getF X1161 hx hZ hown e1161 (host := "") (Or.inl (tw_36 hw)) Via.refl F1165 (dB d6_1) 4 rfl (fun T1168 X1168 e1168 => ?_)
   refine w_iloadN X1168 hx (1 : Int32) (dB d6_4) 5 rfl rfl ?_
   refine w_icmp_le X1168 hx 2 1 (by decide) (by decide) (dB d6_5) 33 8 (fun c1169 => ?_) (fun c1169 => ?_)
   ·exfalso; omega
   ·refine w_aloadN X1168 hx (.ref a) (dB d6_8) 9 rfl rfl rfl ?_
    refine w_getF X1168 hx hZ hown e1168 (host := "") (Or.inl (tw_26 hw)) Via.refl F1163 (dB d6_9) 12 rfl (fun T1170 X1170 e1170 => ?_)
    refine w_aloadN X1170 hx (.ref a) (dB d6_12) 13 rfl rfl rfl ?_
    refine w_getF X1170 hx hZ hown e1170 (host := "") (Or.inl (tw_29 hw)) Via.refl F1164 (dB d6_13) 16 rfl (fun T1171 X1171 e1171 => ?_)
    refine w_aloadN X1171 hx (.ref a) (dB d6_16) 17 rfl rfl rfl ?_
    refine w_dup X1171 hx (dB d6_17) 18 rfl rfl ?_
    refine w_getF X1171 hx hZ hown e1171 (host := "") (Or.inl (tw_36 hw)) Via.refl F1165 (dB d6_18) 21 rfl (fun T1172 X1172 e1172 => ?_)
    refine w_iconst X1172 hx (dB d6_21) 22 rfl (1 : Int32) (by decide) ?_
    refine w_isub X1172 hx (dB d6_22) 23 rfl (show (1 : Int32) = (2 : Int32) - (1 : Int32) from by decide) ?_
    refine w_dupX1 X1172 hx (dB d6_23) 24 rfl rfl rfl ?_
    refine w_putF X1172 hx hZ hown e1172 (host := "") (Or.inl (tw_36 hw)) Via.refl F1165 F1162 (Or.inl (tw_37 hw)) (tw_18 hw) (ty := .int) (by decide) rfl rfl (dB d6_24) 27 rfl (fun T1173 h1173 X1173 e1173 W1173 => ?_)
    have F1174 : Exa Z h1173 a cN_2 := F1162.wr W1173
    have F1175 : Fld Z h1173 a cN_2 "values" cN_3 (.ref va) := F1163.other W1173 (Or.inr (slot_ne (Or.inr (tw_27 hw)) (Or.inl (tw_37 hw)) (by decide) (t := (.array (.object "com/example/simpagation/simpagation/Term"))) (t' := .int) (by decide) (by decide)))
    have F1176 : Fld Z h1173 a cN_2 "trail" "[I" (.ref ta) := F1164.other W1173 (Or.inr (slot_ne (Or.inr (tw_30 hw)) (Or.inl (tw_37 hw)) (by decide) (t := (.array .int)) (t' := .int) (by decide) (by decide)))
    have F1177 : Fld Z h1173 a cN_2 "trailSize" "I" (.int (1 : Int32)) := F1165.same W1173
    have F1178 : Arv Z h1173 va kv (.object cN_4) (3 : Int32) [.null, (.ref vv), (.ref vv)] .null := F1166.other W1173 (Ne.symm (ne_arv F1162 (tw_18 hw) F1166))
    have F1179 : Arv Z h1173 ta kt .int (3 : Int32) [(.int (1 : Int32)), (.int (2 : Int32)), (.int (0 : Int32))] (.int (0 : Int32)) := F1167.other W1173 (Ne.symm (ne_arv F1162 (tw_18 hw) F1167))
    have Z1173 : n0 ≤ h1173.size := by rw [W1173.size]; exact Z1161
    have K1173 : Keep h0 h1173 [a, va] := K1161.wr W1173 (Or.inl (List.mem_of_getElem? (i := 0) rfl))
    have N1173 := Fr.snoc X1173 N1161 g_a
    refine w_iaload X1173 hx hZ e1173 F1179 ⟨by decide, by decide⟩ (v := (.int (2 : Int32))) rfl (dB d6_27) 28 rfl ?_
    refine w_null X1173 hx (dB d6_28) 29 rfl ?_
    refine w_aastore X1173 hx hZ e1173 F1178 ⟨by decide, by decide⟩ 2 (by decide) (show 2 < 3 from (by decide)) rfl (Or.inl rfl) (dB d6_29) 30 rfl (fun T1180 h1180 X1180 e1180 W1180 V1180 => ?_)
    have F1181 : Exa Z h1180 a cN_2 := F1174.wr W1180
    have F1182 : Fld Z h1180 a cN_2 "values" cN_3 (.ref va) := F1175.other W1180 (Or.inl (ne_arv F1174 (tw_18 hw) F1178))
    have F1183 : Fld Z h1180 a cN_2 "trail" "[I" (.ref ta) := F1176.other W1180 (Or.inl (ne_arv F1174 (tw_18 hw) F1178))
    have F1184 : Fld Z h1180 a cN_2 "trailSize" "I" (.int (1 : Int32)) := F1177.other W1180 (Or.inl (ne_arv F1174 (tw_18 hw) F1178))
    have F1185 : Arv Z h1180 va kv (.object cN_4) (3 : Int32) [.null, (.ref vv), .null] .null := V1180
    have F1186 : Arv Z h1180 ta kt .int (3 : Int32) [(.int (1 : Int32)), (.int (2 : Int32)), (.int (0 : Int32))] (.int (0 : Int32)) := F1179.other W1180 (Ne.symm ne1)
    have Z1180 : n0 ≤ h1180.size := by rw [W1180.size]; exact Z1173
    have K1180 : Keep h0 h1180 [a, va] := K1173.wr W1180 (Or.inl (List.mem_of_getElem? (i := 1) rfl))
    have N1180 := Fr.snoc X1180 N1173 g_va
    refine w_goto X1180 hx (dB d6_30) 0 ?_
    refine w_aloadN X1180 hx (.ref a) (dB d6_0) 1 rfl rfl rfl ?_
    refine w_getF X1180 hx hZ hown e1180 (host := "") (Or.inl (tw_36 hw)) Via.refl F1184 (dB d6_1) 4 rfl (fun T1187 X1187 e1187 => ?_)
    refine w_iloadN X1187 hx (1 : Int32) (dB d6_4) 5 rfl rfl ?_
    refine w_icmp_le X1187 hx 1 1 (by decide) (by decide) (dB d6_5) 33 8 (fun c1188 => ?_) (fun c1188 => ?_)
    ·refine w_ret0 X1187 hx hlk hret (dB d6_33) (by decide) (by decide) ?_
     rw [e1187]
     exact ⟨rfl, N1180, K1180, F1182, F1183, F1184, F1185, F1186⟩
    ·exfalso; omega
theorem ef_6t120m2 (m : MethodId) (x0 : Addr) : entryFrame m #[(.ref x0), (.int (2 : Int32))] 2 = mkF m 0 #[.val (.ref x0), .val (.int (2 : Int32))] [] := by first | (simp [entryFrame, mkF, argsToLocals, Value.category]; done) | rfl
def Q6t120m2 (Z : State) (a : Addr) (va : Addr) (ta : Addr) (kv : ClassId) (kt : ClassId) (vv : Addr) (h0 : Heap) (n0 : Nat) (v : Option Value) (h : Heap) (L : List Loc) : Prop := v = none ∧ Fr n0 L ∧ Keep h0 h [a, va] ∧ Fld Z h a cN_2 "values" cN_3 (.ref va) ∧ Fld Z h a cN_2 "trail" "[I" (.ref ta) ∧ Fld Z h a cN_2 "trailSize" "I" (.int (2 : Int32)) ∧ Arv Z h va kv (.object cN_4) (3 : Int32) [.null, (.ref vv), (.ref vv)] .null ∧ Arv Z h ta kt .int (3 : Int32) [(.int (1 : Int32)), (.int (2 : Int32)), (.int (0 : Int32))] (.int (0 : Int32))
set_option maxRecDepth 65536 in
set_option maxHeartbeats 40000000 in
theorem rm6t120m2 (l : Launch) (Z : State) (a0 : Array Value) (hw : ∀ d ∈ tables_1, d.before a0 Z = true) (ws : List Jvm.Cond) (a : Addr) (va : Addr) (ta : Addr) (kv : ClassId) (kt : ClassId) (vv : Addr) (h0 : Heap) (n0 : Nat) (Z0 : n0 ≤ h0.size) (E_a : Exa Z h0 a cN_2) (F_values_a : Fld Z h0 a cN_2 "values" cN_3 (.ref va)) (F_trail_a : Fld Z h0 a cN_2 "trail" "[I" (.ref ta)) (F_trailSize_a : Fld Z h0 a cN_2 "trailSize" "I" (.int (3 : Int32))) (V_va : Arv Z h0 va kv (.object cN_4) (3 : Int32) [(.ref vv), (.ref vv), (.ref vv)] .null) (V_ta : Arv Z h0 ta kt .int (3 : Int32) [(.int (1 : Int32)), (.int (2 : Int32)), (.int (0 : Int32))] (.int (0 : Int32))) (g_a : n0 ≤ a) (g_va : n0 ≤ va) (ne1 : va ≠ ta) (ov : Ovr Z kv "com/example/simpagation/simpagation/Term") :
    CT l mN_6 prog_1_method_7_code 2 none ws ({ frames := 0, cells := 0, slots := 0, locals := 0 } : Room) #[(.ref a), (.int (2 : Int32))] Z h0 (Q6t120m2 Z a va ta kv kt vv h0 n0) := by
  refine body_of (plainFor_of_name pn_2) ?_
  intro p e s m below meth c s₁ hx dB hret hlk hml hown0 hnm X0 e0 hZ
  have hown : s.vm.findClass cN_2 = some m.cls := hown0
  have N0 := Fr.nil n0
  rw [ef_6t120m2]
  show Wk p e below (FN s (Q6t120m2 Z a va ta kv kt vv h0 n0) 0 0) s₁ (mkF m 0 #[.val (.ref a), .val (.int (2 : Int32))] [])
  refine w_aloadN X0 hx (.ref a) (dB d6_0) 1 rfl rfl rfl ?_
  refine w_getF X0 hx hZ hown e0 (host := "") (Or.inl (tw_36 hw)) Via.refl F_trailSize_a (dB d6_1) 4 rfl (fun T1189 X1189 e1189 => ?_)
  refine w_iloadN X1189 hx (2 : Int32) (dB d6_4) 5 rfl rfl ?_
  refine w_icmp_le X1189 hx 3 2 (by decide) (by decide) (dB d6_5) 33 8 (fun c1190 => ?_) (fun c1190 => ?_)
  ·exfalso; omega
  ·refine w_aloadN X1189 hx (.ref a) (dB d6_8) 9 rfl rfl rfl ?_
   refine w_getF X1189 hx hZ hown e1189 (host := "") (Or.inl (tw_26 hw)) Via.refl F_values_a (dB d6_9) 12 rfl (fun T1191 X1191 e1191 => ?_)
   refine w_aloadN X1191 hx (.ref a) (dB d6_12) 13 rfl rfl rfl ?_
   refine w_getF X1191 hx hZ hown e1191 (host := "") (Or.inl (tw_29 hw)) Via.refl F_trail_a (dB d6_13) 16 rfl (fun T1192 X1192 e1192 => ?_)
   refine w_aloadN X1192 hx (.ref a) (dB d6_16) 17 rfl rfl rfl ?_
   refine w_dup X1192 hx (dB d6_17) 18 rfl rfl ?_
   refine w_getF X1192 hx hZ hown e1192 (host := "") (Or.inl (tw_36 hw)) Via.refl F_trailSize_a (dB d6_18) 21 rfl (fun T1193 X1193 e1193 => ?_)
   refine w_iconst X1193 hx (dB d6_21) 22 rfl (1 : Int32) (by decide) ?_
   refine w_isub X1193 hx (dB d6_22) 23 rfl (show (2 : Int32) = (3 : Int32) - (1 : Int32) from by decide) ?_
   refine w_dupX1 X1193 hx (dB d6_23) 24 rfl rfl rfl ?_
   refine w_putF X1193 hx hZ hown e1193 (host := "") (Or.inl (tw_36 hw)) Via.refl F_trailSize_a E_a (Or.inl (tw_37 hw)) (tw_18 hw) (ty := .int) (by decide) rfl rfl (dB d6_24) 27 rfl (fun T1194 h1194 X1194 e1194 W1194 => ?_)
   have F1195 : Exa Z h1194 a cN_2 := E_a.wr W1194
   have F1196 : Fld Z h1194 a cN_2 "values" cN_3 (.ref va) := F_values_a.other W1194 (Or.inr (slot_ne (Or.inr (tw_27 hw)) (Or.inl (tw_37 hw)) (by decide) (t := (.array (.object "com/example/simpagation/simpagation/Term"))) (t' := .int) (by decide) (by decide)))
   have F1197 : Fld Z h1194 a cN_2 "trail" "[I" (.ref ta) := F_trail_a.other W1194 (Or.inr (slot_ne (Or.inr (tw_30 hw)) (Or.inl (tw_37 hw)) (by decide) (t := (.array .int)) (t' := .int) (by decide) (by decide)))
   have F1198 : Fld Z h1194 a cN_2 "trailSize" "I" (.int (2 : Int32)) := F_trailSize_a.same W1194
   have F1199 : Arv Z h1194 va kv (.object cN_4) (3 : Int32) [(.ref vv), (.ref vv), (.ref vv)] .null := V_va.other W1194 (Ne.symm (ne_arv E_a (tw_18 hw) V_va))
   have F1200 : Arv Z h1194 ta kt .int (3 : Int32) [(.int (1 : Int32)), (.int (2 : Int32)), (.int (0 : Int32))] (.int (0 : Int32)) := V_ta.other W1194 (Ne.symm (ne_arv E_a (tw_18 hw) V_ta))
   have Z1194 : n0 ≤ h1194.size := by rw [W1194.size]; exact Z0
   have K1194 : Keep h0 h1194 [a, va] := (Keep.refl h0 [a, va]).wr W1194 (Or.inl (List.mem_of_getElem? (i := 0) rfl))
   have N1194 := Fr.snoc X1194 N0 g_a
   refine w_iaload X1194 hx hZ e1194 F1200 ⟨by decide, by decide⟩ (v := (.int (0 : Int32))) rfl (dB d6_27) 28 rfl ?_
   refine w_null X1194 hx (dB d6_28) 29 rfl ?_
   refine w_aastore X1194 hx hZ e1194 F1199 ⟨by decide, by decide⟩ 0 (by decide) (show 0 < 3 from (by decide)) rfl (Or.inl rfl) (dB d6_29) 30 rfl (fun T1201 h1201 X1201 e1201 W1201 V1201 => ?_)
   have F1202 : Exa Z h1201 a cN_2 := F1195.wr W1201
   have F1203 : Fld Z h1201 a cN_2 "values" cN_3 (.ref va) := F1196.other W1201 (Or.inl (ne_arv F1195 (tw_18 hw) F1199))
   have F1204 : Fld Z h1201 a cN_2 "trail" "[I" (.ref ta) := F1197.other W1201 (Or.inl (ne_arv F1195 (tw_18 hw) F1199))
   have F1205 : Fld Z h1201 a cN_2 "trailSize" "I" (.int (2 : Int32)) := F1198.other W1201 (Or.inl (ne_arv F1195 (tw_18 hw) F1199))
   have F1206 : Arv Z h1201 va kv (.object cN_4) (3 : Int32) [.null, (.ref vv), (.ref vv)] .null := V1201
   have F1207 : Arv Z h1201 ta kt .int (3 : Int32) [(.int (1 : Int32)), (.int (2 : Int32)), (.int (0 : Int32))] (.int (0 : Int32)) := F1200.other W1201 (Ne.symm ne1)
   have Z1201 : n0 ≤ h1201.size := by rw [W1201.size]; exact Z1194
   have K1201 : Keep h0 h1201 [a, va] := K1194.wr W1201 (Or.inl (List.mem_of_getElem? (i := 1) rfl))
   have N1201 := Fr.snoc X1201 N1194 g_va
   refine w_goto X1201 hx (dB d6_30) 0 ?_
   refine w_aloadN X1201 hx (.ref a) (dB d6_0) 1 rfl rfl rfl ?_
   refine w_getF X1201 hx hZ hown e1201 (host := "") (Or.inl (tw_36 hw)) Via.refl F1205 (dB d6_1) 4 rfl (fun T1208 X1208 e1208 => ?_)
   refine w_iloadN X1208 hx (2 : Int32) (dB d6_4) 5 rfl rfl ?_
   refine w_icmp_le X1208 hx 2 2 (by decide) (by decide) (dB d6_5) 33 8 (fun c1209 => ?_) (fun c1209 => ?_)
   ·refine w_ret0 X1208 hx hlk hret (dB d6_33) (by decide) (by decide) ?_
    rw [e1208]
    exact ⟨rfl, N1201, K1201, F1203, F1204, F1205, F1206, F1207⟩
   ·exfalso; omega
theorem ef_6t2m0 (m : MethodId) (x0 : Addr) : entryFrame m #[(.ref x0), (.int (0 : Int32))] 2 = mkF m 0 #[.val (.ref x0), .val (.int (0 : Int32))] [] := by first | (simp [entryFrame, mkF, argsToLocals, Value.category]; done) | rfl
def Q6t2m0 (Z : State) (a : Addr) (va : Addr) (ta : Addr) (kv : ClassId) (kt : ClassId) (vv : Addr) (h0 : Heap) (n0 : Nat) (v : Option Value) (h : Heap) (L : List Loc) : Prop := v = none ∧ Fr n0 L ∧ Keep h0 h [a, va] ∧ Fld Z h a cN_2 "values" cN_3 (.ref va) ∧ Fld Z h a cN_2 "trail" "[I" (.ref ta) ∧ Fld Z h a cN_2 "trailSize" "I" (.int (0 : Int32)) ∧ Arv Z h va kv (.object cN_4) (3 : Int32) [.null, .null, .null] .null ∧ Arv Z h ta kt .int (3 : Int32) [(.int (2 : Int32)), (.int (0 : Int32)), (.int (0 : Int32))] (.int (0 : Int32))
set_option maxRecDepth 65536 in
set_option maxHeartbeats 40000000 in
theorem rm6t2m0 (l : Launch) (Z : State) (a0 : Array Value) (hw : ∀ d ∈ tables_1, d.before a0 Z = true) (ws : List Jvm.Cond) (a : Addr) (va : Addr) (ta : Addr) (kv : ClassId) (kt : ClassId) (vv : Addr) (h0 : Heap) (n0 : Nat) (Z0 : n0 ≤ h0.size) (E_a : Exa Z h0 a cN_2) (F_values_a : Fld Z h0 a cN_2 "values" cN_3 (.ref va)) (F_trail_a : Fld Z h0 a cN_2 "trail" "[I" (.ref ta)) (F_trailSize_a : Fld Z h0 a cN_2 "trailSize" "I" (.int (1 : Int32))) (V_va : Arv Z h0 va kv (.object cN_4) (3 : Int32) [.null, .null, (.ref vv)] .null) (V_ta : Arv Z h0 ta kt .int (3 : Int32) [(.int (2 : Int32)), (.int (0 : Int32)), (.int (0 : Int32))] (.int (0 : Int32))) (g_a : n0 ≤ a) (g_va : n0 ≤ va) (ne1 : va ≠ ta) (ov : Ovr Z kv "com/example/simpagation/simpagation/Term") :
    CT l mN_6 prog_1_method_7_code 2 none ws ({ frames := 0, cells := 0, slots := 0, locals := 0 } : Room) #[(.ref a), (.int (0 : Int32))] Z h0 (Q6t2m0 Z a va ta kv kt vv h0 n0) := by
  refine body_of (plainFor_of_name pn_2) ?_
  intro p e s m below meth c s₁ hx dB hret hlk hml hown0 hnm X0 e0 hZ
  have hown : s.vm.findClass cN_2 = some m.cls := hown0
  have N0 := Fr.nil n0
  rw [ef_6t2m0]
  show Wk p e below (FN s (Q6t2m0 Z a va ta kv kt vv h0 n0) 0 0) s₁ (mkF m 0 #[.val (.ref a), .val (.int (0 : Int32))] [])
  refine w_aloadN X0 hx (.ref a) (dB d6_0) 1 rfl rfl rfl ?_
  refine w_getF X0 hx hZ hown e0 (host := "") (Or.inl (tw_36 hw)) Via.refl F_trailSize_a (dB d6_1) 4 rfl (fun T1210 X1210 e1210 => ?_)
  refine w_iloadN X1210 hx (0 : Int32) (dB d6_4) 5 rfl rfl ?_
  refine w_icmp_le X1210 hx 1 0 (by decide) (by decide) (dB d6_5) 33 8 (fun c1211 => ?_) (fun c1211 => ?_)
  ·exfalso; omega
  ·refine w_aloadN X1210 hx (.ref a) (dB d6_8) 9 rfl rfl rfl ?_
   refine w_getF X1210 hx hZ hown e1210 (host := "") (Or.inl (tw_26 hw)) Via.refl F_values_a (dB d6_9) 12 rfl (fun T1212 X1212 e1212 => ?_)
   refine w_aloadN X1212 hx (.ref a) (dB d6_12) 13 rfl rfl rfl ?_
   refine w_getF X1212 hx hZ hown e1212 (host := "") (Or.inl (tw_29 hw)) Via.refl F_trail_a (dB d6_13) 16 rfl (fun T1213 X1213 e1213 => ?_)
   refine w_aloadN X1213 hx (.ref a) (dB d6_16) 17 rfl rfl rfl ?_
   refine w_dup X1213 hx (dB d6_17) 18 rfl rfl ?_
   refine w_getF X1213 hx hZ hown e1213 (host := "") (Or.inl (tw_36 hw)) Via.refl F_trailSize_a (dB d6_18) 21 rfl (fun T1214 X1214 e1214 => ?_)
   refine w_iconst X1214 hx (dB d6_21) 22 rfl (1 : Int32) (by decide) ?_
   refine w_isub X1214 hx (dB d6_22) 23 rfl (show (0 : Int32) = (1 : Int32) - (1 : Int32) from by decide) ?_
   refine w_dupX1 X1214 hx (dB d6_23) 24 rfl rfl rfl ?_
   refine w_putF X1214 hx hZ hown e1214 (host := "") (Or.inl (tw_36 hw)) Via.refl F_trailSize_a E_a (Or.inl (tw_37 hw)) (tw_18 hw) (ty := .int) (by decide) rfl rfl (dB d6_24) 27 rfl (fun T1215 h1215 X1215 e1215 W1215 => ?_)
   have F1216 : Exa Z h1215 a cN_2 := E_a.wr W1215
   have F1217 : Fld Z h1215 a cN_2 "values" cN_3 (.ref va) := F_values_a.other W1215 (Or.inr (slot_ne (Or.inr (tw_27 hw)) (Or.inl (tw_37 hw)) (by decide) (t := (.array (.object "com/example/simpagation/simpagation/Term"))) (t' := .int) (by decide) (by decide)))
   have F1218 : Fld Z h1215 a cN_2 "trail" "[I" (.ref ta) := F_trail_a.other W1215 (Or.inr (slot_ne (Or.inr (tw_30 hw)) (Or.inl (tw_37 hw)) (by decide) (t := (.array .int)) (t' := .int) (by decide) (by decide)))
   have F1219 : Fld Z h1215 a cN_2 "trailSize" "I" (.int (0 : Int32)) := F_trailSize_a.same W1215
   have F1220 : Arv Z h1215 va kv (.object cN_4) (3 : Int32) [.null, .null, (.ref vv)] .null := V_va.other W1215 (Ne.symm (ne_arv E_a (tw_18 hw) V_va))
   have F1221 : Arv Z h1215 ta kt .int (3 : Int32) [(.int (2 : Int32)), (.int (0 : Int32)), (.int (0 : Int32))] (.int (0 : Int32)) := V_ta.other W1215 (Ne.symm (ne_arv E_a (tw_18 hw) V_ta))
   have Z1215 : n0 ≤ h1215.size := by rw [W1215.size]; exact Z0
   have K1215 : Keep h0 h1215 [a, va] := (Keep.refl h0 [a, va]).wr W1215 (Or.inl (List.mem_of_getElem? (i := 0) rfl))
   have N1215 := Fr.snoc X1215 N0 g_a
   refine w_iaload X1215 hx hZ e1215 F1221 ⟨by decide, by decide⟩ (v := (.int (2 : Int32))) rfl (dB d6_27) 28 rfl ?_
   refine w_null X1215 hx (dB d6_28) 29 rfl ?_
   refine w_aastore X1215 hx hZ e1215 F1220 ⟨by decide, by decide⟩ 2 (by decide) (show 2 < 3 from (by decide)) rfl (Or.inl rfl) (dB d6_29) 30 rfl (fun T1222 h1222 X1222 e1222 W1222 V1222 => ?_)
   have F1223 : Exa Z h1222 a cN_2 := F1216.wr W1222
   have F1224 : Fld Z h1222 a cN_2 "values" cN_3 (.ref va) := F1217.other W1222 (Or.inl (ne_arv F1216 (tw_18 hw) F1220))
   have F1225 : Fld Z h1222 a cN_2 "trail" "[I" (.ref ta) := F1218.other W1222 (Or.inl (ne_arv F1216 (tw_18 hw) F1220))
   have F1226 : Fld Z h1222 a cN_2 "trailSize" "I" (.int (0 : Int32)) := F1219.other W1222 (Or.inl (ne_arv F1216 (tw_18 hw) F1220))
   have F1227 : Arv Z h1222 va kv (.object cN_4) (3 : Int32) [.null, .null, .null] .null := V1222
   have F1228 : Arv Z h1222 ta kt .int (3 : Int32) [(.int (2 : Int32)), (.int (0 : Int32)), (.int (0 : Int32))] (.int (0 : Int32)) := F1221.other W1222 (Ne.symm ne1)
   have Z1222 : n0 ≤ h1222.size := by rw [W1222.size]; exact Z1215
   have K1222 : Keep h0 h1222 [a, va] := K1215.wr W1222 (Or.inl (List.mem_of_getElem? (i := 1) rfl))
   have N1222 := Fr.snoc X1222 N1215 g_va
   refine w_goto X1222 hx (dB d6_30) 0 ?_
   refine w_aloadN X1222 hx (.ref a) (dB d6_0) 1 rfl rfl rfl ?_
   refine w_getF X1222 hx hZ hown e1222 (host := "") (Or.inl (tw_36 hw)) Via.refl F1226 (dB d6_1) 4 rfl (fun T1229 X1229 e1229 => ?_)
   refine w_iloadN X1229 hx (0 : Int32) (dB d6_4) 5 rfl rfl ?_
   refine w_icmp_le X1229 hx 0 0 (by decide) (by decide) (dB d6_5) 33 8 (fun c1230 => ?_) (fun c1230 => ?_)
   ·refine w_ret0 X1229 hx hlk hret (dB d6_33) (by decide) (by decide) ?_
    rw [e1229]
    exact ⟨rfl, N1222, K1222, F1224, F1225, F1226, F1227, F1228⟩
   ·exfalso; omega
theorem ef_6t20m0 (m : MethodId) (x0 : Addr) : entryFrame m #[(.ref x0), (.int (0 : Int32))] 2 = mkF m 0 #[.val (.ref x0), .val (.int (0 : Int32))] [] := by first | (simp [entryFrame, mkF, argsToLocals, Value.category]; done) | rfl
def Q6t20m0 (Z : State) (a : Addr) (va : Addr) (ta : Addr) (kv : ClassId) (kt : ClassId) (vv : Addr) (h0 : Heap) (n0 : Nat) (v : Option Value) (h : Heap) (L : List Loc) : Prop := v = none ∧ Fr n0 L ∧ Keep h0 h [a, va] ∧ Fld Z h a cN_2 "values" cN_3 (.ref va) ∧ Fld Z h a cN_2 "trail" "[I" (.ref ta) ∧ Fld Z h a cN_2 "trailSize" "I" (.int (0 : Int32)) ∧ Arv Z h va kv (.object cN_4) (3 : Int32) [.null, .null, .null] .null ∧ Arv Z h ta kt .int (3 : Int32) [(.int (2 : Int32)), (.int (0 : Int32)), (.int (0 : Int32))] (.int (0 : Int32))
set_option maxRecDepth 65536 in
set_option maxHeartbeats 40000000 in
theorem rm6t20m0 (l : Launch) (Z : State) (a0 : Array Value) (hw : ∀ d ∈ tables_1, d.before a0 Z = true) (ws : List Jvm.Cond) (a : Addr) (va : Addr) (ta : Addr) (kv : ClassId) (kt : ClassId) (vv : Addr) (h0 : Heap) (n0 : Nat) (Z0 : n0 ≤ h0.size) (E_a : Exa Z h0 a cN_2) (F_values_a : Fld Z h0 a cN_2 "values" cN_3 (.ref va)) (F_trail_a : Fld Z h0 a cN_2 "trail" "[I" (.ref ta)) (F_trailSize_a : Fld Z h0 a cN_2 "trailSize" "I" (.int (2 : Int32))) (V_va : Arv Z h0 va kv (.object cN_4) (3 : Int32) [(.ref vv), .null, (.ref vv)] .null) (V_ta : Arv Z h0 ta kt .int (3 : Int32) [(.int (2 : Int32)), (.int (0 : Int32)), (.int (0 : Int32))] (.int (0 : Int32))) (g_a : n0 ≤ a) (g_va : n0 ≤ va) (ne1 : va ≠ ta) (ov : Ovr Z kv "com/example/simpagation/simpagation/Term") :
    CT l mN_6 prog_1_method_7_code 2 none ws ({ frames := 0, cells := 0, slots := 0, locals := 0 } : Room) #[(.ref a), (.int (0 : Int32))] Z h0 (Q6t20m0 Z a va ta kv kt vv h0 n0) := by
  refine body_of (plainFor_of_name pn_2) ?_
  intro p e s m below meth c s₁ hx dB hret hlk hml hown0 hnm X0 e0 hZ
  have hown : s.vm.findClass cN_2 = some m.cls := hown0
  have N0 := Fr.nil n0
  rw [ef_6t20m0]
  show Wk p e below (FN s (Q6t20m0 Z a va ta kv kt vv h0 n0) 0 0) s₁ (mkF m 0 #[.val (.ref a), .val (.int (0 : Int32))] [])
  refine w_aloadN X0 hx (.ref a) (dB d6_0) 1 rfl rfl rfl ?_
  refine w_getF X0 hx hZ hown e0 (host := "") (Or.inl (tw_36 hw)) Via.refl F_trailSize_a (dB d6_1) 4 rfl (fun T1231 X1231 e1231 => ?_)
  refine w_iloadN X1231 hx (0 : Int32) (dB d6_4) 5 rfl rfl ?_
  refine w_icmp_le X1231 hx 2 0 (by decide) (by decide) (dB d6_5) 33 8 (fun c1232 => ?_) (fun c1232 => ?_)
  ·exfalso; omega
  ·refine w_aloadN X1231 hx (.ref a) (dB d6_8) 9 rfl rfl rfl ?_
   refine w_getF X1231 hx hZ hown e1231 (host := "") (Or.inl (tw_26 hw)) Via.refl F_values_a (dB d6_9) 12 rfl (fun T1233 X1233 e1233 => ?_)
   refine w_aloadN X1233 hx (.ref a) (dB d6_12) 13 rfl rfl rfl ?_
   refine w_getF X1233 hx hZ hown e1233 (host := "") (Or.inl (tw_29 hw)) Via.refl F_trail_a (dB d6_13) 16 rfl (fun T1234 X1234 e1234 => ?_)
   refine w_aloadN X1234 hx (.ref a) (dB d6_16) 17 rfl rfl rfl ?_
   refine w_dup X1234 hx (dB d6_17) 18 rfl rfl ?_
   refine w_getF X1234 hx hZ hown e1234 (host := "") (Or.inl (tw_36 hw)) Via.refl F_trailSize_a (dB d6_18) 21 rfl (fun T1235 X1235 e1235 => ?_)
   refine w_iconst X1235 hx (dB d6_21) 22 rfl (1 : Int32) (by decide) ?_
   refine w_isub X1235 hx (dB d6_22) 23 rfl (show (1 : Int32) = (2 : Int32) - (1 : Int32) from by decide) ?_
   refine w_dupX1 X1235 hx (dB d6_23) 24 rfl rfl rfl ?_
   refine w_putF X1235 hx hZ hown e1235 (host := "") (Or.inl (tw_36 hw)) Via.refl F_trailSize_a E_a (Or.inl (tw_37 hw)) (tw_18 hw) (ty := .int) (by decide) rfl rfl (dB d6_24) 27 rfl (fun T1236 h1236 X1236 e1236 W1236 => ?_)
   have F1237 : Exa Z h1236 a cN_2 := E_a.wr W1236
   have F1238 : Fld Z h1236 a cN_2 "values" cN_3 (.ref va) := F_values_a.other W1236 (Or.inr (slot_ne (Or.inr (tw_27 hw)) (Or.inl (tw_37 hw)) (by decide) (t := (.array (.object "com/example/simpagation/simpagation/Term"))) (t' := .int) (by decide) (by decide)))
   have F1239 : Fld Z h1236 a cN_2 "trail" "[I" (.ref ta) := F_trail_a.other W1236 (Or.inr (slot_ne (Or.inr (tw_30 hw)) (Or.inl (tw_37 hw)) (by decide) (t := (.array .int)) (t' := .int) (by decide) (by decide)))
   have F1240 : Fld Z h1236 a cN_2 "trailSize" "I" (.int (1 : Int32)) := F_trailSize_a.same W1236
   have F1241 : Arv Z h1236 va kv (.object cN_4) (3 : Int32) [(.ref vv), .null, (.ref vv)] .null := V_va.other W1236 (Ne.symm (ne_arv E_a (tw_18 hw) V_va))
   have F1242 : Arv Z h1236 ta kt .int (3 : Int32) [(.int (2 : Int32)), (.int (0 : Int32)), (.int (0 : Int32))] (.int (0 : Int32)) := V_ta.other W1236 (Ne.symm (ne_arv E_a (tw_18 hw) V_ta))
   have Z1236 : n0 ≤ h1236.size := by rw [W1236.size]; exact Z0
   have K1236 : Keep h0 h1236 [a, va] := (Keep.refl h0 [a, va]).wr W1236 (Or.inl (List.mem_of_getElem? (i := 0) rfl))
   have N1236 := Fr.snoc X1236 N0 g_a
   refine w_iaload X1236 hx hZ e1236 F1242 ⟨by decide, by decide⟩ (v := (.int (0 : Int32))) rfl (dB d6_27) 28 rfl ?_
   refine w_null X1236 hx (dB d6_28) 29 rfl ?_
   refine w_aastore X1236 hx hZ e1236 F1241 ⟨by decide, by decide⟩ 0 (by decide) (show 0 < 3 from (by decide)) rfl (Or.inl rfl) (dB d6_29) 30 rfl (fun T1243 h1243 X1243 e1243 W1243 V1243 => ?_)
   have F1244 : Exa Z h1243 a cN_2 := F1237.wr W1243
   have F1245 : Fld Z h1243 a cN_2 "values" cN_3 (.ref va) := F1238.other W1243 (Or.inl (ne_arv F1237 (tw_18 hw) F1241))
   have F1246 : Fld Z h1243 a cN_2 "trail" "[I" (.ref ta) := F1239.other W1243 (Or.inl (ne_arv F1237 (tw_18 hw) F1241))
   have F1247 : Fld Z h1243 a cN_2 "trailSize" "I" (.int (1 : Int32)) := F1240.other W1243 (Or.inl (ne_arv F1237 (tw_18 hw) F1241))
   have F1248 : Arv Z h1243 va kv (.object cN_4) (3 : Int32) [.null, .null, (.ref vv)] .null := V1243
   have F1249 : Arv Z h1243 ta kt .int (3 : Int32) [(.int (2 : Int32)), (.int (0 : Int32)), (.int (0 : Int32))] (.int (0 : Int32)) := F1242.other W1243 (Ne.symm ne1)
   have Z1243 : n0 ≤ h1243.size := by rw [W1243.size]; exact Z1236
   have K1243 : Keep h0 h1243 [a, va] := K1236.wr W1243 (Or.inl (List.mem_of_getElem? (i := 1) rfl))
   have N1243 := Fr.snoc X1243 N1236 g_va
   refine w_goto X1243 hx (dB d6_30) 0 ?_
   refine w_aloadN X1243 hx (.ref a) (dB d6_0) 1 rfl rfl rfl ?_
   refine w_getF X1243 hx hZ hown e1243 (host := "") (Or.inl (tw_36 hw)) Via.refl F1247 (dB d6_1) 4 rfl (fun T1250 X1250 e1250 => ?_)
   refine w_iloadN X1250 hx (0 : Int32) (dB d6_4) 5 rfl rfl ?_
   refine w_icmp_le X1250 hx 1 0 (by decide) (by decide) (dB d6_5) 33 8 (fun c1251 => ?_) (fun c1251 => ?_)
   ·exfalso; omega
   ·refine w_aloadN X1250 hx (.ref a) (dB d6_8) 9 rfl rfl rfl ?_
    refine w_getF X1250 hx hZ hown e1250 (host := "") (Or.inl (tw_26 hw)) Via.refl F1245 (dB d6_9) 12 rfl (fun T1252 X1252 e1252 => ?_)
    refine w_aloadN X1252 hx (.ref a) (dB d6_12) 13 rfl rfl rfl ?_
    refine w_getF X1252 hx hZ hown e1252 (host := "") (Or.inl (tw_29 hw)) Via.refl F1246 (dB d6_13) 16 rfl (fun T1253 X1253 e1253 => ?_)
    refine w_aloadN X1253 hx (.ref a) (dB d6_16) 17 rfl rfl rfl ?_
    refine w_dup X1253 hx (dB d6_17) 18 rfl rfl ?_
    refine w_getF X1253 hx hZ hown e1253 (host := "") (Or.inl (tw_36 hw)) Via.refl F1247 (dB d6_18) 21 rfl (fun T1254 X1254 e1254 => ?_)
    refine w_iconst X1254 hx (dB d6_21) 22 rfl (1 : Int32) (by decide) ?_
    refine w_isub X1254 hx (dB d6_22) 23 rfl (show (0 : Int32) = (1 : Int32) - (1 : Int32) from by decide) ?_
    refine w_dupX1 X1254 hx (dB d6_23) 24 rfl rfl rfl ?_
    refine w_putF X1254 hx hZ hown e1254 (host := "") (Or.inl (tw_36 hw)) Via.refl F1247 F1244 (Or.inl (tw_37 hw)) (tw_18 hw) (ty := .int) (by decide) rfl rfl (dB d6_24) 27 rfl (fun T1255 h1255 X1255 e1255 W1255 => ?_)
    have F1256 : Exa Z h1255 a cN_2 := F1244.wr W1255
    have F1257 : Fld Z h1255 a cN_2 "values" cN_3 (.ref va) := F1245.other W1255 (Or.inr (slot_ne (Or.inr (tw_27 hw)) (Or.inl (tw_37 hw)) (by decide) (t := (.array (.object "com/example/simpagation/simpagation/Term"))) (t' := .int) (by decide) (by decide)))
    have F1258 : Fld Z h1255 a cN_2 "trail" "[I" (.ref ta) := F1246.other W1255 (Or.inr (slot_ne (Or.inr (tw_30 hw)) (Or.inl (tw_37 hw)) (by decide) (t := (.array .int)) (t' := .int) (by decide) (by decide)))
    have F1259 : Fld Z h1255 a cN_2 "trailSize" "I" (.int (0 : Int32)) := F1247.same W1255
    have F1260 : Arv Z h1255 va kv (.object cN_4) (3 : Int32) [.null, .null, (.ref vv)] .null := F1248.other W1255 (Ne.symm (ne_arv F1244 (tw_18 hw) F1248))
    have F1261 : Arv Z h1255 ta kt .int (3 : Int32) [(.int (2 : Int32)), (.int (0 : Int32)), (.int (0 : Int32))] (.int (0 : Int32)) := F1249.other W1255 (Ne.symm (ne_arv F1244 (tw_18 hw) F1249))
    have Z1255 : n0 ≤ h1255.size := by rw [W1255.size]; exact Z1243
    have K1255 : Keep h0 h1255 [a, va] := K1243.wr W1255 (Or.inl (List.mem_of_getElem? (i := 0) rfl))
    have N1255 := Fr.snoc X1255 N1243 g_a
    refine w_iaload X1255 hx hZ e1255 F1261 ⟨by decide, by decide⟩ (v := (.int (2 : Int32))) rfl (dB d6_27) 28 rfl ?_
    refine w_null X1255 hx (dB d6_28) 29 rfl ?_
    refine w_aastore X1255 hx hZ e1255 F1260 ⟨by decide, by decide⟩ 2 (by decide) (show 2 < 3 from (by decide)) rfl (Or.inl rfl) (dB d6_29) 30 rfl (fun T1262 h1262 X1262 e1262 W1262 V1262 => ?_)
    have F1263 : Exa Z h1262 a cN_2 := F1256.wr W1262
    have F1264 : Fld Z h1262 a cN_2 "values" cN_3 (.ref va) := F1257.other W1262 (Or.inl (ne_arv F1256 (tw_18 hw) F1260))
    have F1265 : Fld Z h1262 a cN_2 "trail" "[I" (.ref ta) := F1258.other W1262 (Or.inl (ne_arv F1256 (tw_18 hw) F1260))
    have F1266 : Fld Z h1262 a cN_2 "trailSize" "I" (.int (0 : Int32)) := F1259.other W1262 (Or.inl (ne_arv F1256 (tw_18 hw) F1260))
    have F1267 : Arv Z h1262 va kv (.object cN_4) (3 : Int32) [.null, .null, .null] .null := V1262
    have F1268 : Arv Z h1262 ta kt .int (3 : Int32) [(.int (2 : Int32)), (.int (0 : Int32)), (.int (0 : Int32))] (.int (0 : Int32)) := F1261.other W1262 (Ne.symm ne1)
    have Z1262 : n0 ≤ h1262.size := by rw [W1262.size]; exact Z1255
    have K1262 : Keep h0 h1262 [a, va] := K1255.wr W1262 (Or.inl (List.mem_of_getElem? (i := 1) rfl))
    have N1262 := Fr.snoc X1262 N1255 g_va
    refine w_goto X1262 hx (dB d6_30) 0 ?_
    refine w_aloadN X1262 hx (.ref a) (dB d6_0) 1 rfl rfl rfl ?_
    refine w_getF X1262 hx hZ hown e1262 (host := "") (Or.inl (tw_36 hw)) Via.refl F1266 (dB d6_1) 4 rfl (fun T1269 X1269 e1269 => ?_)
    refine w_iloadN X1269 hx (0 : Int32) (dB d6_4) 5 rfl rfl ?_
    refine w_icmp_le X1269 hx 0 0 (by decide) (by decide) (dB d6_5) 33 8 (fun c1270 => ?_) (fun c1270 => ?_)
    ·refine w_ret0 X1269 hx hlk hret (dB d6_33) (by decide) (by decide) ?_
     rw [e1269]
     exact ⟨rfl, N1262, K1262, F1264, F1265, F1266, F1267, F1268⟩
    ·exfalso; omega
theorem ef_6t20m1 (m : MethodId) (x0 : Addr) : entryFrame m #[(.ref x0), (.int (1 : Int32))] 2 = mkF m 0 #[.val (.ref x0), .val (.int (1 : Int32))] [] := by first | (simp [entryFrame, mkF, argsToLocals, Value.category]; done) | rfl
def Q6t20m1 (Z : State) (a : Addr) (va : Addr) (ta : Addr) (kv : ClassId) (kt : ClassId) (vv : Addr) (h0 : Heap) (n0 : Nat) (v : Option Value) (h : Heap) (L : List Loc) : Prop := v = none ∧ Fr n0 L ∧ Keep h0 h [a, va] ∧ Fld Z h a cN_2 "values" cN_3 (.ref va) ∧ Fld Z h a cN_2 "trail" "[I" (.ref ta) ∧ Fld Z h a cN_2 "trailSize" "I" (.int (1 : Int32)) ∧ Arv Z h va kv (.object cN_4) (3 : Int32) [.null, .null, (.ref vv)] .null ∧ Arv Z h ta kt .int (3 : Int32) [(.int (2 : Int32)), (.int (0 : Int32)), (.int (0 : Int32))] (.int (0 : Int32))
set_option maxRecDepth 65536 in
set_option maxHeartbeats 40000000 in
theorem rm6t20m1 (l : Launch) (Z : State) (a0 : Array Value) (hw : ∀ d ∈ tables_1, d.before a0 Z = true) (ws : List Jvm.Cond) (a : Addr) (va : Addr) (ta : Addr) (kv : ClassId) (kt : ClassId) (vv : Addr) (h0 : Heap) (n0 : Nat) (Z0 : n0 ≤ h0.size) (E_a : Exa Z h0 a cN_2) (F_values_a : Fld Z h0 a cN_2 "values" cN_3 (.ref va)) (F_trail_a : Fld Z h0 a cN_2 "trail" "[I" (.ref ta)) (F_trailSize_a : Fld Z h0 a cN_2 "trailSize" "I" (.int (2 : Int32))) (V_va : Arv Z h0 va kv (.object cN_4) (3 : Int32) [(.ref vv), .null, (.ref vv)] .null) (V_ta : Arv Z h0 ta kt .int (3 : Int32) [(.int (2 : Int32)), (.int (0 : Int32)), (.int (0 : Int32))] (.int (0 : Int32))) (g_a : n0 ≤ a) (g_va : n0 ≤ va) (ne1 : va ≠ ta) (ov : Ovr Z kv "com/example/simpagation/simpagation/Term") :
    CT l mN_6 prog_1_method_7_code 2 none ws ({ frames := 0, cells := 0, slots := 0, locals := 0 } : Room) #[(.ref a), (.int (1 : Int32))] Z h0 (Q6t20m1 Z a va ta kv kt vv h0 n0) := by
  refine body_of (plainFor_of_name pn_2) ?_
  intro p e s m below meth c s₁ hx dB hret hlk hml hown0 hnm X0 e0 hZ
  have hown : s.vm.findClass cN_2 = some m.cls := hown0
  have N0 := Fr.nil n0
  rw [ef_6t20m1]
  show Wk p e below (FN s (Q6t20m1 Z a va ta kv kt vv h0 n0) 0 0) s₁ (mkF m 0 #[.val (.ref a), .val (.int (1 : Int32))] [])
  refine w_aloadN X0 hx (.ref a) (dB d6_0) 1 rfl rfl rfl ?_
  refine w_getF X0 hx hZ hown e0 (host := "") (Or.inl (tw_36 hw)) Via.refl F_trailSize_a (dB d6_1) 4 rfl (fun T1271 X1271 e1271 => ?_)
  refine w_iloadN X1271 hx (1 : Int32) (dB d6_4) 5 rfl rfl ?_
  refine w_icmp_le X1271 hx 2 1 (by decide) (by decide) (dB d6_5) 33 8 (fun c1272 => ?_) (fun c1272 => ?_)
  ·exfalso; omega
  ·refine w_aloadN X1271 hx (.ref a) (dB d6_8) 9 rfl rfl rfl ?_
   refine w_getF X1271 hx hZ hown e1271 (host := "") (Or.inl (tw_26 hw)) Via.refl F_values_a (dB d6_9) 12 rfl (fun T1273 X1273 e1273 => ?_)
   refine w_aloadN X1273 hx (.ref a) (dB d6_12) 13 rfl rfl rfl ?_
   refine w_getF X1273 hx hZ hown e1273 (host := "") (Or.inl (tw_29 hw)) Via.refl F_trail_a (dB d6_13) 16 rfl (fun T1274 X1274 e1274 => ?_)
   refine w_aloadN X1274 hx (.ref a) (dB d6_16) 17 rfl rfl rfl ?_
   refine w_dup X1274 hx (dB d6_17) 18 rfl rfl ?_
   refine w_getF X1274 hx hZ hown e1274 (host := "") (Or.inl (tw_36 hw)) Via.refl F_trailSize_a (dB d6_18) 21 rfl (fun T1275 X1275 e1275 => ?_)
   refine w_iconst X1275 hx (dB d6_21) 22 rfl (1 : Int32) (by decide) ?_
   refine w_isub X1275 hx (dB d6_22) 23 rfl (show (1 : Int32) = (2 : Int32) - (1 : Int32) from by decide) ?_
   refine w_dupX1 X1275 hx (dB d6_23) 24 rfl rfl rfl ?_
   refine w_putF X1275 hx hZ hown e1275 (host := "") (Or.inl (tw_36 hw)) Via.refl F_trailSize_a E_a (Or.inl (tw_37 hw)) (tw_18 hw) (ty := .int) (by decide) rfl rfl (dB d6_24) 27 rfl (fun T1276 h1276 X1276 e1276 W1276 => ?_)
   have F1277 : Exa Z h1276 a cN_2 := E_a.wr W1276
   have F1278 : Fld Z h1276 a cN_2 "values" cN_3 (.ref va) := F_values_a.other W1276 (Or.inr (slot_ne (Or.inr (tw_27 hw)) (Or.inl (tw_37 hw)) (by decide) (t := (.array (.object "com/example/simpagation/simpagation/Term"))) (t' := .int) (by decide) (by decide)))
   have F1279 : Fld Z h1276 a cN_2 "trail" "[I" (.ref ta) := F_trail_a.other W1276 (Or.inr (slot_ne (Or.inr (tw_30 hw)) (Or.inl (tw_37 hw)) (by decide) (t := (.array .int)) (t' := .int) (by decide) (by decide)))
   have F1280 : Fld Z h1276 a cN_2 "trailSize" "I" (.int (1 : Int32)) := F_trailSize_a.same W1276
   have F1281 : Arv Z h1276 va kv (.object cN_4) (3 : Int32) [(.ref vv), .null, (.ref vv)] .null := V_va.other W1276 (Ne.symm (ne_arv E_a (tw_18 hw) V_va))
   have F1282 : Arv Z h1276 ta kt .int (3 : Int32) [(.int (2 : Int32)), (.int (0 : Int32)), (.int (0 : Int32))] (.int (0 : Int32)) := V_ta.other W1276 (Ne.symm (ne_arv E_a (tw_18 hw) V_ta))
   have Z1276 : n0 ≤ h1276.size := by rw [W1276.size]; exact Z0
   have K1276 : Keep h0 h1276 [a, va] := (Keep.refl h0 [a, va]).wr W1276 (Or.inl (List.mem_of_getElem? (i := 0) rfl))
   have N1276 := Fr.snoc X1276 N0 g_a
   refine w_iaload X1276 hx hZ e1276 F1282 ⟨by decide, by decide⟩ (v := (.int (0 : Int32))) rfl (dB d6_27) 28 rfl ?_
   refine w_null X1276 hx (dB d6_28) 29 rfl ?_
   refine w_aastore X1276 hx hZ e1276 F1281 ⟨by decide, by decide⟩ 0 (by decide) (show 0 < 3 from (by decide)) rfl (Or.inl rfl) (dB d6_29) 30 rfl (fun T1283 h1283 X1283 e1283 W1283 V1283 => ?_)
   have F1284 : Exa Z h1283 a cN_2 := F1277.wr W1283
   have F1285 : Fld Z h1283 a cN_2 "values" cN_3 (.ref va) := F1278.other W1283 (Or.inl (ne_arv F1277 (tw_18 hw) F1281))
   have F1286 : Fld Z h1283 a cN_2 "trail" "[I" (.ref ta) := F1279.other W1283 (Or.inl (ne_arv F1277 (tw_18 hw) F1281))
   have F1287 : Fld Z h1283 a cN_2 "trailSize" "I" (.int (1 : Int32)) := F1280.other W1283 (Or.inl (ne_arv F1277 (tw_18 hw) F1281))
   have F1288 : Arv Z h1283 va kv (.object cN_4) (3 : Int32) [.null, .null, (.ref vv)] .null := V1283
   have F1289 : Arv Z h1283 ta kt .int (3 : Int32) [(.int (2 : Int32)), (.int (0 : Int32)), (.int (0 : Int32))] (.int (0 : Int32)) := F1282.other W1283 (Ne.symm ne1)
   have Z1283 : n0 ≤ h1283.size := by rw [W1283.size]; exact Z1276
   have K1283 : Keep h0 h1283 [a, va] := K1276.wr W1283 (Or.inl (List.mem_of_getElem? (i := 1) rfl))
   have N1283 := Fr.snoc X1283 N1276 g_va
   refine w_goto X1283 hx (dB d6_30) 0 ?_
   refine w_aloadN X1283 hx (.ref a) (dB d6_0) 1 rfl rfl rfl ?_
   refine w_getF X1283 hx hZ hown e1283 (host := "") (Or.inl (tw_36 hw)) Via.refl F1287 (dB d6_1) 4 rfl (fun T1290 X1290 e1290 => ?_)
   refine w_iloadN X1290 hx (1 : Int32) (dB d6_4) 5 rfl rfl ?_
   refine w_icmp_le X1290 hx 1 1 (by decide) (by decide) (dB d6_5) 33 8 (fun c1291 => ?_) (fun c1291 => ?_)
   ·refine w_ret0 X1290 hx hlk hret (dB d6_33) (by decide) (by decide) ?_
    rw [e1290]
    exact ⟨rfl, N1283, K1283, F1285, F1286, F1287, F1288, F1289⟩
   ·exfalso; omega
theorem ef_6t201m0 (m : MethodId) (x0 : Addr) : entryFrame m #[(.ref x0), (.int (0 : Int32))] 2 = mkF m 0 #[.val (.ref x0), .val (.int (0 : Int32))] [] := by first | (simp [entryFrame, mkF, argsToLocals, Value.category]; done) | rfl
def Q6t201m0 (Z : State) (a : Addr) (va : Addr) (ta : Addr) (kv : ClassId) (kt : ClassId) (vv : Addr) (h0 : Heap) (n0 : Nat) (v : Option Value) (h : Heap) (L : List Loc) : Prop := v = none ∧ Fr n0 L ∧ Keep h0 h [a, va] ∧ Fld Z h a cN_2 "values" cN_3 (.ref va) ∧ Fld Z h a cN_2 "trail" "[I" (.ref ta) ∧ Fld Z h a cN_2 "trailSize" "I" (.int (0 : Int32)) ∧ Arv Z h va kv (.object cN_4) (3 : Int32) [.null, .null, .null] .null ∧ Arv Z h ta kt .int (3 : Int32) [(.int (2 : Int32)), (.int (0 : Int32)), (.int (1 : Int32))] (.int (0 : Int32))
set_option maxRecDepth 65536 in
set_option maxHeartbeats 40000000 in
theorem rm6t201m0 (l : Launch) (Z : State) (a0 : Array Value) (hw : ∀ d ∈ tables_1, d.before a0 Z = true) (ws : List Jvm.Cond) (a : Addr) (va : Addr) (ta : Addr) (kv : ClassId) (kt : ClassId) (vv : Addr) (h0 : Heap) (n0 : Nat) (Z0 : n0 ≤ h0.size) (E_a : Exa Z h0 a cN_2) (F_values_a : Fld Z h0 a cN_2 "values" cN_3 (.ref va)) (F_trail_a : Fld Z h0 a cN_2 "trail" "[I" (.ref ta)) (F_trailSize_a : Fld Z h0 a cN_2 "trailSize" "I" (.int (3 : Int32))) (V_va : Arv Z h0 va kv (.object cN_4) (3 : Int32) [(.ref vv), (.ref vv), (.ref vv)] .null) (V_ta : Arv Z h0 ta kt .int (3 : Int32) [(.int (2 : Int32)), (.int (0 : Int32)), (.int (1 : Int32))] (.int (0 : Int32))) (g_a : n0 ≤ a) (g_va : n0 ≤ va) (ne1 : va ≠ ta) (ov : Ovr Z kv "com/example/simpagation/simpagation/Term") :
    CT l mN_6 prog_1_method_7_code 2 none ws ({ frames := 0, cells := 0, slots := 0, locals := 0 } : Room) #[(.ref a), (.int (0 : Int32))] Z h0 (Q6t201m0 Z a va ta kv kt vv h0 n0) := by
  refine body_of (plainFor_of_name pn_2) ?_
  intro p e s m below meth c s₁ hx dB hret hlk hml hown0 hnm X0 e0 hZ
  have hown : s.vm.findClass cN_2 = some m.cls := hown0
  have N0 := Fr.nil n0
  rw [ef_6t201m0]
  show Wk p e below (FN s (Q6t201m0 Z a va ta kv kt vv h0 n0) 0 0) s₁ (mkF m 0 #[.val (.ref a), .val (.int (0 : Int32))] [])
  refine w_aloadN X0 hx (.ref a) (dB d6_0) 1 rfl rfl rfl ?_
  refine w_getF X0 hx hZ hown e0 (host := "") (Or.inl (tw_36 hw)) Via.refl F_trailSize_a (dB d6_1) 4 rfl (fun T1292 X1292 e1292 => ?_)
  refine w_iloadN X1292 hx (0 : Int32) (dB d6_4) 5 rfl rfl ?_
  refine w_icmp_le X1292 hx 3 0 (by decide) (by decide) (dB d6_5) 33 8 (fun c1293 => ?_) (fun c1293 => ?_)
  ·exfalso; omega
  ·refine w_aloadN X1292 hx (.ref a) (dB d6_8) 9 rfl rfl rfl ?_
   refine w_getF X1292 hx hZ hown e1292 (host := "") (Or.inl (tw_26 hw)) Via.refl F_values_a (dB d6_9) 12 rfl (fun T1294 X1294 e1294 => ?_)
   refine w_aloadN X1294 hx (.ref a) (dB d6_12) 13 rfl rfl rfl ?_
   refine w_getF X1294 hx hZ hown e1294 (host := "") (Or.inl (tw_29 hw)) Via.refl F_trail_a (dB d6_13) 16 rfl (fun T1295 X1295 e1295 => ?_)
   refine w_aloadN X1295 hx (.ref a) (dB d6_16) 17 rfl rfl rfl ?_
   refine w_dup X1295 hx (dB d6_17) 18 rfl rfl ?_
   refine w_getF X1295 hx hZ hown e1295 (host := "") (Or.inl (tw_36 hw)) Via.refl F_trailSize_a (dB d6_18) 21 rfl (fun T1296 X1296 e1296 => ?_)
   refine w_iconst X1296 hx (dB d6_21) 22 rfl (1 : Int32) (by decide) ?_
   refine w_isub X1296 hx (dB d6_22) 23 rfl (show (2 : Int32) = (3 : Int32) - (1 : Int32) from by decide) ?_
   refine w_dupX1 X1296 hx (dB d6_23) 24 rfl rfl rfl ?_
   refine w_putF X1296 hx hZ hown e1296 (host := "") (Or.inl (tw_36 hw)) Via.refl F_trailSize_a E_a (Or.inl (tw_37 hw)) (tw_18 hw) (ty := .int) (by decide) rfl rfl (dB d6_24) 27 rfl (fun T1297 h1297 X1297 e1297 W1297 => ?_)
   have F1298 : Exa Z h1297 a cN_2 := E_a.wr W1297
   have F1299 : Fld Z h1297 a cN_2 "values" cN_3 (.ref va) := F_values_a.other W1297 (Or.inr (slot_ne (Or.inr (tw_27 hw)) (Or.inl (tw_37 hw)) (by decide) (t := (.array (.object "com/example/simpagation/simpagation/Term"))) (t' := .int) (by decide) (by decide)))
   have F1300 : Fld Z h1297 a cN_2 "trail" "[I" (.ref ta) := F_trail_a.other W1297 (Or.inr (slot_ne (Or.inr (tw_30 hw)) (Or.inl (tw_37 hw)) (by decide) (t := (.array .int)) (t' := .int) (by decide) (by decide)))
   have F1301 : Fld Z h1297 a cN_2 "trailSize" "I" (.int (2 : Int32)) := F_trailSize_a.same W1297
   have F1302 : Arv Z h1297 va kv (.object cN_4) (3 : Int32) [(.ref vv), (.ref vv), (.ref vv)] .null := V_va.other W1297 (Ne.symm (ne_arv E_a (tw_18 hw) V_va))
   have F1303 : Arv Z h1297 ta kt .int (3 : Int32) [(.int (2 : Int32)), (.int (0 : Int32)), (.int (1 : Int32))] (.int (0 : Int32)) := V_ta.other W1297 (Ne.symm (ne_arv E_a (tw_18 hw) V_ta))
   have Z1297 : n0 ≤ h1297.size := by rw [W1297.size]; exact Z0
   have K1297 : Keep h0 h1297 [a, va] := (Keep.refl h0 [a, va]).wr W1297 (Or.inl (List.mem_of_getElem? (i := 0) rfl))
   have N1297 := Fr.snoc X1297 N0 g_a
   refine w_iaload X1297 hx hZ e1297 F1303 ⟨by decide, by decide⟩ (v := (.int (1 : Int32))) rfl (dB d6_27) 28 rfl ?_
   refine w_null X1297 hx (dB d6_28) 29 rfl ?_
   refine w_aastore X1297 hx hZ e1297 F1302 ⟨by decide, by decide⟩ 1 (by decide) (show 1 < 3 from (by decide)) rfl (Or.inl rfl) (dB d6_29) 30 rfl (fun T1304 h1304 X1304 e1304 W1304 V1304 => ?_)
   have F1305 : Exa Z h1304 a cN_2 := F1298.wr W1304
   have F1306 : Fld Z h1304 a cN_2 "values" cN_3 (.ref va) := F1299.other W1304 (Or.inl (ne_arv F1298 (tw_18 hw) F1302))
   have F1307 : Fld Z h1304 a cN_2 "trail" "[I" (.ref ta) := F1300.other W1304 (Or.inl (ne_arv F1298 (tw_18 hw) F1302))
   have F1308 : Fld Z h1304 a cN_2 "trailSize" "I" (.int (2 : Int32)) := F1301.other W1304 (Or.inl (ne_arv F1298 (tw_18 hw) F1302))
   have F1309 : Arv Z h1304 va kv (.object cN_4) (3 : Int32) [(.ref vv), .null, (.ref vv)] .null := V1304
   have F1310 : Arv Z h1304 ta kt .int (3 : Int32) [(.int (2 : Int32)), (.int (0 : Int32)), (.int (1 : Int32))] (.int (0 : Int32)) := F1303.other W1304 (Ne.symm ne1)
   have Z1304 : n0 ≤ h1304.size := by rw [W1304.size]; exact Z1297
   have K1304 : Keep h0 h1304 [a, va] := K1297.wr W1304 (Or.inl (List.mem_of_getElem? (i := 1) rfl))
   have N1304 := Fr.snoc X1304 N1297 g_va
   refine w_goto X1304 hx (dB d6_30) 0 ?_
   refine w_aloadN X1304 hx (.ref a) (dB d6_0) 1 rfl rfl rfl ?_
   refine w_getF X1304 hx hZ hown e1304 (host := "") (Or.inl (tw_36 hw)) Via.refl F1308 (dB d6_1) 4 rfl (fun T1311 X1311 e1311 => ?_)
   refine w_iloadN X1311 hx (0 : Int32) (dB d6_4) 5 rfl rfl ?_
   refine w_icmp_le X1311 hx 2 0 (by decide) (by decide) (dB d6_5) 33 8 (fun c1312 => ?_) (fun c1312 => ?_)
   ·exfalso; omega
   ·refine w_aloadN X1311 hx (.ref a) (dB d6_8) 9 rfl rfl rfl ?_
    refine w_getF X1311 hx hZ hown e1311 (host := "") (Or.inl (tw_26 hw)) Via.refl F1306 (dB d6_9) 12 rfl (fun T1313 X1313 e1313 => ?_)
    refine w_aloadN X1313 hx (.ref a) (dB d6_12) 13 rfl rfl rfl ?_
    refine w_getF X1313 hx hZ hown e1313 (host := "") (Or.inl (tw_29 hw)) Via.refl F1307 (dB d6_13) 16 rfl (fun T1314 X1314 e1314 => ?_)
    refine w_aloadN X1314 hx (.ref a) (dB d6_16) 17 rfl rfl rfl ?_
    refine w_dup X1314 hx (dB d6_17) 18 rfl rfl ?_
    refine w_getF X1314 hx hZ hown e1314 (host := "") (Or.inl (tw_36 hw)) Via.refl F1308 (dB d6_18) 21 rfl (fun T1315 X1315 e1315 => ?_)
    refine w_iconst X1315 hx (dB d6_21) 22 rfl (1 : Int32) (by decide) ?_
    refine w_isub X1315 hx (dB d6_22) 23 rfl (show (1 : Int32) = (2 : Int32) - (1 : Int32) from by decide) ?_
    refine w_dupX1 X1315 hx (dB d6_23) 24 rfl rfl rfl ?_
    refine w_putF X1315 hx hZ hown e1315 (host := "") (Or.inl (tw_36 hw)) Via.refl F1308 F1305 (Or.inl (tw_37 hw)) (tw_18 hw) (ty := .int) (by decide) rfl rfl (dB d6_24) 27 rfl (fun T1316 h1316 X1316 e1316 W1316 => ?_)
    have F1317 : Exa Z h1316 a cN_2 := F1305.wr W1316
    have F1318 : Fld Z h1316 a cN_2 "values" cN_3 (.ref va) := F1306.other W1316 (Or.inr (slot_ne (Or.inr (tw_27 hw)) (Or.inl (tw_37 hw)) (by decide) (t := (.array (.object "com/example/simpagation/simpagation/Term"))) (t' := .int) (by decide) (by decide)))
    have F1319 : Fld Z h1316 a cN_2 "trail" "[I" (.ref ta) := F1307.other W1316 (Or.inr (slot_ne (Or.inr (tw_30 hw)) (Or.inl (tw_37 hw)) (by decide) (t := (.array .int)) (t' := .int) (by decide) (by decide)))
    have F1320 : Fld Z h1316 a cN_2 "trailSize" "I" (.int (1 : Int32)) := F1308.same W1316
    have F1321 : Arv Z h1316 va kv (.object cN_4) (3 : Int32) [(.ref vv), .null, (.ref vv)] .null := F1309.other W1316 (Ne.symm (ne_arv F1305 (tw_18 hw) F1309))
    have F1322 : Arv Z h1316 ta kt .int (3 : Int32) [(.int (2 : Int32)), (.int (0 : Int32)), (.int (1 : Int32))] (.int (0 : Int32)) := F1310.other W1316 (Ne.symm (ne_arv F1305 (tw_18 hw) F1310))
    have Z1316 : n0 ≤ h1316.size := by rw [W1316.size]; exact Z1304
    have K1316 : Keep h0 h1316 [a, va] := K1304.wr W1316 (Or.inl (List.mem_of_getElem? (i := 0) rfl))
    have N1316 := Fr.snoc X1316 N1304 g_a
    refine w_iaload X1316 hx hZ e1316 F1322 ⟨by decide, by decide⟩ (v := (.int (0 : Int32))) rfl (dB d6_27) 28 rfl ?_
    refine w_null X1316 hx (dB d6_28) 29 rfl ?_
    refine w_aastore X1316 hx hZ e1316 F1321 ⟨by decide, by decide⟩ 0 (by decide) (show 0 < 3 from (by decide)) rfl (Or.inl rfl) (dB d6_29) 30 rfl (fun T1323 h1323 X1323 e1323 W1323 V1323 => ?_)
    have F1324 : Exa Z h1323 a cN_2 := F1317.wr W1323
    have F1325 : Fld Z h1323 a cN_2 "values" cN_3 (.ref va) := F1318.other W1323 (Or.inl (ne_arv F1317 (tw_18 hw) F1321))
    have F1326 : Fld Z h1323 a cN_2 "trail" "[I" (.ref ta) := F1319.other W1323 (Or.inl (ne_arv F1317 (tw_18 hw) F1321))
    have F1327 : Fld Z h1323 a cN_2 "trailSize" "I" (.int (1 : Int32)) := F1320.other W1323 (Or.inl (ne_arv F1317 (tw_18 hw) F1321))
    have F1328 : Arv Z h1323 va kv (.object cN_4) (3 : Int32) [.null, .null, (.ref vv)] .null := V1323
    have F1329 : Arv Z h1323 ta kt .int (3 : Int32) [(.int (2 : Int32)), (.int (0 : Int32)), (.int (1 : Int32))] (.int (0 : Int32)) := F1322.other W1323 (Ne.symm ne1)
    have Z1323 : n0 ≤ h1323.size := by rw [W1323.size]; exact Z1316
    have K1323 : Keep h0 h1323 [a, va] := K1316.wr W1323 (Or.inl (List.mem_of_getElem? (i := 1) rfl))
    have N1323 := Fr.snoc X1323 N1316 g_va
    refine w_goto X1323 hx (dB d6_30) 0 ?_
    refine w_aloadN X1323 hx (.ref a) (dB d6_0) 1 rfl rfl rfl ?_
    refine w_getF X1323 hx hZ hown e1323 (host := "") (Or.inl (tw_36 hw)) Via.refl F1327 (dB d6_1) 4 rfl (fun T1330 X1330 e1330 => ?_)
    refine w_iloadN X1330 hx (0 : Int32) (dB d6_4) 5 rfl rfl ?_
    refine w_icmp_le X1330 hx 1 0 (by decide) (by decide) (dB d6_5) 33 8 (fun c1331 => ?_) (fun c1331 => ?_)
    ·exfalso; omega
    ·refine w_aloadN X1330 hx (.ref a) (dB d6_8) 9 rfl rfl rfl ?_
     refine w_getF X1330 hx hZ hown e1330 (host := "") (Or.inl (tw_26 hw)) Via.refl F1325 (dB d6_9) 12 rfl (fun T1332 X1332 e1332 => ?_)
     refine w_aloadN X1332 hx (.ref a) (dB d6_12) 13 rfl rfl rfl ?_
     refine w_getF X1332 hx hZ hown e1332 (host := "") (Or.inl (tw_29 hw)) Via.refl F1326 (dB d6_13) 16 rfl (fun T1333 X1333 e1333 => ?_)
     refine w_aloadN X1333 hx (.ref a) (dB d6_16) 17 rfl rfl rfl ?_
     refine w_dup X1333 hx (dB d6_17) 18 rfl rfl ?_
     refine w_getF X1333 hx hZ hown e1333 (host := "") (Or.inl (tw_36 hw)) Via.refl F1327 (dB d6_18) 21 rfl (fun T1334 X1334 e1334 => ?_)
     refine w_iconst X1334 hx (dB d6_21) 22 rfl (1 : Int32) (by decide) ?_
     refine w_isub X1334 hx (dB d6_22) 23 rfl (show (0 : Int32) = (1 : Int32) - (1 : Int32) from by decide) ?_
     refine w_dupX1 X1334 hx (dB d6_23) 24 rfl rfl rfl ?_
     refine w_putF X1334 hx hZ hown e1334 (host := "") (Or.inl (tw_36 hw)) Via.refl F1327 F1324 (Or.inl (tw_37 hw)) (tw_18 hw) (ty := .int) (by decide) rfl rfl (dB d6_24) 27 rfl (fun T1335 h1335 X1335 e1335 W1335 => ?_)
     have F1336 : Exa Z h1335 a cN_2 := F1324.wr W1335
     have F1337 : Fld Z h1335 a cN_2 "values" cN_3 (.ref va) := F1325.other W1335 (Or.inr (slot_ne (Or.inr (tw_27 hw)) (Or.inl (tw_37 hw)) (by decide) (t := (.array (.object "com/example/simpagation/simpagation/Term"))) (t' := .int) (by decide) (by decide)))
     have F1338 : Fld Z h1335 a cN_2 "trail" "[I" (.ref ta) := F1326.other W1335 (Or.inr (slot_ne (Or.inr (tw_30 hw)) (Or.inl (tw_37 hw)) (by decide) (t := (.array .int)) (t' := .int) (by decide) (by decide)))
     have F1339 : Fld Z h1335 a cN_2 "trailSize" "I" (.int (0 : Int32)) := F1327.same W1335
     have F1340 : Arv Z h1335 va kv (.object cN_4) (3 : Int32) [.null, .null, (.ref vv)] .null := F1328.other W1335 (Ne.symm (ne_arv F1324 (tw_18 hw) F1328))
     have F1341 : Arv Z h1335 ta kt .int (3 : Int32) [(.int (2 : Int32)), (.int (0 : Int32)), (.int (1 : Int32))] (.int (0 : Int32)) := F1329.other W1335 (Ne.symm (ne_arv F1324 (tw_18 hw) F1329))
     have Z1335 : n0 ≤ h1335.size := by rw [W1335.size]; exact Z1323
     have K1335 : Keep h0 h1335 [a, va] := K1323.wr W1335 (Or.inl (List.mem_of_getElem? (i := 0) rfl))
     have N1335 := Fr.snoc X1335 N1323 g_a
     refine w_iaload X1335 hx hZ e1335 F1341 ⟨by decide, by decide⟩ (v := (.int (2 : Int32))) rfl (dB d6_27) 28 rfl ?_
     refine w_null X1335 hx (dB d6_28) 29 rfl ?_
     refine w_aastore X1335 hx hZ e1335 F1340 ⟨by decide, by decide⟩ 2 (by decide) (show 2 < 3 from (by decide)) rfl (Or.inl rfl) (dB d6_29) 30 rfl (fun T1342 h1342 X1342 e1342 W1342 V1342 => ?_)
     have F1343 : Exa Z h1342 a cN_2 := F1336.wr W1342
     have F1344 : Fld Z h1342 a cN_2 "values" cN_3 (.ref va) := F1337.other W1342 (Or.inl (ne_arv F1336 (tw_18 hw) F1340))
     have F1345 : Fld Z h1342 a cN_2 "trail" "[I" (.ref ta) := F1338.other W1342 (Or.inl (ne_arv F1336 (tw_18 hw) F1340))
     have F1346 : Fld Z h1342 a cN_2 "trailSize" "I" (.int (0 : Int32)) := F1339.other W1342 (Or.inl (ne_arv F1336 (tw_18 hw) F1340))
     have F1347 : Arv Z h1342 va kv (.object cN_4) (3 : Int32) [.null, .null, .null] .null := V1342
     have F1348 : Arv Z h1342 ta kt .int (3 : Int32) [(.int (2 : Int32)), (.int (0 : Int32)), (.int (1 : Int32))] (.int (0 : Int32)) := F1341.other W1342 (Ne.symm ne1)
     have Z1342 : n0 ≤ h1342.size := by rw [W1342.size]; exact Z1335
     have K1342 : Keep h0 h1342 [a, va] := K1335.wr W1342 (Or.inl (List.mem_of_getElem? (i := 1) rfl))
     have N1342 := Fr.snoc X1342 N1335 g_va
     refine w_goto X1342 hx (dB d6_30) 0 ?_
     refine w_aloadN X1342 hx (.ref a) (dB d6_0) 1 rfl rfl rfl ?_
     refine w_getF X1342 hx hZ hown e1342 (host := "") (Or.inl (tw_36 hw)) Via.refl F1346 (dB d6_1) 4 rfl (fun T1349 X1349 e1349 => ?_)
     refine w_iloadN X1349 hx (0 : Int32) (dB d6_4) 5 rfl rfl ?_
     refine w_icmp_le X1349 hx 0 0 (by decide) (by decide) (dB d6_5) 33 8 (fun c1350 => ?_) (fun c1350 => ?_)
     ·refine w_ret0 X1349 hx hlk hret (dB d6_33) (by decide) (by decide) ?_
      rw [e1349]
      exact ⟨rfl, N1342, K1342, F1344, F1345, F1346, F1347, F1348⟩
     ·exfalso; omega
theorem ef_6t201m1 (m : MethodId) (x0 : Addr) : entryFrame m #[(.ref x0), (.int (1 : Int32))] 2 = mkF m 0 #[.val (.ref x0), .val (.int (1 : Int32))] [] := by first | (simp [entryFrame, mkF, argsToLocals, Value.category]; done) | rfl
def Q6t201m1 (Z : State) (a : Addr) (va : Addr) (ta : Addr) (kv : ClassId) (kt : ClassId) (vv : Addr) (h0 : Heap) (n0 : Nat) (v : Option Value) (h : Heap) (L : List Loc) : Prop := v = none ∧ Fr n0 L ∧ Keep h0 h [a, va] ∧ Fld Z h a cN_2 "values" cN_3 (.ref va) ∧ Fld Z h a cN_2 "trail" "[I" (.ref ta) ∧ Fld Z h a cN_2 "trailSize" "I" (.int (1 : Int32)) ∧ Arv Z h va kv (.object cN_4) (3 : Int32) [.null, .null, (.ref vv)] .null ∧ Arv Z h ta kt .int (3 : Int32) [(.int (2 : Int32)), (.int (0 : Int32)), (.int (1 : Int32))] (.int (0 : Int32))
set_option maxRecDepth 65536 in
set_option maxHeartbeats 40000000 in
theorem rm6t201m1 (l : Launch) (Z : State) (a0 : Array Value) (hw : ∀ d ∈ tables_1, d.before a0 Z = true) (ws : List Jvm.Cond) (a : Addr) (va : Addr) (ta : Addr) (kv : ClassId) (kt : ClassId) (vv : Addr) (h0 : Heap) (n0 : Nat) (Z0 : n0 ≤ h0.size) (E_a : Exa Z h0 a cN_2) (F_values_a : Fld Z h0 a cN_2 "values" cN_3 (.ref va)) (F_trail_a : Fld Z h0 a cN_2 "trail" "[I" (.ref ta)) (F_trailSize_a : Fld Z h0 a cN_2 "trailSize" "I" (.int (3 : Int32))) (V_va : Arv Z h0 va kv (.object cN_4) (3 : Int32) [(.ref vv), (.ref vv), (.ref vv)] .null) (V_ta : Arv Z h0 ta kt .int (3 : Int32) [(.int (2 : Int32)), (.int (0 : Int32)), (.int (1 : Int32))] (.int (0 : Int32))) (g_a : n0 ≤ a) (g_va : n0 ≤ va) (ne1 : va ≠ ta) (ov : Ovr Z kv "com/example/simpagation/simpagation/Term") :
    CT l mN_6 prog_1_method_7_code 2 none ws ({ frames := 0, cells := 0, slots := 0, locals := 0 } : Room) #[(.ref a), (.int (1 : Int32))] Z h0 (Q6t201m1 Z a va ta kv kt vv h0 n0) := by
  refine body_of (plainFor_of_name pn_2) ?_
  intro p e s m below meth c s₁ hx dB hret hlk hml hown0 hnm X0 e0 hZ
  have hown : s.vm.findClass cN_2 = some m.cls := hown0
  have N0 := Fr.nil n0
  rw [ef_6t201m1]
  show Wk p e below (FN s (Q6t201m1 Z a va ta kv kt vv h0 n0) 0 0) s₁ (mkF m 0 #[.val (.ref a), .val (.int (1 : Int32))] [])
  refine w_aloadN X0 hx (.ref a) (dB d6_0) 1 rfl rfl rfl ?_
  refine w_getF X0 hx hZ hown e0 (host := "") (Or.inl (tw_36 hw)) Via.refl F_trailSize_a (dB d6_1) 4 rfl (fun T1351 X1351 e1351 => ?_)
  refine w_iloadN X1351 hx (1 : Int32) (dB d6_4) 5 rfl rfl ?_
  refine w_icmp_le X1351 hx 3 1 (by decide) (by decide) (dB d6_5) 33 8 (fun c1352 => ?_) (fun c1352 => ?_)
  ·exfalso; omega
  ·refine w_aloadN X1351 hx (.ref a) (dB d6_8) 9 rfl rfl rfl ?_
   refine w_getF X1351 hx hZ hown e1351 (host := "") (Or.inl (tw_26 hw)) Via.refl F_values_a (dB d6_9) 12 rfl (fun T1353 X1353 e1353 => ?_)
   refine w_aloadN X1353 hx (.ref a) (dB d6_12) 13 rfl rfl rfl ?_
   refine w_getF X1353 hx hZ hown e1353 (host := "") (Or.inl (tw_29 hw)) Via.refl F_trail_a (dB d6_13) 16 rfl (fun T1354 X1354 e1354 => ?_)
   refine w_aloadN X1354 hx (.ref a) (dB d6_16) 17 rfl rfl rfl ?_
   refine w_dup X1354 hx (dB d6_17) 18 rfl rfl ?_
   refine w_getF X1354 hx hZ hown e1354 (host := "") (Or.inl (tw_36 hw)) Via.refl F_trailSize_a (dB d6_18) 21 rfl (fun T1355 X1355 e1355 => ?_)
   refine w_iconst X1355 hx (dB d6_21) 22 rfl (1 : Int32) (by decide) ?_
   refine w_isub X1355 hx (dB d6_22) 23 rfl (show (2 : Int32) = (3 : Int32) - (1 : Int32) from by decide) ?_
   refine w_dupX1 X1355 hx (dB d6_23) 24 rfl rfl rfl ?_
   refine w_putF X1355 hx hZ hown e1355 (host := "") (Or.inl (tw_36 hw)) Via.refl F_trailSize_a E_a (Or.inl (tw_37 hw)) (tw_18 hw) (ty := .int) (by decide) rfl rfl (dB d6_24) 27 rfl (fun T1356 h1356 X1356 e1356 W1356 => ?_)
   have F1357 : Exa Z h1356 a cN_2 := E_a.wr W1356
   have F1358 : Fld Z h1356 a cN_2 "values" cN_3 (.ref va) := F_values_a.other W1356 (Or.inr (slot_ne (Or.inr (tw_27 hw)) (Or.inl (tw_37 hw)) (by decide) (t := (.array (.object "com/example/simpagation/simpagation/Term"))) (t' := .int) (by decide) (by decide)))
   have F1359 : Fld Z h1356 a cN_2 "trail" "[I" (.ref ta) := F_trail_a.other W1356 (Or.inr (slot_ne (Or.inr (tw_30 hw)) (Or.inl (tw_37 hw)) (by decide) (t := (.array .int)) (t' := .int) (by decide) (by decide)))
   have F1360 : Fld Z h1356 a cN_2 "trailSize" "I" (.int (2 : Int32)) := F_trailSize_a.same W1356
   have F1361 : Arv Z h1356 va kv (.object cN_4) (3 : Int32) [(.ref vv), (.ref vv), (.ref vv)] .null := V_va.other W1356 (Ne.symm (ne_arv E_a (tw_18 hw) V_va))
   have F1362 : Arv Z h1356 ta kt .int (3 : Int32) [(.int (2 : Int32)), (.int (0 : Int32)), (.int (1 : Int32))] (.int (0 : Int32)) := V_ta.other W1356 (Ne.symm (ne_arv E_a (tw_18 hw) V_ta))
   have Z1356 : n0 ≤ h1356.size := by rw [W1356.size]; exact Z0
   have K1356 : Keep h0 h1356 [a, va] := (Keep.refl h0 [a, va]).wr W1356 (Or.inl (List.mem_of_getElem? (i := 0) rfl))
   have N1356 := Fr.snoc X1356 N0 g_a
   refine w_iaload X1356 hx hZ e1356 F1362 ⟨by decide, by decide⟩ (v := (.int (1 : Int32))) rfl (dB d6_27) 28 rfl ?_
   refine w_null X1356 hx (dB d6_28) 29 rfl ?_
   refine w_aastore X1356 hx hZ e1356 F1361 ⟨by decide, by decide⟩ 1 (by decide) (show 1 < 3 from (by decide)) rfl (Or.inl rfl) (dB d6_29) 30 rfl (fun T1363 h1363 X1363 e1363 W1363 V1363 => ?_)
   have F1364 : Exa Z h1363 a cN_2 := F1357.wr W1363
   have F1365 : Fld Z h1363 a cN_2 "values" cN_3 (.ref va) := F1358.other W1363 (Or.inl (ne_arv F1357 (tw_18 hw) F1361))
   have F1366 : Fld Z h1363 a cN_2 "trail" "[I" (.ref ta) := F1359.other W1363 (Or.inl (ne_arv F1357 (tw_18 hw) F1361))
   have F1367 : Fld Z h1363 a cN_2 "trailSize" "I" (.int (2 : Int32)) := F1360.other W1363 (Or.inl (ne_arv F1357 (tw_18 hw) F1361))
   have F1368 : Arv Z h1363 va kv (.object cN_4) (3 : Int32) [(.ref vv), .null, (.ref vv)] .null := V1363
   have F1369 : Arv Z h1363 ta kt .int (3 : Int32) [(.int (2 : Int32)), (.int (0 : Int32)), (.int (1 : Int32))] (.int (0 : Int32)) := F1362.other W1363 (Ne.symm ne1)
   have Z1363 : n0 ≤ h1363.size := by rw [W1363.size]; exact Z1356
   have K1363 : Keep h0 h1363 [a, va] := K1356.wr W1363 (Or.inl (List.mem_of_getElem? (i := 1) rfl))
   have N1363 := Fr.snoc X1363 N1356 g_va
   refine w_goto X1363 hx (dB d6_30) 0 ?_
   refine w_aloadN X1363 hx (.ref a) (dB d6_0) 1 rfl rfl rfl ?_
   refine w_getF X1363 hx hZ hown e1363 (host := "") (Or.inl (tw_36 hw)) Via.refl F1367 (dB d6_1) 4 rfl (fun T1370 X1370 e1370 => ?_)
   refine w_iloadN X1370 hx (1 : Int32) (dB d6_4) 5 rfl rfl ?_
   refine w_icmp_le X1370 hx 2 1 (by decide) (by decide) (dB d6_5) 33 8 (fun c1371 => ?_) (fun c1371 => ?_)
   ·exfalso; omega
   ·refine w_aloadN X1370 hx (.ref a) (dB d6_8) 9 rfl rfl rfl ?_
    refine w_getF X1370 hx hZ hown e1370 (host := "") (Or.inl (tw_26 hw)) Via.refl F1365 (dB d6_9) 12 rfl (fun T1372 X1372 e1372 => ?_)
    refine w_aloadN X1372 hx (.ref a) (dB d6_12) 13 rfl rfl rfl ?_
    refine w_getF X1372 hx hZ hown e1372 (host := "") (Or.inl (tw_29 hw)) Via.refl F1366 (dB d6_13) 16 rfl (fun T1373 X1373 e1373 => ?_)
    refine w_aloadN X1373 hx (.ref a) (dB d6_16) 17 rfl rfl rfl ?_
    refine w_dup X1373 hx (dB d6_17) 18 rfl rfl ?_
    refine w_getF X1373 hx hZ hown e1373 (host := "") (Or.inl (tw_36 hw)) Via.refl F1367 (dB d6_18) 21 rfl (fun T1374 X1374 e1374 => ?_)
    refine w_iconst X1374 hx (dB d6_21) 22 rfl (1 : Int32) (by decide) ?_
    refine w_isub X1374 hx (dB d6_22) 23 rfl (show (1 : Int32) = (2 : Int32) - (1 : Int32) from by decide) ?_
    refine w_dupX1 X1374 hx (dB d6_23) 24 rfl rfl rfl ?_
    refine w_putF X1374 hx hZ hown e1374 (host := "") (Or.inl (tw_36 hw)) Via.refl F1367 F1364 (Or.inl (tw_37 hw)) (tw_18 hw) (ty := .int) (by decide) rfl rfl (dB d6_24) 27 rfl (fun T1375 h1375 X1375 e1375 W1375 => ?_)
    have F1376 : Exa Z h1375 a cN_2 := F1364.wr W1375
    have F1377 : Fld Z h1375 a cN_2 "values" cN_3 (.ref va) := F1365.other W1375 (Or.inr (slot_ne (Or.inr (tw_27 hw)) (Or.inl (tw_37 hw)) (by decide) (t := (.array (.object "com/example/simpagation/simpagation/Term"))) (t' := .int) (by decide) (by decide)))
    have F1378 : Fld Z h1375 a cN_2 "trail" "[I" (.ref ta) := F1366.other W1375 (Or.inr (slot_ne (Or.inr (tw_30 hw)) (Or.inl (tw_37 hw)) (by decide) (t := (.array .int)) (t' := .int) (by decide) (by decide)))
    have F1379 : Fld Z h1375 a cN_2 "trailSize" "I" (.int (1 : Int32)) := F1367.same W1375
    have F1380 : Arv Z h1375 va kv (.object cN_4) (3 : Int32) [(.ref vv), .null, (.ref vv)] .null := F1368.other W1375 (Ne.symm (ne_arv F1364 (tw_18 hw) F1368))
    have F1381 : Arv Z h1375 ta kt .int (3 : Int32) [(.int (2 : Int32)), (.int (0 : Int32)), (.int (1 : Int32))] (.int (0 : Int32)) := F1369.other W1375 (Ne.symm (ne_arv F1364 (tw_18 hw) F1369))
    have Z1375 : n0 ≤ h1375.size := by rw [W1375.size]; exact Z1363
    have K1375 : Keep h0 h1375 [a, va] := K1363.wr W1375 (Or.inl (List.mem_of_getElem? (i := 0) rfl))
    have N1375 := Fr.snoc X1375 N1363 g_a
    refine w_iaload X1375 hx hZ e1375 F1381 ⟨by decide, by decide⟩ (v := (.int (0 : Int32))) rfl (dB d6_27) 28 rfl ?_
    refine w_null X1375 hx (dB d6_28) 29 rfl ?_
    refine w_aastore X1375 hx hZ e1375 F1380 ⟨by decide, by decide⟩ 0 (by decide) (show 0 < 3 from (by decide)) rfl (Or.inl rfl) (dB d6_29) 30 rfl (fun T1382 h1382 X1382 e1382 W1382 V1382 => ?_)
    have F1383 : Exa Z h1382 a cN_2 := F1376.wr W1382
    have F1384 : Fld Z h1382 a cN_2 "values" cN_3 (.ref va) := F1377.other W1382 (Or.inl (ne_arv F1376 (tw_18 hw) F1380))
    have F1385 : Fld Z h1382 a cN_2 "trail" "[I" (.ref ta) := F1378.other W1382 (Or.inl (ne_arv F1376 (tw_18 hw) F1380))
    have F1386 : Fld Z h1382 a cN_2 "trailSize" "I" (.int (1 : Int32)) := F1379.other W1382 (Or.inl (ne_arv F1376 (tw_18 hw) F1380))
    have F1387 : Arv Z h1382 va kv (.object cN_4) (3 : Int32) [.null, .null, (.ref vv)] .null := V1382
    have F1388 : Arv Z h1382 ta kt .int (3 : Int32) [(.int (2 : Int32)), (.int (0 : Int32)), (.int (1 : Int32))] (.int (0 : Int32)) := F1381.other W1382 (Ne.symm ne1)
    have Z1382 : n0 ≤ h1382.size := by rw [W1382.size]; exact Z1375
    have K1382 : Keep h0 h1382 [a, va] := K1375.wr W1382 (Or.inl (List.mem_of_getElem? (i := 1) rfl))
    have N1382 := Fr.snoc X1382 N1375 g_va
    refine w_goto X1382 hx (dB d6_30) 0 ?_
    refine w_aloadN X1382 hx (.ref a) (dB d6_0) 1 rfl rfl rfl ?_
    refine w_getF X1382 hx hZ hown e1382 (host := "") (Or.inl (tw_36 hw)) Via.refl F1386 (dB d6_1) 4 rfl (fun T1389 X1389 e1389 => ?_)
    refine w_iloadN X1389 hx (1 : Int32) (dB d6_4) 5 rfl rfl ?_
    refine w_icmp_le X1389 hx 1 1 (by decide) (by decide) (dB d6_5) 33 8 (fun c1390 => ?_) (fun c1390 => ?_)
    ·refine w_ret0 X1389 hx hlk hret (dB d6_33) (by decide) (by decide) ?_
     rw [e1389]
     exact ⟨rfl, N1382, K1382, F1384, F1385, F1386, F1387, F1388⟩
    ·exfalso; omega
theorem ef_6t201m2 (m : MethodId) (x0 : Addr) : entryFrame m #[(.ref x0), (.int (2 : Int32))] 2 = mkF m 0 #[.val (.ref x0), .val (.int (2 : Int32))] [] := by first | (simp [entryFrame, mkF, argsToLocals, Value.category]; done) | rfl
def Q6t201m2 (Z : State) (a : Addr) (va : Addr) (ta : Addr) (kv : ClassId) (kt : ClassId) (vv : Addr) (h0 : Heap) (n0 : Nat) (v : Option Value) (h : Heap) (L : List Loc) : Prop := v = none ∧ Fr n0 L ∧ Keep h0 h [a, va] ∧ Fld Z h a cN_2 "values" cN_3 (.ref va) ∧ Fld Z h a cN_2 "trail" "[I" (.ref ta) ∧ Fld Z h a cN_2 "trailSize" "I" (.int (2 : Int32)) ∧ Arv Z h va kv (.object cN_4) (3 : Int32) [(.ref vv), .null, (.ref vv)] .null ∧ Arv Z h ta kt .int (3 : Int32) [(.int (2 : Int32)), (.int (0 : Int32)), (.int (1 : Int32))] (.int (0 : Int32))
set_option maxRecDepth 65536 in
set_option maxHeartbeats 40000000 in
theorem rm6t201m2 (l : Launch) (Z : State) (a0 : Array Value) (hw : ∀ d ∈ tables_1, d.before a0 Z = true) (ws : List Jvm.Cond) (a : Addr) (va : Addr) (ta : Addr) (kv : ClassId) (kt : ClassId) (vv : Addr) (h0 : Heap) (n0 : Nat) (Z0 : n0 ≤ h0.size) (E_a : Exa Z h0 a cN_2) (F_values_a : Fld Z h0 a cN_2 "values" cN_3 (.ref va)) (F_trail_a : Fld Z h0 a cN_2 "trail" "[I" (.ref ta)) (F_trailSize_a : Fld Z h0 a cN_2 "trailSize" "I" (.int (3 : Int32))) (V_va : Arv Z h0 va kv (.object cN_4) (3 : Int32) [(.ref vv), (.ref vv), (.ref vv)] .null) (V_ta : Arv Z h0 ta kt .int (3 : Int32) [(.int (2 : Int32)), (.int (0 : Int32)), (.int (1 : Int32))] (.int (0 : Int32))) (g_a : n0 ≤ a) (g_va : n0 ≤ va) (ne1 : va ≠ ta) (ov : Ovr Z kv "com/example/simpagation/simpagation/Term") :
    CT l mN_6 prog_1_method_7_code 2 none ws ({ frames := 0, cells := 0, slots := 0, locals := 0 } : Room) #[(.ref a), (.int (2 : Int32))] Z h0 (Q6t201m2 Z a va ta kv kt vv h0 n0) := by
  refine body_of (plainFor_of_name pn_2) ?_
  intro p e s m below meth c s₁ hx dB hret hlk hml hown0 hnm X0 e0 hZ
  have hown : s.vm.findClass cN_2 = some m.cls := hown0
  have N0 := Fr.nil n0
  rw [ef_6t201m2]
  show Wk p e below (FN s (Q6t201m2 Z a va ta kv kt vv h0 n0) 0 0) s₁ (mkF m 0 #[.val (.ref a), .val (.int (2 : Int32))] [])
  refine w_aloadN X0 hx (.ref a) (dB d6_0) 1 rfl rfl rfl ?_
  refine w_getF X0 hx hZ hown e0 (host := "") (Or.inl (tw_36 hw)) Via.refl F_trailSize_a (dB d6_1) 4 rfl (fun T1391 X1391 e1391 => ?_)
  refine w_iloadN X1391 hx (2 : Int32) (dB d6_4) 5 rfl rfl ?_
  refine w_icmp_le X1391 hx 3 2 (by decide) (by decide) (dB d6_5) 33 8 (fun c1392 => ?_) (fun c1392 => ?_)
  ·exfalso; omega
  ·refine w_aloadN X1391 hx (.ref a) (dB d6_8) 9 rfl rfl rfl ?_
   refine w_getF X1391 hx hZ hown e1391 (host := "") (Or.inl (tw_26 hw)) Via.refl F_values_a (dB d6_9) 12 rfl (fun T1393 X1393 e1393 => ?_)
   refine w_aloadN X1393 hx (.ref a) (dB d6_12) 13 rfl rfl rfl ?_
   refine w_getF X1393 hx hZ hown e1393 (host := "") (Or.inl (tw_29 hw)) Via.refl F_trail_a (dB d6_13) 16 rfl (fun T1394 X1394 e1394 => ?_)
   refine w_aloadN X1394 hx (.ref a) (dB d6_16) 17 rfl rfl rfl ?_
   refine w_dup X1394 hx (dB d6_17) 18 rfl rfl ?_
   refine w_getF X1394 hx hZ hown e1394 (host := "") (Or.inl (tw_36 hw)) Via.refl F_trailSize_a (dB d6_18) 21 rfl (fun T1395 X1395 e1395 => ?_)
   refine w_iconst X1395 hx (dB d6_21) 22 rfl (1 : Int32) (by decide) ?_
   refine w_isub X1395 hx (dB d6_22) 23 rfl (show (2 : Int32) = (3 : Int32) - (1 : Int32) from by decide) ?_
   refine w_dupX1 X1395 hx (dB d6_23) 24 rfl rfl rfl ?_
   refine w_putF X1395 hx hZ hown e1395 (host := "") (Or.inl (tw_36 hw)) Via.refl F_trailSize_a E_a (Or.inl (tw_37 hw)) (tw_18 hw) (ty := .int) (by decide) rfl rfl (dB d6_24) 27 rfl (fun T1396 h1396 X1396 e1396 W1396 => ?_)
   have F1397 : Exa Z h1396 a cN_2 := E_a.wr W1396
   have F1398 : Fld Z h1396 a cN_2 "values" cN_3 (.ref va) := F_values_a.other W1396 (Or.inr (slot_ne (Or.inr (tw_27 hw)) (Or.inl (tw_37 hw)) (by decide) (t := (.array (.object "com/example/simpagation/simpagation/Term"))) (t' := .int) (by decide) (by decide)))
   have F1399 : Fld Z h1396 a cN_2 "trail" "[I" (.ref ta) := F_trail_a.other W1396 (Or.inr (slot_ne (Or.inr (tw_30 hw)) (Or.inl (tw_37 hw)) (by decide) (t := (.array .int)) (t' := .int) (by decide) (by decide)))
   have F1400 : Fld Z h1396 a cN_2 "trailSize" "I" (.int (2 : Int32)) := F_trailSize_a.same W1396
   have F1401 : Arv Z h1396 va kv (.object cN_4) (3 : Int32) [(.ref vv), (.ref vv), (.ref vv)] .null := V_va.other W1396 (Ne.symm (ne_arv E_a (tw_18 hw) V_va))
   have F1402 : Arv Z h1396 ta kt .int (3 : Int32) [(.int (2 : Int32)), (.int (0 : Int32)), (.int (1 : Int32))] (.int (0 : Int32)) := V_ta.other W1396 (Ne.symm (ne_arv E_a (tw_18 hw) V_ta))
   have Z1396 : n0 ≤ h1396.size := by rw [W1396.size]; exact Z0
   have K1396 : Keep h0 h1396 [a, va] := (Keep.refl h0 [a, va]).wr W1396 (Or.inl (List.mem_of_getElem? (i := 0) rfl))
   have N1396 := Fr.snoc X1396 N0 g_a
   refine w_iaload X1396 hx hZ e1396 F1402 ⟨by decide, by decide⟩ (v := (.int (1 : Int32))) rfl (dB d6_27) 28 rfl ?_
   refine w_null X1396 hx (dB d6_28) 29 rfl ?_
   refine w_aastore X1396 hx hZ e1396 F1401 ⟨by decide, by decide⟩ 1 (by decide) (show 1 < 3 from (by decide)) rfl (Or.inl rfl) (dB d6_29) 30 rfl (fun T1403 h1403 X1403 e1403 W1403 V1403 => ?_)
   have F1404 : Exa Z h1403 a cN_2 := F1397.wr W1403
   have F1405 : Fld Z h1403 a cN_2 "values" cN_3 (.ref va) := F1398.other W1403 (Or.inl (ne_arv F1397 (tw_18 hw) F1401))
   have F1406 : Fld Z h1403 a cN_2 "trail" "[I" (.ref ta) := F1399.other W1403 (Or.inl (ne_arv F1397 (tw_18 hw) F1401))
   have F1407 : Fld Z h1403 a cN_2 "trailSize" "I" (.int (2 : Int32)) := F1400.other W1403 (Or.inl (ne_arv F1397 (tw_18 hw) F1401))
   have F1408 : Arv Z h1403 va kv (.object cN_4) (3 : Int32) [(.ref vv), .null, (.ref vv)] .null := V1403
   have F1409 : Arv Z h1403 ta kt .int (3 : Int32) [(.int (2 : Int32)), (.int (0 : Int32)), (.int (1 : Int32))] (.int (0 : Int32)) := F1402.other W1403 (Ne.symm ne1)
   have Z1403 : n0 ≤ h1403.size := by rw [W1403.size]; exact Z1396
   have K1403 : Keep h0 h1403 [a, va] := K1396.wr W1403 (Or.inl (List.mem_of_getElem? (i := 1) rfl))
   have N1403 := Fr.snoc X1403 N1396 g_va
   refine w_goto X1403 hx (dB d6_30) 0 ?_
   refine w_aloadN X1403 hx (.ref a) (dB d6_0) 1 rfl rfl rfl ?_
   refine w_getF X1403 hx hZ hown e1403 (host := "") (Or.inl (tw_36 hw)) Via.refl F1407 (dB d6_1) 4 rfl (fun T1410 X1410 e1410 => ?_)
   refine w_iloadN X1410 hx (2 : Int32) (dB d6_4) 5 rfl rfl ?_
   refine w_icmp_le X1410 hx 2 2 (by decide) (by decide) (dB d6_5) 33 8 (fun c1411 => ?_) (fun c1411 => ?_)
   ·refine w_ret0 X1410 hx hlk hret (dB d6_33) (by decide) (by decide) ?_
    rw [e1410]
    exact ⟨rfl, N1403, K1403, F1405, F1406, F1407, F1408, F1409⟩
   ·exfalso; omega
theorem ef_6t21m0 (m : MethodId) (x0 : Addr) : entryFrame m #[(.ref x0), (.int (0 : Int32))] 2 = mkF m 0 #[.val (.ref x0), .val (.int (0 : Int32))] [] := by first | (simp [entryFrame, mkF, argsToLocals, Value.category]; done) | rfl
def Q6t21m0 (Z : State) (a : Addr) (va : Addr) (ta : Addr) (kv : ClassId) (kt : ClassId) (vv : Addr) (h0 : Heap) (n0 : Nat) (v : Option Value) (h : Heap) (L : List Loc) : Prop := v = none ∧ Fr n0 L ∧ Keep h0 h [a, va] ∧ Fld Z h a cN_2 "values" cN_3 (.ref va) ∧ Fld Z h a cN_2 "trail" "[I" (.ref ta) ∧ Fld Z h a cN_2 "trailSize" "I" (.int (0 : Int32)) ∧ Arv Z h va kv (.object cN_4) (3 : Int32) [.null, .null, .null] .null ∧ Arv Z h ta kt .int (3 : Int32) [(.int (2 : Int32)), (.int (1 : Int32)), (.int (0 : Int32))] (.int (0 : Int32))
set_option maxRecDepth 65536 in
set_option maxHeartbeats 40000000 in
theorem rm6t21m0 (l : Launch) (Z : State) (a0 : Array Value) (hw : ∀ d ∈ tables_1, d.before a0 Z = true) (ws : List Jvm.Cond) (a : Addr) (va : Addr) (ta : Addr) (kv : ClassId) (kt : ClassId) (vv : Addr) (h0 : Heap) (n0 : Nat) (Z0 : n0 ≤ h0.size) (E_a : Exa Z h0 a cN_2) (F_values_a : Fld Z h0 a cN_2 "values" cN_3 (.ref va)) (F_trail_a : Fld Z h0 a cN_2 "trail" "[I" (.ref ta)) (F_trailSize_a : Fld Z h0 a cN_2 "trailSize" "I" (.int (2 : Int32))) (V_va : Arv Z h0 va kv (.object cN_4) (3 : Int32) [.null, (.ref vv), (.ref vv)] .null) (V_ta : Arv Z h0 ta kt .int (3 : Int32) [(.int (2 : Int32)), (.int (1 : Int32)), (.int (0 : Int32))] (.int (0 : Int32))) (g_a : n0 ≤ a) (g_va : n0 ≤ va) (ne1 : va ≠ ta) (ov : Ovr Z kv "com/example/simpagation/simpagation/Term") :
    CT l mN_6 prog_1_method_7_code 2 none ws ({ frames := 0, cells := 0, slots := 0, locals := 0 } : Room) #[(.ref a), (.int (0 : Int32))] Z h0 (Q6t21m0 Z a va ta kv kt vv h0 n0) := by
  refine body_of (plainFor_of_name pn_2) ?_
  intro p e s m below meth c s₁ hx dB hret hlk hml hown0 hnm X0 e0 hZ
  have hown : s.vm.findClass cN_2 = some m.cls := hown0
  have N0 := Fr.nil n0
  rw [ef_6t21m0]
  show Wk p e below (FN s (Q6t21m0 Z a va ta kv kt vv h0 n0) 0 0) s₁ (mkF m 0 #[.val (.ref a), .val (.int (0 : Int32))] [])
  refine w_aloadN X0 hx (.ref a) (dB d6_0) 1 rfl rfl rfl ?_
  refine w_getF X0 hx hZ hown e0 (host := "") (Or.inl (tw_36 hw)) Via.refl F_trailSize_a (dB d6_1) 4 rfl (fun T1412 X1412 e1412 => ?_)
  refine w_iloadN X1412 hx (0 : Int32) (dB d6_4) 5 rfl rfl ?_
  refine w_icmp_le X1412 hx 2 0 (by decide) (by decide) (dB d6_5) 33 8 (fun c1413 => ?_) (fun c1413 => ?_)
  ·exfalso; omega
  ·refine w_aloadN X1412 hx (.ref a) (dB d6_8) 9 rfl rfl rfl ?_
   refine w_getF X1412 hx hZ hown e1412 (host := "") (Or.inl (tw_26 hw)) Via.refl F_values_a (dB d6_9) 12 rfl (fun T1414 X1414 e1414 => ?_)
   refine w_aloadN X1414 hx (.ref a) (dB d6_12) 13 rfl rfl rfl ?_
   refine w_getF X1414 hx hZ hown e1414 (host := "") (Or.inl (tw_29 hw)) Via.refl F_trail_a (dB d6_13) 16 rfl (fun T1415 X1415 e1415 => ?_)
   refine w_aloadN X1415 hx (.ref a) (dB d6_16) 17 rfl rfl rfl ?_
   refine w_dup X1415 hx (dB d6_17) 18 rfl rfl ?_
   refine w_getF X1415 hx hZ hown e1415 (host := "") (Or.inl (tw_36 hw)) Via.refl F_trailSize_a (dB d6_18) 21 rfl (fun T1416 X1416 e1416 => ?_)
   refine w_iconst X1416 hx (dB d6_21) 22 rfl (1 : Int32) (by decide) ?_
   refine w_isub X1416 hx (dB d6_22) 23 rfl (show (1 : Int32) = (2 : Int32) - (1 : Int32) from by decide) ?_
   refine w_dupX1 X1416 hx (dB d6_23) 24 rfl rfl rfl ?_
   refine w_putF X1416 hx hZ hown e1416 (host := "") (Or.inl (tw_36 hw)) Via.refl F_trailSize_a E_a (Or.inl (tw_37 hw)) (tw_18 hw) (ty := .int) (by decide) rfl rfl (dB d6_24) 27 rfl (fun T1417 h1417 X1417 e1417 W1417 => ?_)
   have F1418 : Exa Z h1417 a cN_2 := E_a.wr W1417
   have F1419 : Fld Z h1417 a cN_2 "values" cN_3 (.ref va) := F_values_a.other W1417 (Or.inr (slot_ne (Or.inr (tw_27 hw)) (Or.inl (tw_37 hw)) (by decide) (t := (.array (.object "com/example/simpagation/simpagation/Term"))) (t' := .int) (by decide) (by decide)))
   have F1420 : Fld Z h1417 a cN_2 "trail" "[I" (.ref ta) := F_trail_a.other W1417 (Or.inr (slot_ne (Or.inr (tw_30 hw)) (Or.inl (tw_37 hw)) (by decide) (t := (.array .int)) (t' := .int) (by decide) (by decide)))
   have F1421 : Fld Z h1417 a cN_2 "trailSize" "I" (.int (1 : Int32)) := F_trailSize_a.same W1417
   have F1422 : Arv Z h1417 va kv (.object cN_4) (3 : Int32) [.null, (.ref vv), (.ref vv)] .null := V_va.other W1417 (Ne.symm (ne_arv E_a (tw_18 hw) V_va))
   have F1423 : Arv Z h1417 ta kt .int (3 : Int32) [(.int (2 : Int32)), (.int (1 : Int32)), (.int (0 : Int32))] (.int (0 : Int32)) := V_ta.other W1417 (Ne.symm (ne_arv E_a (tw_18 hw) V_ta))
   have Z1417 : n0 ≤ h1417.size := by rw [W1417.size]; exact Z0
   have K1417 : Keep h0 h1417 [a, va] := (Keep.refl h0 [a, va]).wr W1417 (Or.inl (List.mem_of_getElem? (i := 0) rfl))
   have N1417 := Fr.snoc X1417 N0 g_a
   refine w_iaload X1417 hx hZ e1417 F1423 ⟨by decide, by decide⟩ (v := (.int (1 : Int32))) rfl (dB d6_27) 28 rfl ?_
   refine w_null X1417 hx (dB d6_28) 29 rfl ?_
   refine w_aastore X1417 hx hZ e1417 F1422 ⟨by decide, by decide⟩ 1 (by decide) (show 1 < 3 from (by decide)) rfl (Or.inl rfl) (dB d6_29) 30 rfl (fun T1424 h1424 X1424 e1424 W1424 V1424 => ?_)
   have F1425 : Exa Z h1424 a cN_2 := F1418.wr W1424
   have F1426 : Fld Z h1424 a cN_2 "values" cN_3 (.ref va) := F1419.other W1424 (Or.inl (ne_arv F1418 (tw_18 hw) F1422))
   have F1427 : Fld Z h1424 a cN_2 "trail" "[I" (.ref ta) := F1420.other W1424 (Or.inl (ne_arv F1418 (tw_18 hw) F1422))
   have F1428 : Fld Z h1424 a cN_2 "trailSize" "I" (.int (1 : Int32)) := F1421.other W1424 (Or.inl (ne_arv F1418 (tw_18 hw) F1422))
   have F1429 : Arv Z h1424 va kv (.object cN_4) (3 : Int32) [.null, .null, (.ref vv)] .null := V1424
   have F1430 : Arv Z h1424 ta kt .int (3 : Int32) [(.int (2 : Int32)), (.int (1 : Int32)), (.int (0 : Int32))] (.int (0 : Int32)) := F1423.other W1424 (Ne.symm ne1)
   have Z1424 : n0 ≤ h1424.size := by rw [W1424.size]; exact Z1417
   have K1424 : Keep h0 h1424 [a, va] := K1417.wr W1424 (Or.inl (List.mem_of_getElem? (i := 1) rfl))
   have N1424 := Fr.snoc X1424 N1417 g_va
   refine w_goto X1424 hx (dB d6_30) 0 ?_
   refine w_aloadN X1424 hx (.ref a) (dB d6_0) 1 rfl rfl rfl ?_
   refine w_getF X1424 hx hZ hown e1424 (host := "") (Or.inl (tw_36 hw)) Via.refl F1428 (dB d6_1) 4 rfl (fun T1431 X1431 e1431 => ?_)
   refine w_iloadN X1431 hx (0 : Int32) (dB d6_4) 5 rfl rfl ?_
   refine w_icmp_le X1431 hx 1 0 (by decide) (by decide) (dB d6_5) 33 8 (fun c1432 => ?_) (fun c1432 => ?_)
   ·exfalso; omega
   ·refine w_aloadN X1431 hx (.ref a) (dB d6_8) 9 rfl rfl rfl ?_
    refine w_getF X1431 hx hZ hown e1431 (host := "") (Or.inl (tw_26 hw)) Via.refl F1426 (dB d6_9) 12 rfl (fun T1433 X1433 e1433 => ?_)
    refine w_aloadN X1433 hx (.ref a) (dB d6_12) 13 rfl rfl rfl ?_
    refine w_getF X1433 hx hZ hown e1433 (host := "") (Or.inl (tw_29 hw)) Via.refl F1427 (dB d6_13) 16 rfl (fun T1434 X1434 e1434 => ?_)
    refine w_aloadN X1434 hx (.ref a) (dB d6_16) 17 rfl rfl rfl ?_
    refine w_dup X1434 hx (dB d6_17) 18 rfl rfl ?_
    refine w_getF X1434 hx hZ hown e1434 (host := "") (Or.inl (tw_36 hw)) Via.refl F1428 (dB d6_18) 21 rfl (fun T1435 X1435 e1435 => ?_)
    refine w_iconst X1435 hx (dB d6_21) 22 rfl (1 : Int32) (by decide) ?_
    refine w_isub X1435 hx (dB d6_22) 23 rfl (show (0 : Int32) = (1 : Int32) - (1 : Int32) from by decide) ?_
    refine w_dupX1 X1435 hx (dB d6_23) 24 rfl rfl rfl ?_
    refine w_putF X1435 hx hZ hown e1435 (host := "") (Or.inl (tw_36 hw)) Via.refl F1428 F1425 (Or.inl (tw_37 hw)) (tw_18 hw) (ty := .int) (by decide) rfl rfl (dB d6_24) 27 rfl (fun T1436 h1436 X1436 e1436 W1436 => ?_)
    have F1437 : Exa Z h1436 a cN_2 := F1425.wr W1436
    have F1438 : Fld Z h1436 a cN_2 "values" cN_3 (.ref va) := F1426.other W1436 (Or.inr (slot_ne (Or.inr (tw_27 hw)) (Or.inl (tw_37 hw)) (by decide) (t := (.array (.object "com/example/simpagation/simpagation/Term"))) (t' := .int) (by decide) (by decide)))
    have F1439 : Fld Z h1436 a cN_2 "trail" "[I" (.ref ta) := F1427.other W1436 (Or.inr (slot_ne (Or.inr (tw_30 hw)) (Or.inl (tw_37 hw)) (by decide) (t := (.array .int)) (t' := .int) (by decide) (by decide)))
    have F1440 : Fld Z h1436 a cN_2 "trailSize" "I" (.int (0 : Int32)) := F1428.same W1436
    have F1441 : Arv Z h1436 va kv (.object cN_4) (3 : Int32) [.null, .null, (.ref vv)] .null := F1429.other W1436 (Ne.symm (ne_arv F1425 (tw_18 hw) F1429))
    have F1442 : Arv Z h1436 ta kt .int (3 : Int32) [(.int (2 : Int32)), (.int (1 : Int32)), (.int (0 : Int32))] (.int (0 : Int32)) := F1430.other W1436 (Ne.symm (ne_arv F1425 (tw_18 hw) F1430))
    have Z1436 : n0 ≤ h1436.size := by rw [W1436.size]; exact Z1424
    have K1436 : Keep h0 h1436 [a, va] := K1424.wr W1436 (Or.inl (List.mem_of_getElem? (i := 0) rfl))
    have N1436 := Fr.snoc X1436 N1424 g_a
    refine w_iaload X1436 hx hZ e1436 F1442 ⟨by decide, by decide⟩ (v := (.int (2 : Int32))) rfl (dB d6_27) 28 rfl ?_
    refine w_null X1436 hx (dB d6_28) 29 rfl ?_
    refine w_aastore X1436 hx hZ e1436 F1441 ⟨by decide, by decide⟩ 2 (by decide) (show 2 < 3 from (by decide)) rfl (Or.inl rfl) (dB d6_29) 30 rfl (fun T1443 h1443 X1443 e1443 W1443 V1443 => ?_)
    have F1444 : Exa Z h1443 a cN_2 := F1437.wr W1443
    have F1445 : Fld Z h1443 a cN_2 "values" cN_3 (.ref va) := F1438.other W1443 (Or.inl (ne_arv F1437 (tw_18 hw) F1441))
    have F1446 : Fld Z h1443 a cN_2 "trail" "[I" (.ref ta) := F1439.other W1443 (Or.inl (ne_arv F1437 (tw_18 hw) F1441))
    have F1447 : Fld Z h1443 a cN_2 "trailSize" "I" (.int (0 : Int32)) := F1440.other W1443 (Or.inl (ne_arv F1437 (tw_18 hw) F1441))
    have F1448 : Arv Z h1443 va kv (.object cN_4) (3 : Int32) [.null, .null, .null] .null := V1443
    have F1449 : Arv Z h1443 ta kt .int (3 : Int32) [(.int (2 : Int32)), (.int (1 : Int32)), (.int (0 : Int32))] (.int (0 : Int32)) := F1442.other W1443 (Ne.symm ne1)
    have Z1443 : n0 ≤ h1443.size := by rw [W1443.size]; exact Z1436
    have K1443 : Keep h0 h1443 [a, va] := K1436.wr W1443 (Or.inl (List.mem_of_getElem? (i := 1) rfl))
    have N1443 := Fr.snoc X1443 N1436 g_va
    refine w_goto X1443 hx (dB d6_30) 0 ?_
    refine w_aloadN X1443 hx (.ref a) (dB d6_0) 1 rfl rfl rfl ?_
    refine w_getF X1443 hx hZ hown e1443 (host := "") (Or.inl (tw_36 hw)) Via.refl F1447 (dB d6_1) 4 rfl (fun T1450 X1450 e1450 => ?_)
    refine w_iloadN X1450 hx (0 : Int32) (dB d6_4) 5 rfl rfl ?_
    refine w_icmp_le X1450 hx 0 0 (by decide) (by decide) (dB d6_5) 33 8 (fun c1451 => ?_) (fun c1451 => ?_)
    ·refine w_ret0 X1450 hx hlk hret (dB d6_33) (by decide) (by decide) ?_
     rw [e1450]
     exact ⟨rfl, N1443, K1443, F1445, F1446, F1447, F1448, F1449⟩
    ·exfalso; omega
theorem ef_6t21m1 (m : MethodId) (x0 : Addr) : entryFrame m #[(.ref x0), (.int (1 : Int32))] 2 = mkF m 0 #[.val (.ref x0), .val (.int (1 : Int32))] [] := by first | (simp [entryFrame, mkF, argsToLocals, Value.category]; done) | rfl
def Q6t21m1 (Z : State) (a : Addr) (va : Addr) (ta : Addr) (kv : ClassId) (kt : ClassId) (vv : Addr) (h0 : Heap) (n0 : Nat) (v : Option Value) (h : Heap) (L : List Loc) : Prop := v = none ∧ Fr n0 L ∧ Keep h0 h [a, va] ∧ Fld Z h a cN_2 "values" cN_3 (.ref va) ∧ Fld Z h a cN_2 "trail" "[I" (.ref ta) ∧ Fld Z h a cN_2 "trailSize" "I" (.int (1 : Int32)) ∧ Arv Z h va kv (.object cN_4) (3 : Int32) [.null, .null, (.ref vv)] .null ∧ Arv Z h ta kt .int (3 : Int32) [(.int (2 : Int32)), (.int (1 : Int32)), (.int (0 : Int32))] (.int (0 : Int32))
set_option maxRecDepth 65536 in
set_option maxHeartbeats 40000000 in
theorem rm6t21m1 (l : Launch) (Z : State) (a0 : Array Value) (hw : ∀ d ∈ tables_1, d.before a0 Z = true) (ws : List Jvm.Cond) (a : Addr) (va : Addr) (ta : Addr) (kv : ClassId) (kt : ClassId) (vv : Addr) (h0 : Heap) (n0 : Nat) (Z0 : n0 ≤ h0.size) (E_a : Exa Z h0 a cN_2) (F_values_a : Fld Z h0 a cN_2 "values" cN_3 (.ref va)) (F_trail_a : Fld Z h0 a cN_2 "trail" "[I" (.ref ta)) (F_trailSize_a : Fld Z h0 a cN_2 "trailSize" "I" (.int (2 : Int32))) (V_va : Arv Z h0 va kv (.object cN_4) (3 : Int32) [.null, (.ref vv), (.ref vv)] .null) (V_ta : Arv Z h0 ta kt .int (3 : Int32) [(.int (2 : Int32)), (.int (1 : Int32)), (.int (0 : Int32))] (.int (0 : Int32))) (g_a : n0 ≤ a) (g_va : n0 ≤ va) (ne1 : va ≠ ta) (ov : Ovr Z kv "com/example/simpagation/simpagation/Term") :
    CT l mN_6 prog_1_method_7_code 2 none ws ({ frames := 0, cells := 0, slots := 0, locals := 0 } : Room) #[(.ref a), (.int (1 : Int32))] Z h0 (Q6t21m1 Z a va ta kv kt vv h0 n0) := by
  refine body_of (plainFor_of_name pn_2) ?_
  intro p e s m below meth c s₁ hx dB hret hlk hml hown0 hnm X0 e0 hZ
  have hown : s.vm.findClass cN_2 = some m.cls := hown0
  have N0 := Fr.nil n0
  rw [ef_6t21m1]
  show Wk p e below (FN s (Q6t21m1 Z a va ta kv kt vv h0 n0) 0 0) s₁ (mkF m 0 #[.val (.ref a), .val (.int (1 : Int32))] [])
  refine w_aloadN X0 hx (.ref a) (dB d6_0) 1 rfl rfl rfl ?_
  refine w_getF X0 hx hZ hown e0 (host := "") (Or.inl (tw_36 hw)) Via.refl F_trailSize_a (dB d6_1) 4 rfl (fun T1452 X1452 e1452 => ?_)
  refine w_iloadN X1452 hx (1 : Int32) (dB d6_4) 5 rfl rfl ?_
  refine w_icmp_le X1452 hx 2 1 (by decide) (by decide) (dB d6_5) 33 8 (fun c1453 => ?_) (fun c1453 => ?_)
  ·exfalso; omega
  ·refine w_aloadN X1452 hx (.ref a) (dB d6_8) 9 rfl rfl rfl ?_
   refine w_getF X1452 hx hZ hown e1452 (host := "") (Or.inl (tw_26 hw)) Via.refl F_values_a (dB d6_9) 12 rfl (fun T1454 X1454 e1454 => ?_)
   refine w_aloadN X1454 hx (.ref a) (dB d6_12) 13 rfl rfl rfl ?_
   refine w_getF X1454 hx hZ hown e1454 (host := "") (Or.inl (tw_29 hw)) Via.refl F_trail_a (dB d6_13) 16 rfl (fun T1455 X1455 e1455 => ?_)
   refine w_aloadN X1455 hx (.ref a) (dB d6_16) 17 rfl rfl rfl ?_
   refine w_dup X1455 hx (dB d6_17) 18 rfl rfl ?_
   refine w_getF X1455 hx hZ hown e1455 (host := "") (Or.inl (tw_36 hw)) Via.refl F_trailSize_a (dB d6_18) 21 rfl (fun T1456 X1456 e1456 => ?_)
   refine w_iconst X1456 hx (dB d6_21) 22 rfl (1 : Int32) (by decide) ?_
   refine w_isub X1456 hx (dB d6_22) 23 rfl (show (1 : Int32) = (2 : Int32) - (1 : Int32) from by decide) ?_
   refine w_dupX1 X1456 hx (dB d6_23) 24 rfl rfl rfl ?_
   refine w_putF X1456 hx hZ hown e1456 (host := "") (Or.inl (tw_36 hw)) Via.refl F_trailSize_a E_a (Or.inl (tw_37 hw)) (tw_18 hw) (ty := .int) (by decide) rfl rfl (dB d6_24) 27 rfl (fun T1457 h1457 X1457 e1457 W1457 => ?_)
   have F1458 : Exa Z h1457 a cN_2 := E_a.wr W1457
   have F1459 : Fld Z h1457 a cN_2 "values" cN_3 (.ref va) := F_values_a.other W1457 (Or.inr (slot_ne (Or.inr (tw_27 hw)) (Or.inl (tw_37 hw)) (by decide) (t := (.array (.object "com/example/simpagation/simpagation/Term"))) (t' := .int) (by decide) (by decide)))
   have F1460 : Fld Z h1457 a cN_2 "trail" "[I" (.ref ta) := F_trail_a.other W1457 (Or.inr (slot_ne (Or.inr (tw_30 hw)) (Or.inl (tw_37 hw)) (by decide) (t := (.array .int)) (t' := .int) (by decide) (by decide)))
   have F1461 : Fld Z h1457 a cN_2 "trailSize" "I" (.int (1 : Int32)) := F_trailSize_a.same W1457
   have F1462 : Arv Z h1457 va kv (.object cN_4) (3 : Int32) [.null, (.ref vv), (.ref vv)] .null := V_va.other W1457 (Ne.symm (ne_arv E_a (tw_18 hw) V_va))
   have F1463 : Arv Z h1457 ta kt .int (3 : Int32) [(.int (2 : Int32)), (.int (1 : Int32)), (.int (0 : Int32))] (.int (0 : Int32)) := V_ta.other W1457 (Ne.symm (ne_arv E_a (tw_18 hw) V_ta))
   have Z1457 : n0 ≤ h1457.size := by rw [W1457.size]; exact Z0
   have K1457 : Keep h0 h1457 [a, va] := (Keep.refl h0 [a, va]).wr W1457 (Or.inl (List.mem_of_getElem? (i := 0) rfl))
   have N1457 := Fr.snoc X1457 N0 g_a
   refine w_iaload X1457 hx hZ e1457 F1463 ⟨by decide, by decide⟩ (v := (.int (1 : Int32))) rfl (dB d6_27) 28 rfl ?_
   refine w_null X1457 hx (dB d6_28) 29 rfl ?_
   refine w_aastore X1457 hx hZ e1457 F1462 ⟨by decide, by decide⟩ 1 (by decide) (show 1 < 3 from (by decide)) rfl (Or.inl rfl) (dB d6_29) 30 rfl (fun T1464 h1464 X1464 e1464 W1464 V1464 => ?_)
   have F1465 : Exa Z h1464 a cN_2 := F1458.wr W1464
   have F1466 : Fld Z h1464 a cN_2 "values" cN_3 (.ref va) := F1459.other W1464 (Or.inl (ne_arv F1458 (tw_18 hw) F1462))
   have F1467 : Fld Z h1464 a cN_2 "trail" "[I" (.ref ta) := F1460.other W1464 (Or.inl (ne_arv F1458 (tw_18 hw) F1462))
   have F1468 : Fld Z h1464 a cN_2 "trailSize" "I" (.int (1 : Int32)) := F1461.other W1464 (Or.inl (ne_arv F1458 (tw_18 hw) F1462))
   have F1469 : Arv Z h1464 va kv (.object cN_4) (3 : Int32) [.null, .null, (.ref vv)] .null := V1464
   have F1470 : Arv Z h1464 ta kt .int (3 : Int32) [(.int (2 : Int32)), (.int (1 : Int32)), (.int (0 : Int32))] (.int (0 : Int32)) := F1463.other W1464 (Ne.symm ne1)
   have Z1464 : n0 ≤ h1464.size := by rw [W1464.size]; exact Z1457
   have K1464 : Keep h0 h1464 [a, va] := K1457.wr W1464 (Or.inl (List.mem_of_getElem? (i := 1) rfl))
   have N1464 := Fr.snoc X1464 N1457 g_va
   refine w_goto X1464 hx (dB d6_30) 0 ?_
   refine w_aloadN X1464 hx (.ref a) (dB d6_0) 1 rfl rfl rfl ?_
   refine w_getF X1464 hx hZ hown e1464 (host := "") (Or.inl (tw_36 hw)) Via.refl F1468 (dB d6_1) 4 rfl (fun T1471 X1471 e1471 => ?_)
   refine w_iloadN X1471 hx (1 : Int32) (dB d6_4) 5 rfl rfl ?_
   refine w_icmp_le X1471 hx 1 1 (by decide) (by decide) (dB d6_5) 33 8 (fun c1472 => ?_) (fun c1472 => ?_)
   ·refine w_ret0 X1471 hx hlk hret (dB d6_33) (by decide) (by decide) ?_
    rw [e1471]
    exact ⟨rfl, N1464, K1464, F1466, F1467, F1468, F1469, F1470⟩
   ·exfalso; omega
theorem ef_6t210m0 (m : MethodId) (x0 : Addr) : entryFrame m #[(.ref x0), (.int (0 : Int32))] 2 = mkF m 0 #[.val (.ref x0), .val (.int (0 : Int32))] [] := by first | (simp [entryFrame, mkF, argsToLocals, Value.category]; done) | rfl
def Q6t210m0 (Z : State) (a : Addr) (va : Addr) (ta : Addr) (kv : ClassId) (kt : ClassId) (vv : Addr) (h0 : Heap) (n0 : Nat) (v : Option Value) (h : Heap) (L : List Loc) : Prop := v = none ∧ Fr n0 L ∧ Keep h0 h [a, va] ∧ Fld Z h a cN_2 "values" cN_3 (.ref va) ∧ Fld Z h a cN_2 "trail" "[I" (.ref ta) ∧ Fld Z h a cN_2 "trailSize" "I" (.int (0 : Int32)) ∧ Arv Z h va kv (.object cN_4) (3 : Int32) [.null, .null, .null] .null ∧ Arv Z h ta kt .int (3 : Int32) [(.int (2 : Int32)), (.int (1 : Int32)), (.int (0 : Int32))] (.int (0 : Int32))
set_option maxRecDepth 65536 in
set_option maxHeartbeats 40000000 in
theorem rm6t210m0 (l : Launch) (Z : State) (a0 : Array Value) (hw : ∀ d ∈ tables_1, d.before a0 Z = true) (ws : List Jvm.Cond) (a : Addr) (va : Addr) (ta : Addr) (kv : ClassId) (kt : ClassId) (vv : Addr) (h0 : Heap) (n0 : Nat) (Z0 : n0 ≤ h0.size) (E_a : Exa Z h0 a cN_2) (F_values_a : Fld Z h0 a cN_2 "values" cN_3 (.ref va)) (F_trail_a : Fld Z h0 a cN_2 "trail" "[I" (.ref ta)) (F_trailSize_a : Fld Z h0 a cN_2 "trailSize" "I" (.int (3 : Int32))) (V_va : Arv Z h0 va kv (.object cN_4) (3 : Int32) [(.ref vv), (.ref vv), (.ref vv)] .null) (V_ta : Arv Z h0 ta kt .int (3 : Int32) [(.int (2 : Int32)), (.int (1 : Int32)), (.int (0 : Int32))] (.int (0 : Int32))) (g_a : n0 ≤ a) (g_va : n0 ≤ va) (ne1 : va ≠ ta) (ov : Ovr Z kv "com/example/simpagation/simpagation/Term") :
    CT l mN_6 prog_1_method_7_code 2 none ws ({ frames := 0, cells := 0, slots := 0, locals := 0 } : Room) #[(.ref a), (.int (0 : Int32))] Z h0 (Q6t210m0 Z a va ta kv kt vv h0 n0) := by
  refine body_of (plainFor_of_name pn_2) ?_
  intro p e s m below meth c s₁ hx dB hret hlk hml hown0 hnm X0 e0 hZ
  have hown : s.vm.findClass cN_2 = some m.cls := hown0
  have N0 := Fr.nil n0
  rw [ef_6t210m0]
  show Wk p e below (FN s (Q6t210m0 Z a va ta kv kt vv h0 n0) 0 0) s₁ (mkF m 0 #[.val (.ref a), .val (.int (0 : Int32))] [])
  refine w_aloadN X0 hx (.ref a) (dB d6_0) 1 rfl rfl rfl ?_
  refine w_getF X0 hx hZ hown e0 (host := "") (Or.inl (tw_36 hw)) Via.refl F_trailSize_a (dB d6_1) 4 rfl (fun T1473 X1473 e1473 => ?_)
  refine w_iloadN X1473 hx (0 : Int32) (dB d6_4) 5 rfl rfl ?_
  refine w_icmp_le X1473 hx 3 0 (by decide) (by decide) (dB d6_5) 33 8 (fun c1474 => ?_) (fun c1474 => ?_)
  ·exfalso; omega
  ·refine w_aloadN X1473 hx (.ref a) (dB d6_8) 9 rfl rfl rfl ?_
   refine w_getF X1473 hx hZ hown e1473 (host := "") (Or.inl (tw_26 hw)) Via.refl F_values_a (dB d6_9) 12 rfl (fun T1475 X1475 e1475 => ?_)
   refine w_aloadN X1475 hx (.ref a) (dB d6_12) 13 rfl rfl rfl ?_
   refine w_getF X1475 hx hZ hown e1475 (host := "") (Or.inl (tw_29 hw)) Via.refl F_trail_a (dB d6_13) 16 rfl (fun T1476 X1476 e1476 => ?_)
   refine w_aloadN X1476 hx (.ref a) (dB d6_16) 17 rfl rfl rfl ?_
   refine w_dup X1476 hx (dB d6_17) 18 rfl rfl ?_
   refine w_getF X1476 hx hZ hown e1476 (host := "") (Or.inl (tw_36 hw)) Via.refl F_trailSize_a (dB d6_18) 21 rfl (fun T1477 X1477 e1477 => ?_)
   refine w_iconst X1477 hx (dB d6_21) 22 rfl (1 : Int32) (by decide) ?_
   refine w_isub X1477 hx (dB d6_22) 23 rfl (show (2 : Int32) = (3 : Int32) - (1 : Int32) from by decide) ?_
   refine w_dupX1 X1477 hx (dB d6_23) 24 rfl rfl rfl ?_
   refine w_putF X1477 hx hZ hown e1477 (host := "") (Or.inl (tw_36 hw)) Via.refl F_trailSize_a E_a (Or.inl (tw_37 hw)) (tw_18 hw) (ty := .int) (by decide) rfl rfl (dB d6_24) 27 rfl (fun T1478 h1478 X1478 e1478 W1478 => ?_)
   have F1479 : Exa Z h1478 a cN_2 := E_a.wr W1478
   have F1480 : Fld Z h1478 a cN_2 "values" cN_3 (.ref va) := F_values_a.other W1478 (Or.inr (slot_ne (Or.inr (tw_27 hw)) (Or.inl (tw_37 hw)) (by decide) (t := (.array (.object "com/example/simpagation/simpagation/Term"))) (t' := .int) (by decide) (by decide)))
   have F1481 : Fld Z h1478 a cN_2 "trail" "[I" (.ref ta) := F_trail_a.other W1478 (Or.inr (slot_ne (Or.inr (tw_30 hw)) (Or.inl (tw_37 hw)) (by decide) (t := (.array .int)) (t' := .int) (by decide) (by decide)))
   have F1482 : Fld Z h1478 a cN_2 "trailSize" "I" (.int (2 : Int32)) := F_trailSize_a.same W1478
   have F1483 : Arv Z h1478 va kv (.object cN_4) (3 : Int32) [(.ref vv), (.ref vv), (.ref vv)] .null := V_va.other W1478 (Ne.symm (ne_arv E_a (tw_18 hw) V_va))
   have F1484 : Arv Z h1478 ta kt .int (3 : Int32) [(.int (2 : Int32)), (.int (1 : Int32)), (.int (0 : Int32))] (.int (0 : Int32)) := V_ta.other W1478 (Ne.symm (ne_arv E_a (tw_18 hw) V_ta))
   have Z1478 : n0 ≤ h1478.size := by rw [W1478.size]; exact Z0
   have K1478 : Keep h0 h1478 [a, va] := (Keep.refl h0 [a, va]).wr W1478 (Or.inl (List.mem_of_getElem? (i := 0) rfl))
   have N1478 := Fr.snoc X1478 N0 g_a
   refine w_iaload X1478 hx hZ e1478 F1484 ⟨by decide, by decide⟩ (v := (.int (0 : Int32))) rfl (dB d6_27) 28 rfl ?_
   refine w_null X1478 hx (dB d6_28) 29 rfl ?_
   refine w_aastore X1478 hx hZ e1478 F1483 ⟨by decide, by decide⟩ 0 (by decide) (show 0 < 3 from (by decide)) rfl (Or.inl rfl) (dB d6_29) 30 rfl (fun T1485 h1485 X1485 e1485 W1485 V1485 => ?_)
   have F1486 : Exa Z h1485 a cN_2 := F1479.wr W1485
   have F1487 : Fld Z h1485 a cN_2 "values" cN_3 (.ref va) := F1480.other W1485 (Or.inl (ne_arv F1479 (tw_18 hw) F1483))
   have F1488 : Fld Z h1485 a cN_2 "trail" "[I" (.ref ta) := F1481.other W1485 (Or.inl (ne_arv F1479 (tw_18 hw) F1483))
   have F1489 : Fld Z h1485 a cN_2 "trailSize" "I" (.int (2 : Int32)) := F1482.other W1485 (Or.inl (ne_arv F1479 (tw_18 hw) F1483))
   have F1490 : Arv Z h1485 va kv (.object cN_4) (3 : Int32) [.null, (.ref vv), (.ref vv)] .null := V1485
   have F1491 : Arv Z h1485 ta kt .int (3 : Int32) [(.int (2 : Int32)), (.int (1 : Int32)), (.int (0 : Int32))] (.int (0 : Int32)) := F1484.other W1485 (Ne.symm ne1)
   have Z1485 : n0 ≤ h1485.size := by rw [W1485.size]; exact Z1478
   have K1485 : Keep h0 h1485 [a, va] := K1478.wr W1485 (Or.inl (List.mem_of_getElem? (i := 1) rfl))
   have N1485 := Fr.snoc X1485 N1478 g_va
   refine w_goto X1485 hx (dB d6_30) 0 ?_
   refine w_aloadN X1485 hx (.ref a) (dB d6_0) 1 rfl rfl rfl ?_
   refine w_getF X1485 hx hZ hown e1485 (host := "") (Or.inl (tw_36 hw)) Via.refl F1489 (dB d6_1) 4 rfl (fun T1492 X1492 e1492 => ?_)
   refine w_iloadN X1492 hx (0 : Int32) (dB d6_4) 5 rfl rfl ?_
   refine w_icmp_le X1492 hx 2 0 (by decide) (by decide) (dB d6_5) 33 8 (fun c1493 => ?_) (fun c1493 => ?_)
   ·exfalso; omega
   ·refine w_aloadN X1492 hx (.ref a) (dB d6_8) 9 rfl rfl rfl ?_
    refine w_getF X1492 hx hZ hown e1492 (host := "") (Or.inl (tw_26 hw)) Via.refl F1487 (dB d6_9) 12 rfl (fun T1494 X1494 e1494 => ?_)
    refine w_aloadN X1494 hx (.ref a) (dB d6_12) 13 rfl rfl rfl ?_
    refine w_getF X1494 hx hZ hown e1494 (host := "") (Or.inl (tw_29 hw)) Via.refl F1488 (dB d6_13) 16 rfl (fun T1495 X1495 e1495 => ?_)
    refine w_aloadN X1495 hx (.ref a) (dB d6_16) 17 rfl rfl rfl ?_
    refine w_dup X1495 hx (dB d6_17) 18 rfl rfl ?_
    refine w_getF X1495 hx hZ hown e1495 (host := "") (Or.inl (tw_36 hw)) Via.refl F1489 (dB d6_18) 21 rfl (fun T1496 X1496 e1496 => ?_)
    refine w_iconst X1496 hx (dB d6_21) 22 rfl (1 : Int32) (by decide) ?_
    refine w_isub X1496 hx (dB d6_22) 23 rfl (show (1 : Int32) = (2 : Int32) - (1 : Int32) from by decide) ?_
    refine w_dupX1 X1496 hx (dB d6_23) 24 rfl rfl rfl ?_
    refine w_putF X1496 hx hZ hown e1496 (host := "") (Or.inl (tw_36 hw)) Via.refl F1489 F1486 (Or.inl (tw_37 hw)) (tw_18 hw) (ty := .int) (by decide) rfl rfl (dB d6_24) 27 rfl (fun T1497 h1497 X1497 e1497 W1497 => ?_)
    have F1498 : Exa Z h1497 a cN_2 := F1486.wr W1497
    have F1499 : Fld Z h1497 a cN_2 "values" cN_3 (.ref va) := F1487.other W1497 (Or.inr (slot_ne (Or.inr (tw_27 hw)) (Or.inl (tw_37 hw)) (by decide) (t := (.array (.object "com/example/simpagation/simpagation/Term"))) (t' := .int) (by decide) (by decide)))
    have F1500 : Fld Z h1497 a cN_2 "trail" "[I" (.ref ta) := F1488.other W1497 (Or.inr (slot_ne (Or.inr (tw_30 hw)) (Or.inl (tw_37 hw)) (by decide) (t := (.array .int)) (t' := .int) (by decide) (by decide)))
    have F1501 : Fld Z h1497 a cN_2 "trailSize" "I" (.int (1 : Int32)) := F1489.same W1497
    have F1502 : Arv Z h1497 va kv (.object cN_4) (3 : Int32) [.null, (.ref vv), (.ref vv)] .null := F1490.other W1497 (Ne.symm (ne_arv F1486 (tw_18 hw) F1490))
    have F1503 : Arv Z h1497 ta kt .int (3 : Int32) [(.int (2 : Int32)), (.int (1 : Int32)), (.int (0 : Int32))] (.int (0 : Int32)) := F1491.other W1497 (Ne.symm (ne_arv F1486 (tw_18 hw) F1491))
    have Z1497 : n0 ≤ h1497.size := by rw [W1497.size]; exact Z1485
    have K1497 : Keep h0 h1497 [a, va] := K1485.wr W1497 (Or.inl (List.mem_of_getElem? (i := 0) rfl))
    have N1497 := Fr.snoc X1497 N1485 g_a
    refine w_iaload X1497 hx hZ e1497 F1503 ⟨by decide, by decide⟩ (v := (.int (1 : Int32))) rfl (dB d6_27) 28 rfl ?_
    refine w_null X1497 hx (dB d6_28) 29 rfl ?_
    refine w_aastore X1497 hx hZ e1497 F1502 ⟨by decide, by decide⟩ 1 (by decide) (show 1 < 3 from (by decide)) rfl (Or.inl rfl) (dB d6_29) 30 rfl (fun T1504 h1504 X1504 e1504 W1504 V1504 => ?_)
    have F1505 : Exa Z h1504 a cN_2 := F1498.wr W1504
    have F1506 : Fld Z h1504 a cN_2 "values" cN_3 (.ref va) := F1499.other W1504 (Or.inl (ne_arv F1498 (tw_18 hw) F1502))
    have F1507 : Fld Z h1504 a cN_2 "trail" "[I" (.ref ta) := F1500.other W1504 (Or.inl (ne_arv F1498 (tw_18 hw) F1502))
    have F1508 : Fld Z h1504 a cN_2 "trailSize" "I" (.int (1 : Int32)) := F1501.other W1504 (Or.inl (ne_arv F1498 (tw_18 hw) F1502))
    have F1509 : Arv Z h1504 va kv (.object cN_4) (3 : Int32) [.null, .null, (.ref vv)] .null := V1504
    have F1510 : Arv Z h1504 ta kt .int (3 : Int32) [(.int (2 : Int32)), (.int (1 : Int32)), (.int (0 : Int32))] (.int (0 : Int32)) := F1503.other W1504 (Ne.symm ne1)
    have Z1504 : n0 ≤ h1504.size := by rw [W1504.size]; exact Z1497
    have K1504 : Keep h0 h1504 [a, va] := K1497.wr W1504 (Or.inl (List.mem_of_getElem? (i := 1) rfl))
    have N1504 := Fr.snoc X1504 N1497 g_va
    refine w_goto X1504 hx (dB d6_30) 0 ?_
    refine w_aloadN X1504 hx (.ref a) (dB d6_0) 1 rfl rfl rfl ?_
    refine w_getF X1504 hx hZ hown e1504 (host := "") (Or.inl (tw_36 hw)) Via.refl F1508 (dB d6_1) 4 rfl (fun T1511 X1511 e1511 => ?_)
    refine w_iloadN X1511 hx (0 : Int32) (dB d6_4) 5 rfl rfl ?_
    refine w_icmp_le X1511 hx 1 0 (by decide) (by decide) (dB d6_5) 33 8 (fun c1512 => ?_) (fun c1512 => ?_)
    ·exfalso; omega
    ·refine w_aloadN X1511 hx (.ref a) (dB d6_8) 9 rfl rfl rfl ?_
     refine w_getF X1511 hx hZ hown e1511 (host := "") (Or.inl (tw_26 hw)) Via.refl F1506 (dB d6_9) 12 rfl (fun T1513 X1513 e1513 => ?_)
     refine w_aloadN X1513 hx (.ref a) (dB d6_12) 13 rfl rfl rfl ?_
     refine w_getF X1513 hx hZ hown e1513 (host := "") (Or.inl (tw_29 hw)) Via.refl F1507 (dB d6_13) 16 rfl (fun T1514 X1514 e1514 => ?_)
     refine w_aloadN X1514 hx (.ref a) (dB d6_16) 17 rfl rfl rfl ?_
     refine w_dup X1514 hx (dB d6_17) 18 rfl rfl ?_
     refine w_getF X1514 hx hZ hown e1514 (host := "") (Or.inl (tw_36 hw)) Via.refl F1508 (dB d6_18) 21 rfl (fun T1515 X1515 e1515 => ?_)
     refine w_iconst X1515 hx (dB d6_21) 22 rfl (1 : Int32) (by decide) ?_
     refine w_isub X1515 hx (dB d6_22) 23 rfl (show (0 : Int32) = (1 : Int32) - (1 : Int32) from by decide) ?_
     refine w_dupX1 X1515 hx (dB d6_23) 24 rfl rfl rfl ?_
     refine w_putF X1515 hx hZ hown e1515 (host := "") (Or.inl (tw_36 hw)) Via.refl F1508 F1505 (Or.inl (tw_37 hw)) (tw_18 hw) (ty := .int) (by decide) rfl rfl (dB d6_24) 27 rfl (fun T1516 h1516 X1516 e1516 W1516 => ?_)
     have F1517 : Exa Z h1516 a cN_2 := F1505.wr W1516
     have F1518 : Fld Z h1516 a cN_2 "values" cN_3 (.ref va) := F1506.other W1516 (Or.inr (slot_ne (Or.inr (tw_27 hw)) (Or.inl (tw_37 hw)) (by decide) (t := (.array (.object "com/example/simpagation/simpagation/Term"))) (t' := .int) (by decide) (by decide)))
     have F1519 : Fld Z h1516 a cN_2 "trail" "[I" (.ref ta) := F1507.other W1516 (Or.inr (slot_ne (Or.inr (tw_30 hw)) (Or.inl (tw_37 hw)) (by decide) (t := (.array .int)) (t' := .int) (by decide) (by decide)))
     have F1520 : Fld Z h1516 a cN_2 "trailSize" "I" (.int (0 : Int32)) := F1508.same W1516
     have F1521 : Arv Z h1516 va kv (.object cN_4) (3 : Int32) [.null, .null, (.ref vv)] .null := F1509.other W1516 (Ne.symm (ne_arv F1505 (tw_18 hw) F1509))
     have F1522 : Arv Z h1516 ta kt .int (3 : Int32) [(.int (2 : Int32)), (.int (1 : Int32)), (.int (0 : Int32))] (.int (0 : Int32)) := F1510.other W1516 (Ne.symm (ne_arv F1505 (tw_18 hw) F1510))
     have Z1516 : n0 ≤ h1516.size := by rw [W1516.size]; exact Z1504
     have K1516 : Keep h0 h1516 [a, va] := K1504.wr W1516 (Or.inl (List.mem_of_getElem? (i := 0) rfl))
     have N1516 := Fr.snoc X1516 N1504 g_a
     refine w_iaload X1516 hx hZ e1516 F1522 ⟨by decide, by decide⟩ (v := (.int (2 : Int32))) rfl (dB d6_27) 28 rfl ?_
     refine w_null X1516 hx (dB d6_28) 29 rfl ?_
     refine w_aastore X1516 hx hZ e1516 F1521 ⟨by decide, by decide⟩ 2 (by decide) (show 2 < 3 from (by decide)) rfl (Or.inl rfl) (dB d6_29) 30 rfl (fun T1523 h1523 X1523 e1523 W1523 V1523 => ?_)
     have F1524 : Exa Z h1523 a cN_2 := F1517.wr W1523
     have F1525 : Fld Z h1523 a cN_2 "values" cN_3 (.ref va) := F1518.other W1523 (Or.inl (ne_arv F1517 (tw_18 hw) F1521))
     have F1526 : Fld Z h1523 a cN_2 "trail" "[I" (.ref ta) := F1519.other W1523 (Or.inl (ne_arv F1517 (tw_18 hw) F1521))
     have F1527 : Fld Z h1523 a cN_2 "trailSize" "I" (.int (0 : Int32)) := F1520.other W1523 (Or.inl (ne_arv F1517 (tw_18 hw) F1521))
     have F1528 : Arv Z h1523 va kv (.object cN_4) (3 : Int32) [.null, .null, .null] .null := V1523
     have F1529 : Arv Z h1523 ta kt .int (3 : Int32) [(.int (2 : Int32)), (.int (1 : Int32)), (.int (0 : Int32))] (.int (0 : Int32)) := F1522.other W1523 (Ne.symm ne1)
     have Z1523 : n0 ≤ h1523.size := by rw [W1523.size]; exact Z1516
     have K1523 : Keep h0 h1523 [a, va] := K1516.wr W1523 (Or.inl (List.mem_of_getElem? (i := 1) rfl))
     have N1523 := Fr.snoc X1523 N1516 g_va
     refine w_goto X1523 hx (dB d6_30) 0 ?_
     refine w_aloadN X1523 hx (.ref a) (dB d6_0) 1 rfl rfl rfl ?_
     refine w_getF X1523 hx hZ hown e1523 (host := "") (Or.inl (tw_36 hw)) Via.refl F1527 (dB d6_1) 4 rfl (fun T1530 X1530 e1530 => ?_)
     refine w_iloadN X1530 hx (0 : Int32) (dB d6_4) 5 rfl rfl ?_
     refine w_icmp_le X1530 hx 0 0 (by decide) (by decide) (dB d6_5) 33 8 (fun c1531 => ?_) (fun c1531 => ?_)
     ·refine w_ret0 X1530 hx hlk hret (dB d6_33) (by decide) (by decide) ?_
      rw [e1530]
      exact ⟨rfl, N1523, K1523, F1525, F1526, F1527, F1528, F1529⟩
     ·exfalso; omega
theorem ef_6t210m1 (m : MethodId) (x0 : Addr) : entryFrame m #[(.ref x0), (.int (1 : Int32))] 2 = mkF m 0 #[.val (.ref x0), .val (.int (1 : Int32))] [] := by first | (simp [entryFrame, mkF, argsToLocals, Value.category]; done) | rfl
def Q6t210m1 (Z : State) (a : Addr) (va : Addr) (ta : Addr) (kv : ClassId) (kt : ClassId) (vv : Addr) (h0 : Heap) (n0 : Nat) (v : Option Value) (h : Heap) (L : List Loc) : Prop := v = none ∧ Fr n0 L ∧ Keep h0 h [a, va] ∧ Fld Z h a cN_2 "values" cN_3 (.ref va) ∧ Fld Z h a cN_2 "trail" "[I" (.ref ta) ∧ Fld Z h a cN_2 "trailSize" "I" (.int (1 : Int32)) ∧ Arv Z h va kv (.object cN_4) (3 : Int32) [.null, .null, (.ref vv)] .null ∧ Arv Z h ta kt .int (3 : Int32) [(.int (2 : Int32)), (.int (1 : Int32)), (.int (0 : Int32))] (.int (0 : Int32))
set_option maxRecDepth 65536 in
set_option maxHeartbeats 40000000 in
theorem rm6t210m1 (l : Launch) (Z : State) (a0 : Array Value) (hw : ∀ d ∈ tables_1, d.before a0 Z = true) (ws : List Jvm.Cond) (a : Addr) (va : Addr) (ta : Addr) (kv : ClassId) (kt : ClassId) (vv : Addr) (h0 : Heap) (n0 : Nat) (Z0 : n0 ≤ h0.size) (E_a : Exa Z h0 a cN_2) (F_values_a : Fld Z h0 a cN_2 "values" cN_3 (.ref va)) (F_trail_a : Fld Z h0 a cN_2 "trail" "[I" (.ref ta)) (F_trailSize_a : Fld Z h0 a cN_2 "trailSize" "I" (.int (3 : Int32))) (V_va : Arv Z h0 va kv (.object cN_4) (3 : Int32) [(.ref vv), (.ref vv), (.ref vv)] .null) (V_ta : Arv Z h0 ta kt .int (3 : Int32) [(.int (2 : Int32)), (.int (1 : Int32)), (.int (0 : Int32))] (.int (0 : Int32))) (g_a : n0 ≤ a) (g_va : n0 ≤ va) (ne1 : va ≠ ta) (ov : Ovr Z kv "com/example/simpagation/simpagation/Term") :
    CT l mN_6 prog_1_method_7_code 2 none ws ({ frames := 0, cells := 0, slots := 0, locals := 0 } : Room) #[(.ref a), (.int (1 : Int32))] Z h0 (Q6t210m1 Z a va ta kv kt vv h0 n0) := by
  refine body_of (plainFor_of_name pn_2) ?_
  intro p e s m below meth c s₁ hx dB hret hlk hml hown0 hnm X0 e0 hZ
  have hown : s.vm.findClass cN_2 = some m.cls := hown0
  have N0 := Fr.nil n0
  rw [ef_6t210m1]
  show Wk p e below (FN s (Q6t210m1 Z a va ta kv kt vv h0 n0) 0 0) s₁ (mkF m 0 #[.val (.ref a), .val (.int (1 : Int32))] [])
  refine w_aloadN X0 hx (.ref a) (dB d6_0) 1 rfl rfl rfl ?_
  refine w_getF X0 hx hZ hown e0 (host := "") (Or.inl (tw_36 hw)) Via.refl F_trailSize_a (dB d6_1) 4 rfl (fun T1532 X1532 e1532 => ?_)
  refine w_iloadN X1532 hx (1 : Int32) (dB d6_4) 5 rfl rfl ?_
  refine w_icmp_le X1532 hx 3 1 (by decide) (by decide) (dB d6_5) 33 8 (fun c1533 => ?_) (fun c1533 => ?_)
  ·exfalso; omega
  ·refine w_aloadN X1532 hx (.ref a) (dB d6_8) 9 rfl rfl rfl ?_
   refine w_getF X1532 hx hZ hown e1532 (host := "") (Or.inl (tw_26 hw)) Via.refl F_values_a (dB d6_9) 12 rfl (fun T1534 X1534 e1534 => ?_)
   refine w_aloadN X1534 hx (.ref a) (dB d6_12) 13 rfl rfl rfl ?_
   refine w_getF X1534 hx hZ hown e1534 (host := "") (Or.inl (tw_29 hw)) Via.refl F_trail_a (dB d6_13) 16 rfl (fun T1535 X1535 e1535 => ?_)
   refine w_aloadN X1535 hx (.ref a) (dB d6_16) 17 rfl rfl rfl ?_
   refine w_dup X1535 hx (dB d6_17) 18 rfl rfl ?_
   refine w_getF X1535 hx hZ hown e1535 (host := "") (Or.inl (tw_36 hw)) Via.refl F_trailSize_a (dB d6_18) 21 rfl (fun T1536 X1536 e1536 => ?_)
   refine w_iconst X1536 hx (dB d6_21) 22 rfl (1 : Int32) (by decide) ?_
   refine w_isub X1536 hx (dB d6_22) 23 rfl (show (2 : Int32) = (3 : Int32) - (1 : Int32) from by decide) ?_
   refine w_dupX1 X1536 hx (dB d6_23) 24 rfl rfl rfl ?_
   refine w_putF X1536 hx hZ hown e1536 (host := "") (Or.inl (tw_36 hw)) Via.refl F_trailSize_a E_a (Or.inl (tw_37 hw)) (tw_18 hw) (ty := .int) (by decide) rfl rfl (dB d6_24) 27 rfl (fun T1537 h1537 X1537 e1537 W1537 => ?_)
   have F1538 : Exa Z h1537 a cN_2 := E_a.wr W1537
   have F1539 : Fld Z h1537 a cN_2 "values" cN_3 (.ref va) := F_values_a.other W1537 (Or.inr (slot_ne (Or.inr (tw_27 hw)) (Or.inl (tw_37 hw)) (by decide) (t := (.array (.object "com/example/simpagation/simpagation/Term"))) (t' := .int) (by decide) (by decide)))
   have F1540 : Fld Z h1537 a cN_2 "trail" "[I" (.ref ta) := F_trail_a.other W1537 (Or.inr (slot_ne (Or.inr (tw_30 hw)) (Or.inl (tw_37 hw)) (by decide) (t := (.array .int)) (t' := .int) (by decide) (by decide)))
   have F1541 : Fld Z h1537 a cN_2 "trailSize" "I" (.int (2 : Int32)) := F_trailSize_a.same W1537
   have F1542 : Arv Z h1537 va kv (.object cN_4) (3 : Int32) [(.ref vv), (.ref vv), (.ref vv)] .null := V_va.other W1537 (Ne.symm (ne_arv E_a (tw_18 hw) V_va))
   have F1543 : Arv Z h1537 ta kt .int (3 : Int32) [(.int (2 : Int32)), (.int (1 : Int32)), (.int (0 : Int32))] (.int (0 : Int32)) := V_ta.other W1537 (Ne.symm (ne_arv E_a (tw_18 hw) V_ta))
   have Z1537 : n0 ≤ h1537.size := by rw [W1537.size]; exact Z0
   have K1537 : Keep h0 h1537 [a, va] := (Keep.refl h0 [a, va]).wr W1537 (Or.inl (List.mem_of_getElem? (i := 0) rfl))
   have N1537 := Fr.snoc X1537 N0 g_a
   refine w_iaload X1537 hx hZ e1537 F1543 ⟨by decide, by decide⟩ (v := (.int (0 : Int32))) rfl (dB d6_27) 28 rfl ?_
   refine w_null X1537 hx (dB d6_28) 29 rfl ?_
   refine w_aastore X1537 hx hZ e1537 F1542 ⟨by decide, by decide⟩ 0 (by decide) (show 0 < 3 from (by decide)) rfl (Or.inl rfl) (dB d6_29) 30 rfl (fun T1544 h1544 X1544 e1544 W1544 V1544 => ?_)
   have F1545 : Exa Z h1544 a cN_2 := F1538.wr W1544
   have F1546 : Fld Z h1544 a cN_2 "values" cN_3 (.ref va) := F1539.other W1544 (Or.inl (ne_arv F1538 (tw_18 hw) F1542))
   have F1547 : Fld Z h1544 a cN_2 "trail" "[I" (.ref ta) := F1540.other W1544 (Or.inl (ne_arv F1538 (tw_18 hw) F1542))
   have F1548 : Fld Z h1544 a cN_2 "trailSize" "I" (.int (2 : Int32)) := F1541.other W1544 (Or.inl (ne_arv F1538 (tw_18 hw) F1542))
   have F1549 : Arv Z h1544 va kv (.object cN_4) (3 : Int32) [.null, (.ref vv), (.ref vv)] .null := V1544
   have F1550 : Arv Z h1544 ta kt .int (3 : Int32) [(.int (2 : Int32)), (.int (1 : Int32)), (.int (0 : Int32))] (.int (0 : Int32)) := F1543.other W1544 (Ne.symm ne1)
   have Z1544 : n0 ≤ h1544.size := by rw [W1544.size]; exact Z1537
   have K1544 : Keep h0 h1544 [a, va] := K1537.wr W1544 (Or.inl (List.mem_of_getElem? (i := 1) rfl))
   have N1544 := Fr.snoc X1544 N1537 g_va
   refine w_goto X1544 hx (dB d6_30) 0 ?_
   refine w_aloadN X1544 hx (.ref a) (dB d6_0) 1 rfl rfl rfl ?_
   refine w_getF X1544 hx hZ hown e1544 (host := "") (Or.inl (tw_36 hw)) Via.refl F1548 (dB d6_1) 4 rfl (fun T1551 X1551 e1551 => ?_)
   refine w_iloadN X1551 hx (1 : Int32) (dB d6_4) 5 rfl rfl ?_
   refine w_icmp_le X1551 hx 2 1 (by decide) (by decide) (dB d6_5) 33 8 (fun c1552 => ?_) (fun c1552 => ?_)
   ·exfalso; omega
   ·refine w_aloadN X1551 hx (.ref a) (dB d6_8) 9 rfl rfl rfl ?_
    refine w_getF X1551 hx hZ hown e1551 (host := "") (Or.inl (tw_26 hw)) Via.refl F1546 (dB d6_9) 12 rfl (fun T1553 X1553 e1553 => ?_)
    refine w_aloadN X1553 hx (.ref a) (dB d6_12) 13 rfl rfl rfl ?_
    refine w_getF X1553 hx hZ hown e1553 (host := "") (Or.inl (tw_29 hw)) Via.refl F1547 (dB d6_13) 16 rfl (fun T1554 X1554 e1554 => ?_)
    refine w_aloadN X1554 hx (.ref a) (dB d6_16) 17 rfl rfl rfl ?_
    refine w_dup X1554 hx (dB d6_17) 18 rfl rfl ?_
    refine w_getF X1554 hx hZ hown e1554 (host := "") (Or.inl (tw_36 hw)) Via.refl F1548 (dB d6_18) 21 rfl (fun T1555 X1555 e1555 => ?_)
    refine w_iconst X1555 hx (dB d6_21) 22 rfl (1 : Int32) (by decide) ?_
    refine w_isub X1555 hx (dB d6_22) 23 rfl (show (1 : Int32) = (2 : Int32) - (1 : Int32) from by decide) ?_
    refine w_dupX1 X1555 hx (dB d6_23) 24 rfl rfl rfl ?_
    refine w_putF X1555 hx hZ hown e1555 (host := "") (Or.inl (tw_36 hw)) Via.refl F1548 F1545 (Or.inl (tw_37 hw)) (tw_18 hw) (ty := .int) (by decide) rfl rfl (dB d6_24) 27 rfl (fun T1556 h1556 X1556 e1556 W1556 => ?_)
    have F1557 : Exa Z h1556 a cN_2 := F1545.wr W1556
    have F1558 : Fld Z h1556 a cN_2 "values" cN_3 (.ref va) := F1546.other W1556 (Or.inr (slot_ne (Or.inr (tw_27 hw)) (Or.inl (tw_37 hw)) (by decide) (t := (.array (.object "com/example/simpagation/simpagation/Term"))) (t' := .int) (by decide) (by decide)))
    have F1559 : Fld Z h1556 a cN_2 "trail" "[I" (.ref ta) := F1547.other W1556 (Or.inr (slot_ne (Or.inr (tw_30 hw)) (Or.inl (tw_37 hw)) (by decide) (t := (.array .int)) (t' := .int) (by decide) (by decide)))
    have F1560 : Fld Z h1556 a cN_2 "trailSize" "I" (.int (1 : Int32)) := F1548.same W1556
    have F1561 : Arv Z h1556 va kv (.object cN_4) (3 : Int32) [.null, (.ref vv), (.ref vv)] .null := F1549.other W1556 (Ne.symm (ne_arv F1545 (tw_18 hw) F1549))
    have F1562 : Arv Z h1556 ta kt .int (3 : Int32) [(.int (2 : Int32)), (.int (1 : Int32)), (.int (0 : Int32))] (.int (0 : Int32)) := F1550.other W1556 (Ne.symm (ne_arv F1545 (tw_18 hw) F1550))
    have Z1556 : n0 ≤ h1556.size := by rw [W1556.size]; exact Z1544
    have K1556 : Keep h0 h1556 [a, va] := K1544.wr W1556 (Or.inl (List.mem_of_getElem? (i := 0) rfl))
    have N1556 := Fr.snoc X1556 N1544 g_a
    refine w_iaload X1556 hx hZ e1556 F1562 ⟨by decide, by decide⟩ (v := (.int (1 : Int32))) rfl (dB d6_27) 28 rfl ?_
    refine w_null X1556 hx (dB d6_28) 29 rfl ?_
    refine w_aastore X1556 hx hZ e1556 F1561 ⟨by decide, by decide⟩ 1 (by decide) (show 1 < 3 from (by decide)) rfl (Or.inl rfl) (dB d6_29) 30 rfl (fun T1563 h1563 X1563 e1563 W1563 V1563 => ?_)
    have F1564 : Exa Z h1563 a cN_2 := F1557.wr W1563
    have F1565 : Fld Z h1563 a cN_2 "values" cN_3 (.ref va) := F1558.other W1563 (Or.inl (ne_arv F1557 (tw_18 hw) F1561))
    have F1566 : Fld Z h1563 a cN_2 "trail" "[I" (.ref ta) := F1559.other W1563 (Or.inl (ne_arv F1557 (tw_18 hw) F1561))
    have F1567 : Fld Z h1563 a cN_2 "trailSize" "I" (.int (1 : Int32)) := F1560.other W1563 (Or.inl (ne_arv F1557 (tw_18 hw) F1561))
    have F1568 : Arv Z h1563 va kv (.object cN_4) (3 : Int32) [.null, .null, (.ref vv)] .null := V1563
    have F1569 : Arv Z h1563 ta kt .int (3 : Int32) [(.int (2 : Int32)), (.int (1 : Int32)), (.int (0 : Int32))] (.int (0 : Int32)) := F1562.other W1563 (Ne.symm ne1)
    have Z1563 : n0 ≤ h1563.size := by rw [W1563.size]; exact Z1556
    have K1563 : Keep h0 h1563 [a, va] := K1556.wr W1563 (Or.inl (List.mem_of_getElem? (i := 1) rfl))
    have N1563 := Fr.snoc X1563 N1556 g_va
    refine w_goto X1563 hx (dB d6_30) 0 ?_
    refine w_aloadN X1563 hx (.ref a) (dB d6_0) 1 rfl rfl rfl ?_
    refine w_getF X1563 hx hZ hown e1563 (host := "") (Or.inl (tw_36 hw)) Via.refl F1567 (dB d6_1) 4 rfl (fun T1570 X1570 e1570 => ?_)
    refine w_iloadN X1570 hx (1 : Int32) (dB d6_4) 5 rfl rfl ?_
    refine w_icmp_le X1570 hx 1 1 (by decide) (by decide) (dB d6_5) 33 8 (fun c1571 => ?_) (fun c1571 => ?_)
    ·refine w_ret0 X1570 hx hlk hret (dB d6_33) (by decide) (by decide) ?_
     rw [e1570]
     exact ⟨rfl, N1563, K1563, F1565, F1566, F1567, F1568, F1569⟩
    ·exfalso; omega
theorem ef_6t210m2 (m : MethodId) (x0 : Addr) : entryFrame m #[(.ref x0), (.int (2 : Int32))] 2 = mkF m 0 #[.val (.ref x0), .val (.int (2 : Int32))] [] := by first | (simp [entryFrame, mkF, argsToLocals, Value.category]; done) | rfl
def Q6t210m2 (Z : State) (a : Addr) (va : Addr) (ta : Addr) (kv : ClassId) (kt : ClassId) (vv : Addr) (h0 : Heap) (n0 : Nat) (v : Option Value) (h : Heap) (L : List Loc) : Prop := v = none ∧ Fr n0 L ∧ Keep h0 h [a, va] ∧ Fld Z h a cN_2 "values" cN_3 (.ref va) ∧ Fld Z h a cN_2 "trail" "[I" (.ref ta) ∧ Fld Z h a cN_2 "trailSize" "I" (.int (2 : Int32)) ∧ Arv Z h va kv (.object cN_4) (3 : Int32) [.null, (.ref vv), (.ref vv)] .null ∧ Arv Z h ta kt .int (3 : Int32) [(.int (2 : Int32)), (.int (1 : Int32)), (.int (0 : Int32))] (.int (0 : Int32))
set_option maxRecDepth 65536 in
set_option maxHeartbeats 40000000 in
theorem rm6t210m2 (l : Launch) (Z : State) (a0 : Array Value) (hw : ∀ d ∈ tables_1, d.before a0 Z = true) (ws : List Jvm.Cond) (a : Addr) (va : Addr) (ta : Addr) (kv : ClassId) (kt : ClassId) (vv : Addr) (h0 : Heap) (n0 : Nat) (Z0 : n0 ≤ h0.size) (E_a : Exa Z h0 a cN_2) (F_values_a : Fld Z h0 a cN_2 "values" cN_3 (.ref va)) (F_trail_a : Fld Z h0 a cN_2 "trail" "[I" (.ref ta)) (F_trailSize_a : Fld Z h0 a cN_2 "trailSize" "I" (.int (3 : Int32))) (V_va : Arv Z h0 va kv (.object cN_4) (3 : Int32) [(.ref vv), (.ref vv), (.ref vv)] .null) (V_ta : Arv Z h0 ta kt .int (3 : Int32) [(.int (2 : Int32)), (.int (1 : Int32)), (.int (0 : Int32))] (.int (0 : Int32))) (g_a : n0 ≤ a) (g_va : n0 ≤ va) (ne1 : va ≠ ta) (ov : Ovr Z kv "com/example/simpagation/simpagation/Term") :
    CT l mN_6 prog_1_method_7_code 2 none ws ({ frames := 0, cells := 0, slots := 0, locals := 0 } : Room) #[(.ref a), (.int (2 : Int32))] Z h0 (Q6t210m2 Z a va ta kv kt vv h0 n0) := by
  refine body_of (plainFor_of_name pn_2) ?_
  intro p e s m below meth c s₁ hx dB hret hlk hml hown0 hnm X0 e0 hZ
  have hown : s.vm.findClass cN_2 = some m.cls := hown0
  have N0 := Fr.nil n0
  rw [ef_6t210m2]
  show Wk p e below (FN s (Q6t210m2 Z a va ta kv kt vv h0 n0) 0 0) s₁ (mkF m 0 #[.val (.ref a), .val (.int (2 : Int32))] [])
  refine w_aloadN X0 hx (.ref a) (dB d6_0) 1 rfl rfl rfl ?_
  refine w_getF X0 hx hZ hown e0 (host := "") (Or.inl (tw_36 hw)) Via.refl F_trailSize_a (dB d6_1) 4 rfl (fun T1572 X1572 e1572 => ?_)
  refine w_iloadN X1572 hx (2 : Int32) (dB d6_4) 5 rfl rfl ?_
  refine w_icmp_le X1572 hx 3 2 (by decide) (by decide) (dB d6_5) 33 8 (fun c1573 => ?_) (fun c1573 => ?_)
  ·exfalso; omega
  ·refine w_aloadN X1572 hx (.ref a) (dB d6_8) 9 rfl rfl rfl ?_
   refine w_getF X1572 hx hZ hown e1572 (host := "") (Or.inl (tw_26 hw)) Via.refl F_values_a (dB d6_9) 12 rfl (fun T1574 X1574 e1574 => ?_)
   refine w_aloadN X1574 hx (.ref a) (dB d6_12) 13 rfl rfl rfl ?_
   refine w_getF X1574 hx hZ hown e1574 (host := "") (Or.inl (tw_29 hw)) Via.refl F_trail_a (dB d6_13) 16 rfl (fun T1575 X1575 e1575 => ?_)
   refine w_aloadN X1575 hx (.ref a) (dB d6_16) 17 rfl rfl rfl ?_
   refine w_dup X1575 hx (dB d6_17) 18 rfl rfl ?_
   refine w_getF X1575 hx hZ hown e1575 (host := "") (Or.inl (tw_36 hw)) Via.refl F_trailSize_a (dB d6_18) 21 rfl (fun T1576 X1576 e1576 => ?_)
   refine w_iconst X1576 hx (dB d6_21) 22 rfl (1 : Int32) (by decide) ?_
   refine w_isub X1576 hx (dB d6_22) 23 rfl (show (2 : Int32) = (3 : Int32) - (1 : Int32) from by decide) ?_
   refine w_dupX1 X1576 hx (dB d6_23) 24 rfl rfl rfl ?_
   refine w_putF X1576 hx hZ hown e1576 (host := "") (Or.inl (tw_36 hw)) Via.refl F_trailSize_a E_a (Or.inl (tw_37 hw)) (tw_18 hw) (ty := .int) (by decide) rfl rfl (dB d6_24) 27 rfl (fun T1577 h1577 X1577 e1577 W1577 => ?_)
   have F1578 : Exa Z h1577 a cN_2 := E_a.wr W1577
   have F1579 : Fld Z h1577 a cN_2 "values" cN_3 (.ref va) := F_values_a.other W1577 (Or.inr (slot_ne (Or.inr (tw_27 hw)) (Or.inl (tw_37 hw)) (by decide) (t := (.array (.object "com/example/simpagation/simpagation/Term"))) (t' := .int) (by decide) (by decide)))
   have F1580 : Fld Z h1577 a cN_2 "trail" "[I" (.ref ta) := F_trail_a.other W1577 (Or.inr (slot_ne (Or.inr (tw_30 hw)) (Or.inl (tw_37 hw)) (by decide) (t := (.array .int)) (t' := .int) (by decide) (by decide)))
   have F1581 : Fld Z h1577 a cN_2 "trailSize" "I" (.int (2 : Int32)) := F_trailSize_a.same W1577
   have F1582 : Arv Z h1577 va kv (.object cN_4) (3 : Int32) [(.ref vv), (.ref vv), (.ref vv)] .null := V_va.other W1577 (Ne.symm (ne_arv E_a (tw_18 hw) V_va))
   have F1583 : Arv Z h1577 ta kt .int (3 : Int32) [(.int (2 : Int32)), (.int (1 : Int32)), (.int (0 : Int32))] (.int (0 : Int32)) := V_ta.other W1577 (Ne.symm (ne_arv E_a (tw_18 hw) V_ta))
   have Z1577 : n0 ≤ h1577.size := by rw [W1577.size]; exact Z0
   have K1577 : Keep h0 h1577 [a, va] := (Keep.refl h0 [a, va]).wr W1577 (Or.inl (List.mem_of_getElem? (i := 0) rfl))
   have N1577 := Fr.snoc X1577 N0 g_a
   refine w_iaload X1577 hx hZ e1577 F1583 ⟨by decide, by decide⟩ (v := (.int (0 : Int32))) rfl (dB d6_27) 28 rfl ?_
   refine w_null X1577 hx (dB d6_28) 29 rfl ?_
   refine w_aastore X1577 hx hZ e1577 F1582 ⟨by decide, by decide⟩ 0 (by decide) (show 0 < 3 from (by decide)) rfl (Or.inl rfl) (dB d6_29) 30 rfl (fun T1584 h1584 X1584 e1584 W1584 V1584 => ?_)
   have F1585 : Exa Z h1584 a cN_2 := F1578.wr W1584
   have F1586 : Fld Z h1584 a cN_2 "values" cN_3 (.ref va) := F1579.other W1584 (Or.inl (ne_arv F1578 (tw_18 hw) F1582))
   have F1587 : Fld Z h1584 a cN_2 "trail" "[I" (.ref ta) := F1580.other W1584 (Or.inl (ne_arv F1578 (tw_18 hw) F1582))
   have F1588 : Fld Z h1584 a cN_2 "trailSize" "I" (.int (2 : Int32)) := F1581.other W1584 (Or.inl (ne_arv F1578 (tw_18 hw) F1582))
   have F1589 : Arv Z h1584 va kv (.object cN_4) (3 : Int32) [.null, (.ref vv), (.ref vv)] .null := V1584
   have F1590 : Arv Z h1584 ta kt .int (3 : Int32) [(.int (2 : Int32)), (.int (1 : Int32)), (.int (0 : Int32))] (.int (0 : Int32)) := F1583.other W1584 (Ne.symm ne1)
   have Z1584 : n0 ≤ h1584.size := by rw [W1584.size]; exact Z1577
   have K1584 : Keep h0 h1584 [a, va] := K1577.wr W1584 (Or.inl (List.mem_of_getElem? (i := 1) rfl))
   have N1584 := Fr.snoc X1584 N1577 g_va
   refine w_goto X1584 hx (dB d6_30) 0 ?_
   refine w_aloadN X1584 hx (.ref a) (dB d6_0) 1 rfl rfl rfl ?_
   refine w_getF X1584 hx hZ hown e1584 (host := "") (Or.inl (tw_36 hw)) Via.refl F1588 (dB d6_1) 4 rfl (fun T1591 X1591 e1591 => ?_)
   refine w_iloadN X1591 hx (2 : Int32) (dB d6_4) 5 rfl rfl ?_
   refine w_icmp_le X1591 hx 2 2 (by decide) (by decide) (dB d6_5) 33 8 (fun c1592 => ?_) (fun c1592 => ?_)
   ·refine w_ret0 X1591 hx hlk hret (dB d6_33) (by decide) (by decide) ?_
    rw [e1591]
    exact ⟨rfl, N1584, K1584, F1586, F1587, F1588, F1589, F1590⟩
   ·exfalso; omega
theorem ef_7 (m : MethodId) (x0 : Int32) (x1 : Int32) : entryFrame m #[(.int x0), (.int x1)] 2 = mkF m 0 #[.val (.int x0), .val (.int x1)] [] := by first | (simp [entryFrame, mkF, argsToLocals, Value.category]; done) | rfl
def Q7 (Z : State) (x : Int32) (y : Int32) (h0 : Heap) (n0 : Nat) (v : Option Value) (h : Heap) (L : List Loc) : Prop := ∃ z : Int32, v = some (.int z) ∧ ((x.toInt ≤ y.toInt ∧ z.toInt = x.toInt) ∨ (y.toInt < x.toInt ∧ z.toInt = y.toInt)) ∧ Fr n0 L ∧ h = h0
set_option maxRecDepth 65536 in
set_option maxHeartbeats 40000000 in
theorem rm7 (l : Launch) (Z : State) (a0 : Array Value) (hw : ∀ d ∈ tables_1, d.before a0 Z = true) (ws : List Jvm.Cond) (x : Int32) (y : Int32) (h0 : Heap) (n0 : Nat) (Z0 : n0 ≤ h0.size) :
    CT l mN_7 jdk_29_method_69_code 2 (some .int) ws ({ frames := 0, cells := 0, slots := 0, locals := 0 } : Room) #[(.int x), (.int y)] Z h0 (Q7 Z x y h0 n0) := by
  refine body_of (Jvm.Free.JP.mathPlain rfl (by decide +kernel)) ?_
  intro p e s m below meth c s₁ hx dB hret hlk hml hown0 hnm X0 e0 hZ
  have hown : s.vm.findClass cN_5 = some m.cls := hown0
  have N0 := Fr.nil n0
  rw [ef_7]
  show Wk p e below (FN s (Q7 Z x y h0 n0) 0 0) s₁ (mkF m 0 #[.val (.int x), .val (.int y)] [])
  have r_x := rng32 x
  have r_y := rng32 y
  refine w_iloadN X0 hx x (dB d7_0) 1 rfl rfl ?_
  refine w_iloadN X0 hx y (dB d7_1) 2 rfl rfl ?_
  refine w_icmp_gt X0 hx x.toInt y.toInt rfl rfl (dB d7_2) 9 5 (fun c1593 => ?_) (fun c1593 => ?_)
  ·refine w_iloadN X0 hx y (dB d7_9) 10 rfl rfl ?_
   refine w_retI X0 hx hlk hret (dB d7_10) (by decide) (by decide) ?_
   rw [e0]
   exact ⟨y, rfl, by have hz : y.toInt = y.toInt := rfl; omega, N0, rfl⟩
  ·refine w_iloadN X0 hx x (dB d7_5) 6 rfl rfl ?_
   refine w_goto X0 hx (dB d7_6) 10 ?_
   refine w_retI X0 hx hlk hret (dB d7_10) (by decide) (by decide) ?_
   rw [e0]
   exact ⟨x, rfl, by have hz : x.toInt = x.toInt := rfl; omega, N0, rfl⟩
theorem ef_8 (m : MethodId) (x0 : Addr) : entryFrame m #[(.ref x0)] 1 = mkF m 0 #[.val (.ref x0)] [] := by first | (simp [entryFrame, mkF, argsToLocals, Value.category]; done) | rfl
def Q8 (Z : State) (a : Addr) (xl : Int32) (h0 : Heap) (n0 : Nat) (v : Option Value) (h : Heap) (L : List Loc) : Prop := v = some (.int xl) ∧ Fr n0 L ∧ h = h0
set_option maxRecDepth 65536 in
set_option maxHeartbeats 40000000 in
theorem rm8 (l : Launch) (Z : State) (a0 : Array Value) (hw : ∀ d ∈ tables_1, d.before a0 Z = true) (ws : List Jvm.Cond) (a : Addr) (xl : Int32) (h0 : Heap) (n0 : Nat) (Z0 : n0 ≤ h0.size) (F_trailSize_a : Fld Z h0 a cN_2 "trailSize" "I" (.int xl)) :
    CT l mN_8 prog_1_method_6_code 1 (some .int) ws ({ frames := 0, cells := 0, slots := 0, locals := 0 } : Room) #[(.ref a)] Z h0 (Q8 Z a xl h0 n0) := by
  refine body_of (plainFor_of_name pn_2) ?_
  intro p e s m below meth c s₁ hx dB hret hlk hml hown0 hnm X0 e0 hZ
  have hown : s.vm.findClass cN_2 = some m.cls := hown0
  have N0 := Fr.nil n0
  rw [ef_8]
  show Wk p e below (FN s (Q8 Z a xl h0 n0) 0 0) s₁ (mkF m 0 #[.val (.ref a)] [])
  refine w_aloadN X0 hx (.ref a) (dB d8_0) 1 rfl rfl rfl ?_
  refine w_getF X0 hx hZ hown e0 (host := "") (Or.inl (tw_36 hw)) Via.refl F_trailSize_a (dB d8_1) 4 rfl (fun T1594 X1594 e1594 => ?_)
  refine w_retI X1594 hx hlk hret (dB d8_4) (by decide) (by decide) ?_
  rw [e1594]
  exact ⟨rfl, N0, rfl⟩
theorem ef_9i0 (m : MethodId) (x0 : Addr) : entryFrame m #[(.ref x0), (.int (0 : Int32))] 2 = mkF m 0 #[.val (.ref x0), .val (.int (0 : Int32))] [] := by first | (simp [entryFrame, mkF, argsToLocals, Value.category]; done) | rfl
def Q9i0 (Z : State) (a : Addr) (va : Addr) (kv : ClassId) (vs : List Value) (xw : Value) (h0 : Heap) (n0 : Nat) (v : Option Value) (h : Heap) (L : List Loc) : Prop := v = some xw ∧ Fr n0 L ∧ h = h0
set_option maxRecDepth 65536 in
set_option maxHeartbeats 40000000 in
theorem rm9i0 (l : Launch) (Z : State) (a0 : Array Value) (hw : ∀ d ∈ tables_1, d.before a0 Z = true) (ws : List Jvm.Cond) (a : Addr) (va : Addr) (kv : ClassId) (vs : List Value) (xw : Value) (h0 : Heap) (n0 : Nat) (Z0 : n0 ≤ h0.size) (F_values_a : Fld Z h0 a cN_2 "values" cN_3 (.ref va)) (V_va : Arv Z h0 va kv (.object cN_4) (3 : Int32) vs .null) (hv : vs.getD (0 : Int32).toNatClampNeg .null = xw) (hr : xw.isRef = true) :
    CT l mN_9 prog_1_method_2_code 2 (some (.object "com/example/simpagation/simpagation/Term")) ws ({ frames := 0, cells := 0, slots := 0, locals := 0 } : Room) #[(.ref a), (.int (0 : Int32))] Z h0 (Q9i0 Z a va kv vs xw h0 n0) := by
  refine body_of (plainFor_of_name pn_2) ?_
  intro p e s m below meth c s₁ hx dB hret hlk hml hown0 hnm X0 e0 hZ
  have hown : s.vm.findClass cN_2 = some m.cls := hown0
  have N0 := Fr.nil n0
  rw [ef_9i0]
  show Wk p e below (FN s (Q9i0 Z a va kv vs xw h0 n0) 0 0) s₁ (mkF m 0 #[.val (.ref a), .val (.int (0 : Int32))] [])
  refine w_aloadN X0 hx (.ref a) (dB d9_0) 1 rfl rfl rfl ?_
  refine w_getF X0 hx hZ hown e0 (host := "") (Or.inl (tw_26 hw)) Via.refl F_values_a (dB d9_1) 4 rfl (fun T1595 X1595 e1595 => ?_)
  refine w_iloadN X1595 hx (0 : Int32) (dB d9_4) 5 rfl rfl ?_
  refine w_aaload X1595 hx hZ e1595 V_va ⟨by decide, by decide⟩ (v := xw) hv (dB d9_5) 6 rfl ?_
  refine w_retA X1595 hx hlk hret rfl hr (dB d9_6) (by decide) (by decide) ?_
  rw [e1595]
  exact ⟨rfl, N0, rfl⟩
theorem ef_9i1 (m : MethodId) (x0 : Addr) : entryFrame m #[(.ref x0), (.int (1 : Int32))] 2 = mkF m 0 #[.val (.ref x0), .val (.int (1 : Int32))] [] := by first | (simp [entryFrame, mkF, argsToLocals, Value.category]; done) | rfl
def Q9i1 (Z : State) (a : Addr) (va : Addr) (kv : ClassId) (vs : List Value) (xw : Value) (h0 : Heap) (n0 : Nat) (v : Option Value) (h : Heap) (L : List Loc) : Prop := v = some xw ∧ Fr n0 L ∧ h = h0
set_option maxRecDepth 65536 in
set_option maxHeartbeats 40000000 in
theorem rm9i1 (l : Launch) (Z : State) (a0 : Array Value) (hw : ∀ d ∈ tables_1, d.before a0 Z = true) (ws : List Jvm.Cond) (a : Addr) (va : Addr) (kv : ClassId) (vs : List Value) (xw : Value) (h0 : Heap) (n0 : Nat) (Z0 : n0 ≤ h0.size) (F_values_a : Fld Z h0 a cN_2 "values" cN_3 (.ref va)) (V_va : Arv Z h0 va kv (.object cN_4) (3 : Int32) vs .null) (hv : vs.getD (1 : Int32).toNatClampNeg .null = xw) (hr : xw.isRef = true) :
    CT l mN_9 prog_1_method_2_code 2 (some (.object "com/example/simpagation/simpagation/Term")) ws ({ frames := 0, cells := 0, slots := 0, locals := 0 } : Room) #[(.ref a), (.int (1 : Int32))] Z h0 (Q9i1 Z a va kv vs xw h0 n0) := by
  refine body_of (plainFor_of_name pn_2) ?_
  intro p e s m below meth c s₁ hx dB hret hlk hml hown0 hnm X0 e0 hZ
  have hown : s.vm.findClass cN_2 = some m.cls := hown0
  have N0 := Fr.nil n0
  rw [ef_9i1]
  show Wk p e below (FN s (Q9i1 Z a va kv vs xw h0 n0) 0 0) s₁ (mkF m 0 #[.val (.ref a), .val (.int (1 : Int32))] [])
  refine w_aloadN X0 hx (.ref a) (dB d9_0) 1 rfl rfl rfl ?_
  refine w_getF X0 hx hZ hown e0 (host := "") (Or.inl (tw_26 hw)) Via.refl F_values_a (dB d9_1) 4 rfl (fun T1596 X1596 e1596 => ?_)
  refine w_iloadN X1596 hx (1 : Int32) (dB d9_4) 5 rfl rfl ?_
  refine w_aaload X1596 hx hZ e1596 V_va ⟨by decide, by decide⟩ (v := xw) hv (dB d9_5) 6 rfl ?_
  refine w_retA X1596 hx hlk hret rfl hr (dB d9_6) (by decide) (by decide) ?_
  rw [e1596]
  exact ⟨rfl, N0, rfl⟩
theorem ef_9i2 (m : MethodId) (x0 : Addr) : entryFrame m #[(.ref x0), (.int (2 : Int32))] 2 = mkF m 0 #[.val (.ref x0), .val (.int (2 : Int32))] [] := by first | (simp [entryFrame, mkF, argsToLocals, Value.category]; done) | rfl
def Q9i2 (Z : State) (a : Addr) (va : Addr) (kv : ClassId) (vs : List Value) (xw : Value) (h0 : Heap) (n0 : Nat) (v : Option Value) (h : Heap) (L : List Loc) : Prop := v = some xw ∧ Fr n0 L ∧ h = h0
set_option maxRecDepth 65536 in
set_option maxHeartbeats 40000000 in
theorem rm9i2 (l : Launch) (Z : State) (a0 : Array Value) (hw : ∀ d ∈ tables_1, d.before a0 Z = true) (ws : List Jvm.Cond) (a : Addr) (va : Addr) (kv : ClassId) (vs : List Value) (xw : Value) (h0 : Heap) (n0 : Nat) (Z0 : n0 ≤ h0.size) (F_values_a : Fld Z h0 a cN_2 "values" cN_3 (.ref va)) (V_va : Arv Z h0 va kv (.object cN_4) (3 : Int32) vs .null) (hv : vs.getD (2 : Int32).toNatClampNeg .null = xw) (hr : xw.isRef = true) :
    CT l mN_9 prog_1_method_2_code 2 (some (.object "com/example/simpagation/simpagation/Term")) ws ({ frames := 0, cells := 0, slots := 0, locals := 0 } : Room) #[(.ref a), (.int (2 : Int32))] Z h0 (Q9i2 Z a va kv vs xw h0 n0) := by
  refine body_of (plainFor_of_name pn_2) ?_
  intro p e s m below meth c s₁ hx dB hret hlk hml hown0 hnm X0 e0 hZ
  have hown : s.vm.findClass cN_2 = some m.cls := hown0
  have N0 := Fr.nil n0
  rw [ef_9i2]
  show Wk p e below (FN s (Q9i2 Z a va kv vs xw h0 n0) 0 0) s₁ (mkF m 0 #[.val (.ref a), .val (.int (2 : Int32))] [])
  refine w_aloadN X0 hx (.ref a) (dB d9_0) 1 rfl rfl rfl ?_
  refine w_getF X0 hx hZ hown e0 (host := "") (Or.inl (tw_26 hw)) Via.refl F_values_a (dB d9_1) 4 rfl (fun T1597 X1597 e1597 => ?_)
  refine w_iloadN X1597 hx (2 : Int32) (dB d9_4) 5 rfl rfl ?_
  refine w_aaload X1597 hx hZ e1597 V_va ⟨by decide, by decide⟩ (v := xw) hv (dB d9_5) 6 rfl ?_
  refine w_retA X1597 hx hlk hret rfl hr (dB d9_6) (by decide) (by decide) ?_
  rw [e1597]
  exact ⟨rfl, N0, rfl⟩
theorem ef_0 (m : MethodId) (x0 : Int32) (x1 : Int32) (x2 : Int32) : entryFrame m #[(.int x0), (.int x1), (.int x2)] maxLocals = mkF m 0 #[.val (.int x0), .val (.int x1), .val (.int x2), .unset, .unset, .unset, .unset, .unset, .unset, .unset, .unset, .unset, .unset, .unset, .unset] [] := by first | (simp [entryFrame, mkF, argsToLocals, Value.category, maxLocals]; done) | rfl
def Q0 (Z : State) (xp : Int32) (xq : Int32) (xr : Int32) (h0 : Heap) (n0 : Nat) (v : Option Value) (h : Heap) (L : List Loc) : Prop := v = some (.int 1) ∧ Fr n0 L
set_option maxRecDepth 65536 in
set_option maxHeartbeats 40000000 in
theorem rm0 (l : Launch) (Z : State) (a0 : Array Value) (hw : ∀ d ∈ tables_1, d.before a0 Z = true) (ws : List Jvm.Cond) (xp : Int32) (xq : Int32) (xr : Int32) (h0 : Heap) (n0 : Nat) (Z0 : n0 ≤ h0.size) :
    MetFree l x (head1 (Jvm.Cond.code x code maxLocals ret :: ws) room_1) (fun as_ U => as_ = #[(.int xp), (.int xq), (.int xr)] ∧ Z.Warmed39 U.vm ∧ U.heap = h0) (fun _ _ _ _ _ => True) (fun _ U o U' => ∃ v L, o = .returned v ∧ Q0 Z xp xq xr h0 n0 v U'.heap L ∧ FrameEnd U o U' L 4 10) := by
  refine body_of (plainFor_of_name pn_3) ?_
  intro p e s m below meth c s₁ hx dB hret hlk hml hown0 hnm X0 e0 hZ
  have hown : s.vm.findClass cN_6 = some m.cls := hown0
  have N0 := Fr.nil n0
  rw [ef_0]
  show Wk p e below (FN s (Q0 Z xp xq xr h0 n0) 4 10) s₁ (mkF m 0 #[.val (.int xp), .val (.int xq), .val (.int xr), .unset, .unset, .unset, .unset, .unset, .unset, .unset, .unset, .unset, .unset, .unset, .unset] [])
  have r_xp := rng32 xp
  have r_xq := rng32 xq
  have r_xr := rng32 xr
  refine w_iloadN X0 hx xp (dB at_0) 1 rfl rfl ?_
  refine w_ldc X0 hx hZ hown (tw_0 hw) (dB at_1) 3 rfl ?_
  obtain ⟨v1598, e1598⟩ : ∃ z : Int32, z = xp &&& (2147483647 : Int32) := ⟨_, rfl⟩
  have n1598 : v1598.toInt = xp.toInt % 2147483648 := by rw [e1598]; exact maskX 31 rfl (by decide) (by decide)
  refine w_iand X0 hx (dB at_3) 4 rfl e1598 ?_
  refine w_bipush X0 hx (dB at_4) 6 rfl (6 : Int32) (by decide) ?_
  obtain ⟨v1599, e1599⟩ : ∃ z : Int32, z = v1598 % (6 : Int32) := ⟨_, rfl⟩
  have n1599 : v1599.toInt = v1598.toInt % 6 := by rw [e1599]; exact iremX rfl (by decide) (by omega)
  refine w_irem X0 hx (dB at_6) 7 rfl (by decide) e1599 ?_
  refine w_istoreN X0 hx (dB at_7) 8 rfl #[.val (.int xp), .val (.int xq), .val (.int xr), .val (.int v1599), .unset, .unset, .unset, .unset, .unset, .unset, .unset, .unset, .unset, .unset, .unset] rfl ?_
  have s1600 : v1599.toInt = 0 ∨ v1599.toInt = 1 ∨ v1599.toInt = 2 ∨ v1599.toInt = 3 ∨ v1599.toInt = 4 ∨ v1599.toInt = 5 := by omega
  rcases s1600 with s1600 | s1600 | s1600 | s1600 | s1600 | s1600
  ·obtain rfl : v1599 = (0 : Int32) := eqI (s1600.trans (by decide))
   have z1600 : (0 : Int32).toInt = 0 := by decide
   refine w_iloadN X0 hx (0 : Int32) (dB at_8) 9 rfl rfl ?_
   refine w_iconst X0 hx (dB at_9) 10 rfl (2 : Int32) (by decide) ?_
   refine w_idiv X0 hx (dB at_10) 11 rfl (by decide) (show (0 : Int32) = (0 : Int32) / (2 : Int32) from by decide) ?_
   refine w_istore X0 hx (dB at_11) 13 rfl #[.val (.int xp), .val (.int xq), .val (.int xr), .val (.int (0 : Int32)), .val (.int (0 : Int32)), .unset, .unset, .unset, .unset, .unset, .unset, .unset, .unset, .unset, .unset] rfl ?_
   refine w_iload X0 hx (0 : Int32) (dB at_13) 15 rfl rfl ?_
   refine w_if_ne X0 hx 0 (by decide) (dB at_15) 22 18 (fun c1601 => ?_) (fun c1601 => ?_)
   ·exfalso; omega
   ·refine w_iconst X0 hx (dB at_18) 19 rfl (1 : Int32) (by decide) ?_
    refine w_goto X0 hx (dB at_19) 23 ?_
    refine w_istore X0 hx (dB at_23) 25 rfl #[.val (.int xp), .val (.int xq), .val (.int xr), .val (.int (0 : Int32)), .val (.int (0 : Int32)), .val (.int (1 : Int32)), .unset, .unset, .unset, .unset, .unset, .unset, .unset, .unset, .unset] rfl ?_
    refine w_iload X0 hx (0 : Int32) (dB at_25) 27 rfl rfl ?_
    refine w_iconst X0 hx (dB at_27) 28 rfl (2 : Int32) (by decide) ?_
    refine w_icmp_ne X0 hx 0 2 (by decide) (by decide) (dB at_28) 35 31 (fun c1602 => ?_) (fun c1602 => ?_)
    ·refine w_iconst X0 hx (dB at_35) 36 rfl (2 : Int32) (by decide) ?_
     refine w_istore X0 hx (dB at_36) 38 rfl #[.val (.int xp), .val (.int xq), .val (.int xr), .val (.int (0 : Int32)), .val (.int (0 : Int32)), .val (.int (1 : Int32)), .val (.int (2 : Int32)), .unset, .unset, .unset, .unset, .unset, .unset, .unset, .unset] rfl ?_
     refine w_iloadN X0 hx (0 : Int32) (dB at_38) 39 rfl rfl ?_
     refine w_iconst X0 hx (dB at_39) 40 rfl (1 : Int32) (by decide) ?_
     refine w_iand X0 hx (dB at_40) 41 rfl (show (0 : Int32) = (0 : Int32) &&& (1 : Int32) from by decide) ?_
     refine w_if_eq X0 hx 0 (by decide) (dB at_41) 48 44 (fun c1603 => ?_) (fun c1603 => ?_)
     ·refine w_iconst X0 hx (dB at_48) 49 rfl (0 : Int32) (by decide) ?_
      refine w_istore X0 hx (dB at_49) 51 rfl #[.val (.int xp), .val (.int xq), .val (.int xr), .val (.int (0 : Int32)), .val (.int (0 : Int32)), .val (.int (1 : Int32)), .val (.int (2 : Int32)), .val (.int (0 : Int32)), .unset, .unset, .unset, .unset, .unset, .unset, .unset] rfl ?_
      refine w_iload X0 hx (0 : Int32) (dB at_51) 53 rfl rfl ?_
      refine w_if_eq X0 hx 0 (by decide) (dB at_53) 61 56 (fun c1604 => ?_) (fun c1604 => ?_)
      ·refine w_iload X0 hx (1 : Int32) (dB at_61) 63 rfl rfl ?_
       refine w_istore X0 hx (dB at_63) 65 rfl #[.val (.int xp), .val (.int xq), .val (.int xr), .val (.int (0 : Int32)), .val (.int (0 : Int32)), .val (.int (1 : Int32)), .val (.int (2 : Int32)), .val (.int (0 : Int32)), .val (.int (1 : Int32)), .unset, .unset, .unset, .unset, .unset, .unset] rfl ?_
       refine w_iload X0 hx (0 : Int32) (dB at_65) 67 rfl rfl ?_
       refine w_if_eq X0 hx 0 (by decide) (dB at_67) 75 70 (fun c1605 => ?_) (fun c1605 => ?_)
       ·refine w_iload X0 hx (2 : Int32) (dB at_75) 77 rfl rfl ?_
        refine w_istore X0 hx (dB at_77) 79 rfl #[.val (.int xp), .val (.int xq), .val (.int xr), .val (.int (0 : Int32)), .val (.int (0 : Int32)), .val (.int (1 : Int32)), .val (.int (2 : Int32)), .val (.int (0 : Int32)), .val (.int (1 : Int32)), .val (.int (2 : Int32)), .unset, .unset, .unset, .unset, .unset] rfl ?_
        refine w_iloadN X0 hx xq (dB at_79) 80 rfl rfl ?_
        refine w_ldc X0 hx hZ hown (tw_0 hw) (dB at_80) 82 rfl ?_
        obtain ⟨v1606, e1606⟩ : ∃ z : Int32, z = xq &&& (2147483647 : Int32) := ⟨_, rfl⟩
        have n1606 : v1606.toInt = xq.toInt % 2147483648 := by rw [e1606]; exact maskX 31 rfl (by decide) (by decide)
        refine w_iand X0 hx (dB at_82) 83 rfl e1606 ?_
        refine w_iconst X0 hx (dB at_83) 84 rfl (4 : Int32) (by decide) ?_
        obtain ⟨v1607, e1607⟩ : ∃ z : Int32, z = v1606 % (4 : Int32) := ⟨_, rfl⟩
        have n1607 : v1607.toInt = v1606.toInt % 4 := by rw [e1607]; exact iremX rfl (by decide) (by omega)
        refine w_irem X0 hx (dB at_84) 85 rfl (by decide) e1607 ?_
        refine w_istore X0 hx (dB at_85) 87 rfl #[.val (.int xp), .val (.int xq), .val (.int xr), .val (.int (0 : Int32)), .val (.int (0 : Int32)), .val (.int (1 : Int32)), .val (.int (2 : Int32)), .val (.int (0 : Int32)), .val (.int (1 : Int32)), .val (.int (2 : Int32)), .val (.int v1607), .unset, .unset, .unset, .unset] rfl ?_
        refine w_iloadN X0 hx xr (dB at_87) 88 rfl rfl ?_
        refine w_ldc X0 hx hZ hown (tw_0 hw) (dB at_88) 90 rfl ?_
        obtain ⟨v1608, e1608⟩ : ∃ z : Int32, z = xr &&& (2147483647 : Int32) := ⟨_, rfl⟩
        have n1608 : v1608.toInt = xr.toInt % 2147483648 := by rw [e1608]; exact maskX 31 rfl (by decide) (by decide)
        refine w_iand X0 hx (dB at_90) 91 rfl e1608 ?_
        refine w_iconst X0 hx (dB at_91) 92 rfl (5 : Int32) (by decide) ?_
        obtain ⟨v1609, e1609⟩ : ∃ z : Int32, z = v1608 % (5 : Int32) := ⟨_, rfl⟩
        have n1609 : v1609.toInt = v1608.toInt % 5 := by rw [e1609]; exact iremX rfl (by decide) (by omega)
        refine w_irem X0 hx (dB at_92) 93 rfl (by decide) e1609 ?_
        refine w_istore X0 hx (dB at_93) 95 rfl #[.val (.int xp), .val (.int xq), .val (.int xr), .val (.int (0 : Int32)), .val (.int (0 : Int32)), .val (.int (1 : Int32)), .val (.int (2 : Int32)), .val (.int (0 : Int32)), .val (.int (1 : Int32)), .val (.int (2 : Int32)), .val (.int v1607), .val (.int v1609), .unset, .unset, .unset] rfl ?_
        refine w_new X0 hx hZ hown e0 (tw_1 hw) (tw_2 hw) (tw_3 hw) (by decide) (by decide) (dB at_95) 98 rfl (fun T1610 h1610 a1610 X1610 e1610 g1610 E1610 A1610 D1610 => ?_)
        have g_a1610 : n0 ≤ a1610 := Nat.le_trans Z0 (Nat.le_of_eq g1610.symm)
        have s_a1610 : h0.size ≤ a1610 := Nat.le_trans (Keep.refl h0 []).1 (Nat.le_of_eq g1610.symm)
        have Z1610 : n0 ≤ h1610.size := Nat.le_trans Z0 E1610.1
        have K1610 : Keep h0 h1610 [] := (Keep.refl h0 []).ext E1610
        have F1611 : Fld Z h1610 a1610 cN_1 "value" "J" (.long (0 : Int64)) := D1610 (Or.inr (tw_16 hw)) (ty := .long) (by decide)
        refine w_dup X1610 hx (dB at_98) 99 rfl rfl ?_
        refine w_iloadN X1610 hx xq (dB at_99) 100 rfl rfl ?_
        obtain ⟨v1612, e1612⟩ : ∃ z : Int64, z = xq.toInt64 := ⟨_, rfl⟩
        have n1612 : v1612.toInt = xq.toInt := by rw [e1612]; exact i2lX rfl
        refine w_i2l X1610 hx (dB at_100) 101 rfl e1612 ?_
        refine w_init X1610 hx hZ rfl hown e1610 (rm1 l Z a0 hw [] a1610 v1612 h1610 n0 Z1610 A1610 F1611 g_a1610) (tw_4 hw) (tw_5 hw) (tw_3 hw) (tw_6 hw) (by decide) (by rw [hml]; rfl) a1610 [(.long v1612)] [(.ref a1610)] (lenOf pd_1 rfl) rfl rfl (by decide) 1 rfl (by decide) (by decide) (by decide) (dB at_101) 104 rfl (fun r1613 T1613 L1613 X1613 q1613 => ?_)
        obtain ⟨rfl, Nq1613, Kq1613⟩ := q1613
        have N1613 := Fr.app N0 Nq1613
        have F1614 : Exa Z T1613.heap a1610 cN_1 := A1610.keep Kq1613
        have Z1613 : n0 ≤ T1613.heap.size := Nat.le_trans Z1610 Kq1613.1
        have K1613 : Keep h0 T1613.heap [] := K1610.trans Kq1613 (allS (Or.inr s_a1610) all0)
        dsimp only [oD1, oD2, oD3, oD4]
        refine w_astore X1613 hx (dB at_104) 106 rfl rfl #[.val (.int xp), .val (.int xq), .val (.int xr), .val (.int (0 : Int32)), .val (.int (0 : Int32)), .val (.int (1 : Int32)), .val (.int (2 : Int32)), .val (.int (0 : Int32)), .val (.int (1 : Int32)), .val (.int (2 : Int32)), .val (.int v1607), .val (.int v1609), .val (.ref a1610), .unset, .unset] rfl ?_
        refine w_new X1613 hx hZ hown rfl (tw_17 hw) (tw_18 hw) (tw_19 hw) (by decide) (by decide) (dB at_106) 109 rfl (fun T1615 h1615 a1615 X1615 e1615 g1615 E1615 A1615 D1615 => ?_)
        have ne_a1610_a1615 : a1610 ≠ a1615 := Nat.ne_of_lt (Nat.lt_of_lt_of_le F1614.lt (Nat.le_of_eq g1615.symm))
        have g_a1615 : n0 ≤ a1615 := Nat.le_trans Z1613 (Nat.le_of_eq g1615.symm)
        have s_a1615 : h0.size ≤ a1615 := Nat.le_trans K1613.1 (Nat.le_of_eq g1615.symm)
        have F1616 : Exa Z h1615 a1610 cN_1 := F1614.ext E1615
        have Z1615 : n0 ≤ h1615.size := Nat.le_trans Z1613 E1615.1
        have K1615 : Keep h0 h1615 [] := K1613.ext E1615
        have F1617 : Fld Z h1615 a1615 cN_2 "values" cN_3 .null := D1615 (Or.inr (tw_27 hw)) (ty := (.array (.object "com/example/simpagation/simpagation/Term"))) (by decide)
        have F1618 : Fld Z h1615 a1615 cN_2 "trail" "[I" .null := D1615 (Or.inr (tw_30 hw)) (ty := (.array .int)) (by decide)
        have F1619 : Fld Z h1615 a1615 cN_2 "trailSize" "I" (.int (0 : Int32)) := D1615 (Or.inl (tw_37 hw)) (ty := .int) (by decide)
        refine w_dup X1615 hx (dB at_109) 110 rfl rfl ?_
        refine w_iconst X1615 hx (dB at_110) 111 rfl (3 : Int32) (by decide) ?_
        refine w_init X1615 hx hZ rfl hown e1615 (rm4 l Z a0 hw [] a1615 h1615 n0 Z1615 A1615 F1617 F1618 F1619 g_a1615) (tw_20 hw) (tw_21 hw) (tw_19 hw) (tw_22 hw) (by decide) (by rw [hml]; rfl) a1615 [(.int (3 : Int32))] [(.ref a1615)] (lenOf pd_2 rfl) rfl rfl (by decide) 1 rfl (by decide) (by decide) (by decide) (dB at_111) 114 rfl (fun r1620 T1620 L1620 X1620 q1620 => ?_)
        obtain ⟨va1620, ta1620, kv1620, kt1620, rfl, Nq1620, Kq1620, sq1620_0, sq1620_1, nq1620_0, ov1620_0, G1620_0, G1620_1, G1620_2, G1620_3, G1620_4⟩ := q1620
        have N1620 := Fr.app N1613 Nq1620
        have ne_a1610_va1620 : a1610 ≠ va1620 := Nat.ne_of_lt (Nat.lt_of_lt_of_le F1616.lt sq1620_0)
        have ne_a1615_va1620 : a1615 ≠ va1620 := Nat.ne_of_lt (Nat.lt_of_lt_of_le A1615.lt sq1620_0)
        have g_va1620 : n0 ≤ va1620 := Nat.le_trans Z1615 sq1620_0
        have s_va1620 : h0.size ≤ va1620 := Nat.le_trans K1615.1 sq1620_0
        have ne_a1610_ta1620 : a1610 ≠ ta1620 := Nat.ne_of_lt (Nat.lt_of_lt_of_le F1616.lt sq1620_1)
        have ne_a1615_ta1620 : a1615 ≠ ta1620 := Nat.ne_of_lt (Nat.lt_of_lt_of_le A1615.lt sq1620_1)
        have g_ta1620 : n0 ≤ ta1620 := Nat.le_trans Z1615 sq1620_1
        have s_ta1620 : h0.size ≤ ta1620 := Nat.le_trans K1615.1 sq1620_1
        have F1621 : Exa Z T1620.heap a1610 cN_1 := F1616.keep Kq1620
        have F1622 : Exa Z T1620.heap a1615 cN_2 := A1615.keep Kq1620
        have Z1620 : n0 ≤ T1620.heap.size := Nat.le_trans Z1615 Kq1620.1
        have K1620 : Keep h0 T1620.heap [] := K1615.trans Kq1620 (allS (Or.inr s_a1615) all0)
        dsimp only [oD1, oD2, oD3, oD4]
        refine w_astore X1620 hx (dB at_114) 116 rfl rfl #[.val (.int xp), .val (.int xq), .val (.int xr), .val (.int (0 : Int32)), .val (.int (0 : Int32)), .val (.int (1 : Int32)), .val (.int (2 : Int32)), .val (.int (0 : Int32)), .val (.int (1 : Int32)), .val (.int (2 : Int32)), .val (.int v1607), .val (.int v1609), .val (.ref a1610), .val (.ref a1615), .unset] rfl ?_
        have J1623 : ∀ (T' : State) (h' : Heap) (L' : List Loc) (_ : Stand p l e room_1 s m #[(.int xp), (.int xq), (.int xr)] below meth c T' L' 4 10) (_ : T'.heap = h') (_ : Fr n0 L') (_ : n0 ≤ h'.size) (_ : Keep h0 h' []) (j1623_0 : Int32) (j1623_1 : Int32) , (Exa Z h' a1615 cN_2) → (Fld Z h' a1615 cN_2 "values" cN_3 (.ref va1620)) → (Fld Z h' a1615 cN_2 "trailSize" "I" (.int (0 : Int32))) → (Arv Z h' va1620 kv1620 (.object cN_4) (3 : Int32) [.null, .null, .null] .null) → (0 ≤ j1623_0.toInt ∧ j1623_0.toInt ≤ 3 ∧ 0 ≤ j1623_1.toInt ∧ j1623_1.toInt ≤ 4 ∧ ((j1623_0.toInt ≤ j1623_1.toInt ∧ j1623_0.toInt = 0) ∨ (j1623_1.toInt < j1623_0.toInt ∧ j1623_1.toInt = 0))) → Wk p e below (FN s (Q0 Z xp xq xr h0 n0) 4 10) T' (mkF m 167 #[.val (.int xp), .val (.int xq), .val (.int xr), .val (.int (0 : Int32)), .val (.int (0 : Int32)), .val (.int (1 : Int32)), .val (.int (2 : Int32)), .val (.int (0 : Int32)), .val (.int (1 : Int32)), .val (.int (2 : Int32)), .val (.int j1623_0), .val (.int j1623_1), .val (.ref a1610), .val (.ref a1615), .unset] []) := by
         intro T1623 h1623 L1623 X1623 e1623_ N1623 Z1623 K1623 j1623_0 j1623_1  jf1623_0 jf1623_1 jf1623_2 jf1623_3 f1623
         refine w_iload X1623 hx j1623_0 (dB at_167) 169 rfl rfl ?_
         refine w_iload X1623 hx j1623_1 (dB at_169) 171 rfl rfl ?_
         refine w_callS X1623 hx hZ hown e1623_ (rm7 l Z a0 hw [] j1623_0 j1623_1 h1623 n0 Z1623 ) (tw_44 hw) (tw_45 hw) (tw_46 hw) (tw_47 hw) (by decide) (by rw [hml]; rfl) [(.int j1623_0), (.int j1623_1)] [] (lenOf pd_3 rfl) rfl rfl (by decide) 0 rfl (by decide) (by decide) (by decide) (dB at_171) 174 rfl (fun r1624 T1624 L1624 X1624 q1624 => ?_)
         obtain ⟨z1624, rfl, f1624, Nq1624, eq1624⟩ := q1624
         have N1624 := Fr.app N1623 Nq1624
         dsimp only [oD1, oD2, oD3, oD4]
         refine w_istore X1624 hx (dB at_174) 176 rfl #[.val (.int xp), .val (.int xq), .val (.int xr), .val (.int (0 : Int32)), .val (.int (0 : Int32)), .val (.int (1 : Int32)), .val (.int (2 : Int32)), .val (.int (0 : Int32)), .val (.int (1 : Int32)), .val (.int (2 : Int32)), .val (.int j1623_0), .val (.int j1623_1), .val (.ref a1610), .val (.ref a1615), .val (.int z1624)] rfl ?_
         refine w_aload X1624 hx (.ref a1615) (dB at_176) 178 rfl rfl rfl ?_
         refine w_virt X1624 hx hZ hown eq1624 (rm8 l Z a0 hw [] a1615 (0 : Int32) h1623 n0 Z1623 jf1623_2) (tw_48 hw) (tw_49 hw) (notFace_of_selects (args := #[]) (mvT hZ (tw_51 hw))) (tw_51 hw) (tw_50 hw) (tw_19 hw) (tw_52 hw) (by decide) a1615 jf1623_0 (by rw [hml]; rfl) [] [] (lenOf pd_4 rfl) rfl rfl (by decide) 0 rfl (by decide) (by decide) (by decide) (dB at_178) 181 rfl (fun r1625 T1625 L1625 X1625 q1625 => ?_)
         obtain ⟨rfl, Nq1625, eq1625⟩ := q1625
         have N1625 := Fr.app N1624 Nq1625
         dsimp only [oD1, oD2, oD3, oD4]
         refine w_iload X1625 hx z1624 (dB at_181) 183 rfl rfl ?_
         refine w_icmp_ne X1625 hx 0 z1624.toInt (by decide) rfl (dB at_183) 283 186 (fun c1626 => ?_) (fun c1626 => ?_)
         ·exfalso; omega
         ·refine w_aload X1625 hx (.ref a1615) (dB at_186) 188 rfl rfl rfl ?_
          refine w_iload X1625 hx (0 : Int32) (dB at_188) 190 rfl rfl ?_
          refine w_virt X1625 hx hZ hown eq1625 (rm9i0 l Z a0 hw [] a1615 va1620 kv1620 [.null, .null, .null] .null h1623 n0 Z1623 jf1623_1 jf1623_3 (by rfl) (by rfl)) (tw_53 hw) (tw_54 hw) (notFace_of_selects (args := #[]) (mvT hZ (tw_56 hw))) (tw_56 hw) (tw_55 hw) (tw_19 hw) (tw_57 hw) (by decide) a1615 jf1623_0 (by rw [hml]; rfl) [(.int (0 : Int32))] [] (lenOf pd_5 rfl) rfl rfl (by decide) 0 rfl (by decide) (by decide) (by decide) (dB at_190) 193 rfl (fun r1627 T1627 L1627 X1627 q1627 => ?_)
          obtain ⟨rfl, Nq1627, eq1627⟩ := q1627
          have N1627 := Fr.app N1625 Nq1627
          dsimp only [oD1, oD2, oD3, oD4]
          refine w_aload X1627 hx (.ref a1610) (dB at_193) 195 rfl rfl rfl ?_
          refine w_acmp X1627 hx rfl rfl (dB at_195) false (decide_eq_false nofun) 202 (by decide) (by decide) ?_
          refine w_iconst X1627 hx (dB at_202) 203 rfl (0 : Int32) (by decide) ?_
          refine w_iconst X1627 hx (dB at_203) 204 rfl (0 : Int32) (by decide) ?_
          refine w_iload X1627 hx z1624 (dB at_204) 206 rfl rfl ?_
          refine w_icmp_ge X1627 hx 0 z1624.toInt (by decide) rfl (dB at_206) 213 209 (fun c1628 => ?_) (fun c1628 => ?_)
          ·refine w_iconst X1627 hx (dB at_213) 214 rfl (0 : Int32) (by decide) ?_
           refine w_icmp_ne X1627 hx 0 0 (by decide) (by decide) (dB at_214) 283 217 (fun c1629 => ?_) (fun c1629 => ?_)
           ·exfalso; omega
           ·refine w_aload X1627 hx (.ref a1615) (dB at_217) 219 rfl rfl rfl ?_
            refine w_iload X1627 hx (1 : Int32) (dB at_219) 221 rfl rfl ?_
            refine w_virt X1627 hx hZ hown eq1627 (rm9i1 l Z a0 hw [] a1615 va1620 kv1620 [.null, .null, .null] .null h1623 n0 Z1623 jf1623_1 jf1623_3 (by rfl) (by rfl)) (tw_53 hw) (tw_54 hw) (notFace_of_selects (args := #[]) (mvT hZ (tw_56 hw))) (tw_56 hw) (tw_55 hw) (tw_19 hw) (tw_57 hw) (by decide) a1615 jf1623_0 (by rw [hml]; rfl) [(.int (1 : Int32))] [] (lenOf pd_5 rfl) rfl rfl (by decide) 0 rfl (by decide) (by decide) (by decide) (dB at_221) 224 rfl (fun r1630 T1630 L1630 X1630 q1630 => ?_)
            obtain ⟨rfl, Nq1630, eq1630⟩ := q1630
            have N1630 := Fr.app N1627 Nq1630
            dsimp only [oD1, oD2, oD3, oD4]
            refine w_aload X1630 hx (.ref a1610) (dB at_224) 226 rfl rfl rfl ?_
            refine w_acmp X1630 hx rfl rfl (dB at_226) false (decide_eq_false nofun) 233 (by decide) (by decide) ?_
            refine w_iconst X1630 hx (dB at_233) 234 rfl (0 : Int32) (by decide) ?_
            refine w_iconst X1630 hx (dB at_234) 235 rfl (1 : Int32) (by decide) ?_
            refine w_iload X1630 hx z1624 (dB at_235) 237 rfl rfl ?_
            refine w_icmp_ge X1630 hx 1 z1624.toInt (by decide) rfl (dB at_237) 244 240 (fun c1631 => ?_) (fun c1631 => ?_)
            ·refine w_iconst X1630 hx (dB at_244) 245 rfl (0 : Int32) (by decide) ?_
             refine w_icmp_ne X1630 hx 0 0 (by decide) (by decide) (dB at_245) 283 248 (fun c1632 => ?_) (fun c1632 => ?_)
             ·exfalso; omega
             ·refine w_aload X1630 hx (.ref a1615) (dB at_248) 250 rfl rfl rfl ?_
              refine w_iload X1630 hx (2 : Int32) (dB at_250) 252 rfl rfl ?_
              refine w_virt X1630 hx hZ hown eq1630 (rm9i2 l Z a0 hw [] a1615 va1620 kv1620 [.null, .null, .null] .null h1623 n0 Z1623 jf1623_1 jf1623_3 (by rfl) (by rfl)) (tw_53 hw) (tw_54 hw) (notFace_of_selects (args := #[]) (mvT hZ (tw_56 hw))) (tw_56 hw) (tw_55 hw) (tw_19 hw) (tw_57 hw) (by decide) a1615 jf1623_0 (by rw [hml]; rfl) [(.int (2 : Int32))] [] (lenOf pd_5 rfl) rfl rfl (by decide) 0 rfl (by decide) (by decide) (by decide) (dB at_252) 255 rfl (fun r1633 T1633 L1633 X1633 q1633 => ?_)
              obtain ⟨rfl, Nq1633, eq1633⟩ := q1633
              have N1633 := Fr.app N1630 Nq1633
              dsimp only [oD1, oD2, oD3, oD4]
              refine w_aload X1633 hx (.ref a1610) (dB at_255) 257 rfl rfl rfl ?_
              refine w_acmp X1633 hx rfl rfl (dB at_257) false (decide_eq_false nofun) 264 (by decide) (by decide) ?_
              refine w_iconst X1633 hx (dB at_264) 265 rfl (0 : Int32) (by decide) ?_
              refine w_iconst X1633 hx (dB at_265) 266 rfl (2 : Int32) (by decide) ?_
              refine w_iload X1633 hx z1624 (dB at_266) 268 rfl rfl ?_
              refine w_icmp_ge X1633 hx 2 z1624.toInt (by decide) rfl (dB at_268) 275 271 (fun c1634 => ?_) (fun c1634 => ?_)
              ·refine w_iconst X1633 hx (dB at_275) 276 rfl (0 : Int32) (by decide) ?_
               refine w_icmp_ne X1633 hx 0 0 (by decide) (by decide) (dB at_276) 283 279 (fun c1635 => ?_) (fun c1635 => ?_)
               ·exfalso; omega
               ·refine w_iconst X1633 hx (dB at_279) 280 rfl (1 : Int32) (by decide) ?_
                refine w_goto X1633 hx (dB at_280) 284 ?_
                refine w_retN X1633 hx hlk (t := .boolean) hret (by simp) (dB at_284) (by decide) (by decide) ?_
                rw [eq1633]
                exact ⟨rfl, N1633⟩
              ·exfalso; omega
            ·exfalso; omega
          ·exfalso; omega
        have J1636 : ∀ (T' : State) (h' : Heap) (L' : List Loc) (_ : Stand p l e room_1 s m #[(.int xp), (.int xq), (.int xr)] below meth c T' L' 4 10) (_ : T'.heap = h') (_ : Fr n0 L') (_ : n0 ≤ h'.size) (_ : Keep h0 h' []) (j1636_0 : Int32) (j1636_1 : Int32) , (Exa Z h' a1615 cN_2) → (Fld Z h' a1615 cN_2 "values" cN_3 (.ref va1620)) → (Fld Z h' a1615 cN_2 "trailSize" "I" (.int (1 : Int32))) → (Arv Z h' va1620 kv1620 (.object cN_4) (3 : Int32) [(.ref a1610), .null, .null] .null) → (0 ≤ j1636_0.toInt ∧ j1636_0.toInt ≤ 3 ∧ 0 ≤ j1636_1.toInt ∧ j1636_1.toInt ≤ 4 ∧ ((j1636_0.toInt ≤ j1636_1.toInt ∧ j1636_0.toInt = 1) ∨ (j1636_1.toInt < j1636_0.toInt ∧ j1636_1.toInt = 1))) → Wk p e below (FN s (Q0 Z xp xq xr h0 n0) 4 10) T' (mkF m 167 #[.val (.int xp), .val (.int xq), .val (.int xr), .val (.int (0 : Int32)), .val (.int (0 : Int32)), .val (.int (1 : Int32)), .val (.int (2 : Int32)), .val (.int (0 : Int32)), .val (.int (1 : Int32)), .val (.int (2 : Int32)), .val (.int j1636_0), .val (.int j1636_1), .val (.ref a1610), .val (.ref a1615), .unset] []) := by
         intro T1636 h1636 L1636 X1636 e1636_ N1636 Z1636 K1636 j1636_0 j1636_1  jf1636_0 jf1636_1 jf1636_2 jf1636_3 f1636
         refine w_iload X1636 hx j1636_0 (dB at_167) 169 rfl rfl ?_
         refine w_iload X1636 hx j1636_1 (dB at_169) 171 rfl rfl ?_
         refine w_callS X1636 hx hZ hown e1636_ (rm7 l Z a0 hw [] j1636_0 j1636_1 h1636 n0 Z1636 ) (tw_44 hw) (tw_45 hw) (tw_46 hw) (tw_47 hw) (by decide) (by rw [hml]; rfl) [(.int j1636_0), (.int j1636_1)] [] (lenOf pd_3 rfl) rfl rfl (by decide) 0 rfl (by decide) (by decide) (by decide) (dB at_171) 174 rfl (fun r1637 T1637 L1637 X1637 q1637 => ?_)
         obtain ⟨z1637, rfl, f1637, Nq1637, eq1637⟩ := q1637
         have N1637 := Fr.app N1636 Nq1637
         dsimp only [oD1, oD2, oD3, oD4]
         refine w_istore X1637 hx (dB at_174) 176 rfl #[.val (.int xp), .val (.int xq), .val (.int xr), .val (.int (0 : Int32)), .val (.int (0 : Int32)), .val (.int (1 : Int32)), .val (.int (2 : Int32)), .val (.int (0 : Int32)), .val (.int (1 : Int32)), .val (.int (2 : Int32)), .val (.int j1636_0), .val (.int j1636_1), .val (.ref a1610), .val (.ref a1615), .val (.int z1637)] rfl ?_
         refine w_aload X1637 hx (.ref a1615) (dB at_176) 178 rfl rfl rfl ?_
         refine w_virt X1637 hx hZ hown eq1637 (rm8 l Z a0 hw [] a1615 (1 : Int32) h1636 n0 Z1636 jf1636_2) (tw_48 hw) (tw_49 hw) (notFace_of_selects (args := #[]) (mvT hZ (tw_51 hw))) (tw_51 hw) (tw_50 hw) (tw_19 hw) (tw_52 hw) (by decide) a1615 jf1636_0 (by rw [hml]; rfl) [] [] (lenOf pd_4 rfl) rfl rfl (by decide) 0 rfl (by decide) (by decide) (by decide) (dB at_178) 181 rfl (fun r1638 T1638 L1638 X1638 q1638 => ?_)
         obtain ⟨rfl, Nq1638, eq1638⟩ := q1638
         have N1638 := Fr.app N1637 Nq1638
         dsimp only [oD1, oD2, oD3, oD4]
         refine w_iload X1638 hx z1637 (dB at_181) 183 rfl rfl ?_
         refine w_icmp_ne X1638 hx 1 z1637.toInt (by decide) rfl (dB at_183) 283 186 (fun c1639 => ?_) (fun c1639 => ?_)
         ·exfalso; omega
         ·refine w_aload X1638 hx (.ref a1615) (dB at_186) 188 rfl rfl rfl ?_
          refine w_iload X1638 hx (0 : Int32) (dB at_188) 190 rfl rfl ?_
          refine w_virt X1638 hx hZ hown eq1638 (rm9i0 l Z a0 hw [] a1615 va1620 kv1620 [(.ref a1610), .null, .null] (.ref a1610) h1636 n0 Z1636 jf1636_1 jf1636_3 (by rfl) (by rfl)) (tw_53 hw) (tw_54 hw) (notFace_of_selects (args := #[]) (mvT hZ (tw_56 hw))) (tw_56 hw) (tw_55 hw) (tw_19 hw) (tw_57 hw) (by decide) a1615 jf1636_0 (by rw [hml]; rfl) [(.int (0 : Int32))] [] (lenOf pd_5 rfl) rfl rfl (by decide) 0 rfl (by decide) (by decide) (by decide) (dB at_190) 193 rfl (fun r1640 T1640 L1640 X1640 q1640 => ?_)
          obtain ⟨rfl, Nq1640, eq1640⟩ := q1640
          have N1640 := Fr.app N1638 Nq1640
          dsimp only [oD1, oD2, oD3, oD4]
          refine w_aload X1640 hx (.ref a1610) (dB at_193) 195 rfl rfl rfl ?_
          refine w_acmp X1640 hx rfl rfl (dB at_195) true (decide_eq_true rfl) 198 (by decide) (by decide) ?_
          refine w_iconst X1640 hx (dB at_198) 199 rfl (1 : Int32) (by decide) ?_
          refine w_goto X1640 hx (dB at_199) 203 ?_
          refine w_iconst X1640 hx (dB at_203) 204 rfl (0 : Int32) (by decide) ?_
          refine w_iload X1640 hx z1637 (dB at_204) 206 rfl rfl ?_
          refine w_icmp_ge X1640 hx 0 z1637.toInt (by decide) rfl (dB at_206) 213 209 (fun c1641 => ?_) (fun c1641 => ?_)
          ·exfalso; omega
          ·refine w_iconst X1640 hx (dB at_209) 210 rfl (1 : Int32) (by decide) ?_
           refine w_goto X1640 hx (dB at_210) 214 ?_
           refine w_icmp_ne X1640 hx 1 1 (by decide) (by decide) (dB at_214) 283 217 (fun c1642 => ?_) (fun c1642 => ?_)
           ·exfalso; omega
           ·refine w_aload X1640 hx (.ref a1615) (dB at_217) 219 rfl rfl rfl ?_
            refine w_iload X1640 hx (1 : Int32) (dB at_219) 221 rfl rfl ?_
            refine w_virt X1640 hx hZ hown eq1640 (rm9i1 l Z a0 hw [] a1615 va1620 kv1620 [(.ref a1610), .null, .null] .null h1636 n0 Z1636 jf1636_1 jf1636_3 (by rfl) (by rfl)) (tw_53 hw) (tw_54 hw) (notFace_of_selects (args := #[]) (mvT hZ (tw_56 hw))) (tw_56 hw) (tw_55 hw) (tw_19 hw) (tw_57 hw) (by decide) a1615 jf1636_0 (by rw [hml]; rfl) [(.int (1 : Int32))] [] (lenOf pd_5 rfl) rfl rfl (by decide) 0 rfl (by decide) (by decide) (by decide) (dB at_221) 224 rfl (fun r1643 T1643 L1643 X1643 q1643 => ?_)
            obtain ⟨rfl, Nq1643, eq1643⟩ := q1643
            have N1643 := Fr.app N1640 Nq1643
            dsimp only [oD1, oD2, oD3, oD4]
            refine w_aload X1643 hx (.ref a1610) (dB at_224) 226 rfl rfl rfl ?_
            refine w_acmp X1643 hx rfl rfl (dB at_226) false (decide_eq_false nofun) 233 (by decide) (by decide) ?_
            refine w_iconst X1643 hx (dB at_233) 234 rfl (0 : Int32) (by decide) ?_
            refine w_iconst X1643 hx (dB at_234) 235 rfl (1 : Int32) (by decide) ?_
            refine w_iload X1643 hx z1637 (dB at_235) 237 rfl rfl ?_
            refine w_icmp_ge X1643 hx 1 z1637.toInt (by decide) rfl (dB at_237) 244 240 (fun c1644 => ?_) (fun c1644 => ?_)
            ·refine w_iconst X1643 hx (dB at_244) 245 rfl (0 : Int32) (by decide) ?_
             refine w_icmp_ne X1643 hx 0 0 (by decide) (by decide) (dB at_245) 283 248 (fun c1645 => ?_) (fun c1645 => ?_)
             ·exfalso; omega
             ·refine w_aload X1643 hx (.ref a1615) (dB at_248) 250 rfl rfl rfl ?_
              refine w_iload X1643 hx (2 : Int32) (dB at_250) 252 rfl rfl ?_
              refine w_virt X1643 hx hZ hown eq1643 (rm9i2 l Z a0 hw [] a1615 va1620 kv1620 [(.ref a1610), .null, .null] .null h1636 n0 Z1636 jf1636_1 jf1636_3 (by rfl) (by rfl)) (tw_53 hw) (tw_54 hw) (notFace_of_selects (args := #[]) (mvT hZ (tw_56 hw))) (tw_56 hw) (tw_55 hw) (tw_19 hw) (tw_57 hw) (by decide) a1615 jf1636_0 (by rw [hml]; rfl) [(.int (2 : Int32))] [] (lenOf pd_5 rfl) rfl rfl (by decide) 0 rfl (by decide) (by decide) (by decide) (dB at_252) 255 rfl (fun r1646 T1646 L1646 X1646 q1646 => ?_)
              obtain ⟨rfl, Nq1646, eq1646⟩ := q1646
              have N1646 := Fr.app N1643 Nq1646
              dsimp only [oD1, oD2, oD3, oD4]
              refine w_aload X1646 hx (.ref a1610) (dB at_255) 257 rfl rfl rfl ?_
              refine w_acmp X1646 hx rfl rfl (dB at_257) false (decide_eq_false nofun) 264 (by decide) (by decide) ?_
              refine w_iconst X1646 hx (dB at_264) 265 rfl (0 : Int32) (by decide) ?_
              refine w_iconst X1646 hx (dB at_265) 266 rfl (2 : Int32) (by decide) ?_
              refine w_iload X1646 hx z1637 (dB at_266) 268 rfl rfl ?_
              refine w_icmp_ge X1646 hx 2 z1637.toInt (by decide) rfl (dB at_268) 275 271 (fun c1647 => ?_) (fun c1647 => ?_)
              ·refine w_iconst X1646 hx (dB at_275) 276 rfl (0 : Int32) (by decide) ?_
               refine w_icmp_ne X1646 hx 0 0 (by decide) (by decide) (dB at_276) 283 279 (fun c1648 => ?_) (fun c1648 => ?_)
               ·exfalso; omega
               ·refine w_iconst X1646 hx (dB at_279) 280 rfl (1 : Int32) (by decide) ?_
                refine w_goto X1646 hx (dB at_280) 284 ?_
                refine w_retN X1646 hx hlk (t := .boolean) hret (by simp) (dB at_284) (by decide) (by decide) ?_
                rw [eq1646]
                exact ⟨rfl, N1646⟩
              ·exfalso; omega
            ·exfalso; omega
        have J1649 : ∀ (T' : State) (h' : Heap) (L' : List Loc) (_ : Stand p l e room_1 s m #[(.int xp), (.int xq), (.int xr)] below meth c T' L' 4 10) (_ : T'.heap = h') (_ : Fr n0 L') (_ : n0 ≤ h'.size) (_ : Keep h0 h' []) (j1649_0 : Int32) (j1649_1 : Int32) , (Exa Z h' a1615 cN_2) → (Fld Z h' a1615 cN_2 "values" cN_3 (.ref va1620)) → (Fld Z h' a1615 cN_2 "trailSize" "I" (.int (2 : Int32))) → (Arv Z h' va1620 kv1620 (.object cN_4) (3 : Int32) [(.ref a1610), (.ref a1610), .null] .null) → (0 ≤ j1649_0.toInt ∧ j1649_0.toInt ≤ 3 ∧ 0 ≤ j1649_1.toInt ∧ j1649_1.toInt ≤ 4 ∧ ((j1649_0.toInt ≤ j1649_1.toInt ∧ j1649_0.toInt = 2) ∨ (j1649_1.toInt < j1649_0.toInt ∧ j1649_1.toInt = 2))) → Wk p e below (FN s (Q0 Z xp xq xr h0 n0) 4 10) T' (mkF m 167 #[.val (.int xp), .val (.int xq), .val (.int xr), .val (.int (0 : Int32)), .val (.int (0 : Int32)), .val (.int (1 : Int32)), .val (.int (2 : Int32)), .val (.int (0 : Int32)), .val (.int (1 : Int32)), .val (.int (2 : Int32)), .val (.int j1649_0), .val (.int j1649_1), .val (.ref a1610), .val (.ref a1615), .unset] []) := by
         intro T1649 h1649 L1649 X1649 e1649_ N1649 Z1649 K1649 j1649_0 j1649_1  jf1649_0 jf1649_1 jf1649_2 jf1649_3 f1649
         refine w_iload X1649 hx j1649_0 (dB at_167) 169 rfl rfl ?_
         refine w_iload X1649 hx j1649_1 (dB at_169) 171 rfl rfl ?_
         refine w_callS X1649 hx hZ hown e1649_ (rm7 l Z a0 hw [] j1649_0 j1649_1 h1649 n0 Z1649 ) (tw_44 hw) (tw_45 hw) (tw_46 hw) (tw_47 hw) (by decide) (by rw [hml]; rfl) [(.int j1649_0), (.int j1649_1)] [] (lenOf pd_3 rfl) rfl rfl (by decide) 0 rfl (by decide) (by decide) (by decide) (dB at_171) 174 rfl (fun r1650 T1650 L1650 X1650 q1650 => ?_)
         obtain ⟨z1650, rfl, f1650, Nq1650, eq1650⟩ := q1650
         have N1650 := Fr.app N1649 Nq1650
         dsimp only [oD1, oD2, oD3, oD4]
         refine w_istore X1650 hx (dB at_174) 176 rfl #[.val (.int xp), .val (.int xq), .val (.int xr), .val (.int (0 : Int32)), .val (.int (0 : Int32)), .val (.int (1 : Int32)), .val (.int (2 : Int32)), .val (.int (0 : Int32)), .val (.int (1 : Int32)), .val (.int (2 : Int32)), .val (.int j1649_0), .val (.int j1649_1), .val (.ref a1610), .val (.ref a1615), .val (.int z1650)] rfl ?_
         refine w_aload X1650 hx (.ref a1615) (dB at_176) 178 rfl rfl rfl ?_
         refine w_virt X1650 hx hZ hown eq1650 (rm8 l Z a0 hw [] a1615 (2 : Int32) h1649 n0 Z1649 jf1649_2) (tw_48 hw) (tw_49 hw) (notFace_of_selects (args := #[]) (mvT hZ (tw_51 hw))) (tw_51 hw) (tw_50 hw) (tw_19 hw) (tw_52 hw) (by decide) a1615 jf1649_0 (by rw [hml]; rfl) [] [] (lenOf pd_4 rfl) rfl rfl (by decide) 0 rfl (by decide) (by decide) (by decide) (dB at_178) 181 rfl (fun r1651 T1651 L1651 X1651 q1651 => ?_)
         obtain ⟨rfl, Nq1651, eq1651⟩ := q1651
         have N1651 := Fr.app N1650 Nq1651
         dsimp only [oD1, oD2, oD3, oD4]
         refine w_iload X1651 hx z1650 (dB at_181) 183 rfl rfl ?_
         refine w_icmp_ne X1651 hx 2 z1650.toInt (by decide) rfl (dB at_183) 283 186 (fun c1652 => ?_) (fun c1652 => ?_)
         ·exfalso; omega
         ·refine w_aload X1651 hx (.ref a1615) (dB at_186) 188 rfl rfl rfl ?_
          refine w_iload X1651 hx (0 : Int32) (dB at_188) 190 rfl rfl ?_
          refine w_virt X1651 hx hZ hown eq1651 (rm9i0 l Z a0 hw [] a1615 va1620 kv1620 [(.ref a1610), (.ref a1610), .null] (.ref a1610) h1649 n0 Z1649 jf1649_1 jf1649_3 (by rfl) (by rfl)) (tw_53 hw) (tw_54 hw) (notFace_of_selects (args := #[]) (mvT hZ (tw_56 hw))) (tw_56 hw) (tw_55 hw) (tw_19 hw) (tw_57 hw) (by decide) a1615 jf1649_0 (by rw [hml]; rfl) [(.int (0 : Int32))] [] (lenOf pd_5 rfl) rfl rfl (by decide) 0 rfl (by decide) (by decide) (by decide) (dB at_190) 193 rfl (fun r1653 T1653 L1653 X1653 q1653 => ?_)
          obtain ⟨rfl, Nq1653, eq1653⟩ := q1653
          have N1653 := Fr.app N1651 Nq1653
          dsimp only [oD1, oD2, oD3, oD4]
          refine w_aload X1653 hx (.ref a1610) (dB at_193) 195 rfl rfl rfl ?_
          refine w_acmp X1653 hx rfl rfl (dB at_195) true (decide_eq_true rfl) 198 (by decide) (by decide) ?_
          refine w_iconst X1653 hx (dB at_198) 199 rfl (1 : Int32) (by decide) ?_
          refine w_goto X1653 hx (dB at_199) 203 ?_
          refine w_iconst X1653 hx (dB at_203) 204 rfl (0 : Int32) (by decide) ?_
          refine w_iload X1653 hx z1650 (dB at_204) 206 rfl rfl ?_
          refine w_icmp_ge X1653 hx 0 z1650.toInt (by decide) rfl (dB at_206) 213 209 (fun c1654 => ?_) (fun c1654 => ?_)
          ·exfalso; omega
          ·refine w_iconst X1653 hx (dB at_209) 210 rfl (1 : Int32) (by decide) ?_
           refine w_goto X1653 hx (dB at_210) 214 ?_
           refine w_icmp_ne X1653 hx 1 1 (by decide) (by decide) (dB at_214) 283 217 (fun c1655 => ?_) (fun c1655 => ?_)
           ·exfalso; omega
           ·refine w_aload X1653 hx (.ref a1615) (dB at_217) 219 rfl rfl rfl ?_
            refine w_iload X1653 hx (1 : Int32) (dB at_219) 221 rfl rfl ?_
            refine w_virt X1653 hx hZ hown eq1653 (rm9i1 l Z a0 hw [] a1615 va1620 kv1620 [(.ref a1610), (.ref a1610), .null] (.ref a1610) h1649 n0 Z1649 jf1649_1 jf1649_3 (by rfl) (by rfl)) (tw_53 hw) (tw_54 hw) (notFace_of_selects (args := #[]) (mvT hZ (tw_56 hw))) (tw_56 hw) (tw_55 hw) (tw_19 hw) (tw_57 hw) (by decide) a1615 jf1649_0 (by rw [hml]; rfl) [(.int (1 : Int32))] [] (lenOf pd_5 rfl) rfl rfl (by decide) 0 rfl (by decide) (by decide) (by decide) (dB at_221) 224 rfl (fun r1656 T1656 L1656 X1656 q1656 => ?_)
            obtain ⟨rfl, Nq1656, eq1656⟩ := q1656
            have N1656 := Fr.app N1653 Nq1656
            dsimp only [oD1, oD2, oD3, oD4]
            refine w_aload X1656 hx (.ref a1610) (dB at_224) 226 rfl rfl rfl ?_
            refine w_acmp X1656 hx rfl rfl (dB at_226) true (decide_eq_true rfl) 229 (by decide) (by decide) ?_
            refine w_iconst X1656 hx (dB at_229) 230 rfl (1 : Int32) (by decide) ?_
            refine w_goto X1656 hx (dB at_230) 234 ?_
            refine w_iconst X1656 hx (dB at_234) 235 rfl (1 : Int32) (by decide) ?_
            refine w_iload X1656 hx z1650 (dB at_235) 237 rfl rfl ?_
            refine w_icmp_ge X1656 hx 1 z1650.toInt (by decide) rfl (dB at_237) 244 240 (fun c1657 => ?_) (fun c1657 => ?_)
            ·exfalso; omega
            ·refine w_iconst X1656 hx (dB at_240) 241 rfl (1 : Int32) (by decide) ?_
             refine w_goto X1656 hx (dB at_241) 245 ?_
             refine w_icmp_ne X1656 hx 1 1 (by decide) (by decide) (dB at_245) 283 248 (fun c1658 => ?_) (fun c1658 => ?_)
             ·exfalso; omega
             ·refine w_aload X1656 hx (.ref a1615) (dB at_248) 250 rfl rfl rfl ?_
              refine w_iload X1656 hx (2 : Int32) (dB at_250) 252 rfl rfl ?_
              refine w_virt X1656 hx hZ hown eq1656 (rm9i2 l Z a0 hw [] a1615 va1620 kv1620 [(.ref a1610), (.ref a1610), .null] .null h1649 n0 Z1649 jf1649_1 jf1649_3 (by rfl) (by rfl)) (tw_53 hw) (tw_54 hw) (notFace_of_selects (args := #[]) (mvT hZ (tw_56 hw))) (tw_56 hw) (tw_55 hw) (tw_19 hw) (tw_57 hw) (by decide) a1615 jf1649_0 (by rw [hml]; rfl) [(.int (2 : Int32))] [] (lenOf pd_5 rfl) rfl rfl (by decide) 0 rfl (by decide) (by decide) (by decide) (dB at_252) 255 rfl (fun r1659 T1659 L1659 X1659 q1659 => ?_)
              obtain ⟨rfl, Nq1659, eq1659⟩ := q1659
              have N1659 := Fr.app N1656 Nq1659
              dsimp only [oD1, oD2, oD3, oD4]
              refine w_aload X1659 hx (.ref a1610) (dB at_255) 257 rfl rfl rfl ?_
              refine w_acmp X1659 hx rfl rfl (dB at_257) false (decide_eq_false nofun) 264 (by decide) (by decide) ?_
              refine w_iconst X1659 hx (dB at_264) 265 rfl (0 : Int32) (by decide) ?_
              refine w_iconst X1659 hx (dB at_265) 266 rfl (2 : Int32) (by decide) ?_
              refine w_iload X1659 hx z1650 (dB at_266) 268 rfl rfl ?_
              refine w_icmp_ge X1659 hx 2 z1650.toInt (by decide) rfl (dB at_268) 275 271 (fun c1660 => ?_) (fun c1660 => ?_)
              ·refine w_iconst X1659 hx (dB at_275) 276 rfl (0 : Int32) (by decide) ?_
               refine w_icmp_ne X1659 hx 0 0 (by decide) (by decide) (dB at_276) 283 279 (fun c1661 => ?_) (fun c1661 => ?_)
               ·exfalso; omega
               ·refine w_iconst X1659 hx (dB at_279) 280 rfl (1 : Int32) (by decide) ?_
                refine w_goto X1659 hx (dB at_280) 284 ?_
                refine w_retN X1659 hx hlk (t := .boolean) hret (by simp) (dB at_284) (by decide) (by decide) ?_
                rw [eq1659]
                exact ⟨rfl, N1659⟩
              ·exfalso; omega
        have J1662 : ∀ (T' : State) (h' : Heap) (L' : List Loc) (_ : Stand p l e room_1 s m #[(.int xp), (.int xq), (.int xr)] below meth c T' L' 4 10) (_ : T'.heap = h') (_ : Fr n0 L') (_ : n0 ≤ h'.size) (_ : Keep h0 h' []) (j1662_0 : Int32) (j1662_1 : Int32) , (Exa Z h' a1615 cN_2) → (Fld Z h' a1615 cN_2 "values" cN_3 (.ref va1620)) → (Fld Z h' a1615 cN_2 "trailSize" "I" (.int (3 : Int32))) → (Arv Z h' va1620 kv1620 (.object cN_4) (3 : Int32) [(.ref a1610), (.ref a1610), (.ref a1610)] .null) → (0 ≤ j1662_0.toInt ∧ j1662_0.toInt ≤ 3 ∧ 0 ≤ j1662_1.toInt ∧ j1662_1.toInt ≤ 4 ∧ ((j1662_0.toInt ≤ j1662_1.toInt ∧ j1662_0.toInt = 3) ∨ (j1662_1.toInt < j1662_0.toInt ∧ j1662_1.toInt = 3))) → Wk p e below (FN s (Q0 Z xp xq xr h0 n0) 4 10) T' (mkF m 167 #[.val (.int xp), .val (.int xq), .val (.int xr), .val (.int (0 : Int32)), .val (.int (0 : Int32)), .val (.int (1 : Int32)), .val (.int (2 : Int32)), .val (.int (0 : Int32)), .val (.int (1 : Int32)), .val (.int (2 : Int32)), .val (.int j1662_0), .val (.int j1662_1), .val (.ref a1610), .val (.ref a1615), .unset] []) := by
         intro T1662 h1662 L1662 X1662 e1662_ N1662 Z1662 K1662 j1662_0 j1662_1  jf1662_0 jf1662_1 jf1662_2 jf1662_3 f1662
         refine w_iload X1662 hx j1662_0 (dB at_167) 169 rfl rfl ?_
         refine w_iload X1662 hx j1662_1 (dB at_169) 171 rfl rfl ?_
         refine w_callS X1662 hx hZ hown e1662_ (rm7 l Z a0 hw [] j1662_0 j1662_1 h1662 n0 Z1662 ) (tw_44 hw) (tw_45 hw) (tw_46 hw) (tw_47 hw) (by decide) (by rw [hml]; rfl) [(.int j1662_0), (.int j1662_1)] [] (lenOf pd_3 rfl) rfl rfl (by decide) 0 rfl (by decide) (by decide) (by decide) (dB at_171) 174 rfl (fun r1663 T1663 L1663 X1663 q1663 => ?_)
         obtain ⟨z1663, rfl, f1663, Nq1663, eq1663⟩ := q1663
         have N1663 := Fr.app N1662 Nq1663
         dsimp only [oD1, oD2, oD3, oD4]
         refine w_istore X1663 hx (dB at_174) 176 rfl #[.val (.int xp), .val (.int xq), .val (.int xr), .val (.int (0 : Int32)), .val (.int (0 : Int32)), .val (.int (1 : Int32)), .val (.int (2 : Int32)), .val (.int (0 : Int32)), .val (.int (1 : Int32)), .val (.int (2 : Int32)), .val (.int j1662_0), .val (.int j1662_1), .val (.ref a1610), .val (.ref a1615), .val (.int z1663)] rfl ?_
         refine w_aload X1663 hx (.ref a1615) (dB at_176) 178 rfl rfl rfl ?_
         refine w_virt X1663 hx hZ hown eq1663 (rm8 l Z a0 hw [] a1615 (3 : Int32) h1662 n0 Z1662 jf1662_2) (tw_48 hw) (tw_49 hw) (notFace_of_selects (args := #[]) (mvT hZ (tw_51 hw))) (tw_51 hw) (tw_50 hw) (tw_19 hw) (tw_52 hw) (by decide) a1615 jf1662_0 (by rw [hml]; rfl) [] [] (lenOf pd_4 rfl) rfl rfl (by decide) 0 rfl (by decide) (by decide) (by decide) (dB at_178) 181 rfl (fun r1664 T1664 L1664 X1664 q1664 => ?_)
         obtain ⟨rfl, Nq1664, eq1664⟩ := q1664
         have N1664 := Fr.app N1663 Nq1664
         dsimp only [oD1, oD2, oD3, oD4]
         refine w_iload X1664 hx z1663 (dB at_181) 183 rfl rfl ?_
         refine w_icmp_ne X1664 hx 3 z1663.toInt (by decide) rfl (dB at_183) 283 186 (fun c1665 => ?_) (fun c1665 => ?_)
         ·exfalso; omega
         ·refine w_aload X1664 hx (.ref a1615) (dB at_186) 188 rfl rfl rfl ?_
          refine w_iload X1664 hx (0 : Int32) (dB at_188) 190 rfl rfl ?_
          refine w_virt X1664 hx hZ hown eq1664 (rm9i0 l Z a0 hw [] a1615 va1620 kv1620 [(.ref a1610), (.ref a1610), (.ref a1610)] (.ref a1610) h1662 n0 Z1662 jf1662_1 jf1662_3 (by rfl) (by rfl)) (tw_53 hw) (tw_54 hw) (notFace_of_selects (args := #[]) (mvT hZ (tw_56 hw))) (tw_56 hw) (tw_55 hw) (tw_19 hw) (tw_57 hw) (by decide) a1615 jf1662_0 (by rw [hml]; rfl) [(.int (0 : Int32))] [] (lenOf pd_5 rfl) rfl rfl (by decide) 0 rfl (by decide) (by decide) (by decide) (dB at_190) 193 rfl (fun r1666 T1666 L1666 X1666 q1666 => ?_)
          obtain ⟨rfl, Nq1666, eq1666⟩ := q1666
          have N1666 := Fr.app N1664 Nq1666
          dsimp only [oD1, oD2, oD3, oD4]
          refine w_aload X1666 hx (.ref a1610) (dB at_193) 195 rfl rfl rfl ?_
          refine w_acmp X1666 hx rfl rfl (dB at_195) true (decide_eq_true rfl) 198 (by decide) (by decide) ?_
          refine w_iconst X1666 hx (dB at_198) 199 rfl (1 : Int32) (by decide) ?_
          refine w_goto X1666 hx (dB at_199) 203 ?_
          refine w_iconst X1666 hx (dB at_203) 204 rfl (0 : Int32) (by decide) ?_
          refine w_iload X1666 hx z1663 (dB at_204) 206 rfl rfl ?_
          refine w_icmp_ge X1666 hx 0 z1663.toInt (by decide) rfl (dB at_206) 213 209 (fun c1667 => ?_) (fun c1667 => ?_)
          ·exfalso; omega
          ·refine w_iconst X1666 hx (dB at_209) 210 rfl (1 : Int32) (by decide) ?_
           refine w_goto X1666 hx (dB at_210) 214 ?_
           refine w_icmp_ne X1666 hx 1 1 (by decide) (by decide) (dB at_214) 283 217 (fun c1668 => ?_) (fun c1668 => ?_)
           ·exfalso; omega
           ·refine w_aload X1666 hx (.ref a1615) (dB at_217) 219 rfl rfl rfl ?_
            refine w_iload X1666 hx (1 : Int32) (dB at_219) 221 rfl rfl ?_
            refine w_virt X1666 hx hZ hown eq1666 (rm9i1 l Z a0 hw [] a1615 va1620 kv1620 [(.ref a1610), (.ref a1610), (.ref a1610)] (.ref a1610) h1662 n0 Z1662 jf1662_1 jf1662_3 (by rfl) (by rfl)) (tw_53 hw) (tw_54 hw) (notFace_of_selects (args := #[]) (mvT hZ (tw_56 hw))) (tw_56 hw) (tw_55 hw) (tw_19 hw) (tw_57 hw) (by decide) a1615 jf1662_0 (by rw [hml]; rfl) [(.int (1 : Int32))] [] (lenOf pd_5 rfl) rfl rfl (by decide) 0 rfl (by decide) (by decide) (by decide) (dB at_221) 224 rfl (fun r1669 T1669 L1669 X1669 q1669 => ?_)
            obtain ⟨rfl, Nq1669, eq1669⟩ := q1669
            have N1669 := Fr.app N1666 Nq1669
            dsimp only [oD1, oD2, oD3, oD4]
            refine w_aload X1669 hx (.ref a1610) (dB at_224) 226 rfl rfl rfl ?_
            refine w_acmp X1669 hx rfl rfl (dB at_226) true (decide_eq_true rfl) 229 (by decide) (by decide) ?_
            refine w_iconst X1669 hx (dB at_229) 230 rfl (1 : Int32) (by decide) ?_
            refine w_goto X1669 hx (dB at_230) 234 ?_
            refine w_iconst X1669 hx (dB at_234) 235 rfl (1 : Int32) (by decide) ?_
            refine w_iload X1669 hx z1663 (dB at_235) 237 rfl rfl ?_
            refine w_icmp_ge X1669 hx 1 z1663.toInt (by decide) rfl (dB at_237) 244 240 (fun c1670 => ?_) (fun c1670 => ?_)
            ·exfalso; omega
            ·refine w_iconst X1669 hx (dB at_240) 241 rfl (1 : Int32) (by decide) ?_
             refine w_goto X1669 hx (dB at_241) 245 ?_
             refine w_icmp_ne X1669 hx 1 1 (by decide) (by decide) (dB at_245) 283 248 (fun c1671 => ?_) (fun c1671 => ?_)
             ·exfalso; omega
             ·refine w_aload X1669 hx (.ref a1615) (dB at_248) 250 rfl rfl rfl ?_
              refine w_iload X1669 hx (2 : Int32) (dB at_250) 252 rfl rfl ?_
              refine w_virt X1669 hx hZ hown eq1669 (rm9i2 l Z a0 hw [] a1615 va1620 kv1620 [(.ref a1610), (.ref a1610), (.ref a1610)] (.ref a1610) h1662 n0 Z1662 jf1662_1 jf1662_3 (by rfl) (by rfl)) (tw_53 hw) (tw_54 hw) (notFace_of_selects (args := #[]) (mvT hZ (tw_56 hw))) (tw_56 hw) (tw_55 hw) (tw_19 hw) (tw_57 hw) (by decide) a1615 jf1662_0 (by rw [hml]; rfl) [(.int (2 : Int32))] [] (lenOf pd_5 rfl) rfl rfl (by decide) 0 rfl (by decide) (by decide) (by decide) (dB at_252) 255 rfl (fun r1672 T1672 L1672 X1672 q1672 => ?_)
              obtain ⟨rfl, Nq1672, eq1672⟩ := q1672
              have N1672 := Fr.app N1669 Nq1672
              dsimp only [oD1, oD2, oD3, oD4]
              refine w_aload X1672 hx (.ref a1610) (dB at_255) 257 rfl rfl rfl ?_
              refine w_acmp X1672 hx rfl rfl (dB at_257) true (decide_eq_true rfl) 260 (by decide) (by decide) ?_
              refine w_iconst X1672 hx (dB at_260) 261 rfl (1 : Int32) (by decide) ?_
              refine w_goto X1672 hx (dB at_261) 265 ?_
              refine w_iconst X1672 hx (dB at_265) 266 rfl (2 : Int32) (by decide) ?_
              refine w_iload X1672 hx z1663 (dB at_266) 268 rfl rfl ?_
              refine w_icmp_ge X1672 hx 2 z1663.toInt (by decide) rfl (dB at_268) 275 271 (fun c1673 => ?_) (fun c1673 => ?_)
              ·exfalso; omega
              ·refine w_iconst X1672 hx (dB at_271) 272 rfl (1 : Int32) (by decide) ?_
               refine w_goto X1672 hx (dB at_272) 276 ?_
               refine w_icmp_ne X1672 hx 1 1 (by decide) (by decide) (dB at_276) 283 279 (fun c1674 => ?_) (fun c1674 => ?_)
               ·exfalso; omega
               ·refine w_iconst X1672 hx (dB at_279) 280 rfl (1 : Int32) (by decide) ?_
                refine w_goto X1672 hx (dB at_280) 284 ?_
                refine w_retN X1672 hx hlk (t := .boolean) hret (by simp) (dB at_284) (by decide) (by decide) ?_
                rw [eq1672]
                exact ⟨rfl, N1672⟩
        have s1675 : v1607.toInt = 0 ∨ v1607.toInt = 1 ∨ v1607.toInt = 2 ∨ v1607.toInt = 3 := by omega
        rcases s1675 with s1675 | s1675 | s1675 | s1675
        ·obtain rfl : v1607 = (0 : Int32) := eqI (s1675.trans (by decide))
         have z1675 : (0 : Int32).toInt = 0 := by decide
         refine w_iload X1620 hx (0 : Int32) (dB at_116) 118 rfl rfl ?_
         refine w_if_le X1620 hx 0 (by decide) (dB at_118) 130 121 (fun c1676 => ?_) (fun c1676 => ?_)
         ·refine w_iload X1620 hx (0 : Int32) (dB at_130) 132 rfl rfl ?_
          refine w_iconst X1620 hx (dB at_132) 133 rfl (1 : Int32) (by decide) ?_
          refine w_icmp_le X1620 hx 0 1 (by decide) (by decide) (dB at_133) 145 136 (fun c1677 => ?_) (fun c1677 => ?_)
          ·refine w_iload X1620 hx (0 : Int32) (dB at_145) 147 rfl rfl ?_
           refine w_iconst X1620 hx (dB at_147) 148 rfl (2 : Int32) (by decide) ?_
           refine w_icmp_le X1620 hx 0 2 (by decide) (by decide) (dB at_148) 160 151 (fun c1678 => ?_) (fun c1678 => ?_)
           ·refine w_aload X1620 hx (.ref a1615) (dB at_160) 162 rfl rfl rfl ?_
            refine w_iload X1620 hx v1609 (dB at_162) 164 rfl rfl ?_
            refine w_virt X1620 hx hZ hown rfl (rm6ge0 l Z a0 hw [] a1615 v1609 T1620.heap n0 Z1620 G1620_2 (by omega)) (tw_39 hw) (tw_40 hw) (notFace_of_selects (args := #[]) (mvT hZ (tw_42 hw))) (tw_42 hw) (tw_41 hw) (tw_19 hw) (tw_43 hw) (by decide) a1615 F1622 (by rw [hml]; rfl) [(.int v1609)] [] (lenOf pd_2 rfl) rfl rfl (by decide) 0 rfl (by decide) (by decide) (by decide) (dB at_164) 167 rfl (fun r1680 T1680 L1680 X1680 q1680 => ?_)
            obtain ⟨rfl, Nq1680, eq1680⟩ := q1680
            have N1680 := Fr.app N1620 Nq1680
            dsimp only [oD1, oD2, oD3, oD4]
            exact J1623 _ _ _ (X1680.more (by decide) (by decide)) eq1680 N1680 Z1620 K1620 (0 : Int32) v1609  F1622 G1620_0 G1620_2 G1620_3 (by have hz1 : (0 : Int32).toInt = 0 := (by decide); omega)
           ·exfalso; omega
          ·exfalso; omega
         ·exfalso; omega
        ·obtain rfl : v1607 = (1 : Int32) := eqI (s1675.trans (by decide))
         have z1675 : (1 : Int32).toInt = 1 := by decide
         refine w_iload X1620 hx (1 : Int32) (dB at_116) 118 rfl rfl ?_
         refine w_if_le X1620 hx 1 (by decide) (dB at_118) 130 121 (fun c1681 => ?_) (fun c1681 => ?_)
         ·exfalso; omega
         ·refine w_aload X1620 hx (.ref a1615) (dB at_121) 123 rfl rfl rfl ?_
          refine w_iload X1620 hx (0 : Int32) (dB at_123) 125 rfl rfl ?_
          refine w_aload X1620 hx (.ref a1610) (dB at_125) 127 rfl rfl rfl ?_
          refine w_virt X1620 hx hZ hown rfl (rm5ti0 l Z a0 hw [] a1615 a1610 va1620 ta1620 kv1620 kt1620 T1620.heap n0 Z1620 F1622 G1620_0 G1620_1 G1620_2 G1620_3 G1620_4 F1621 g_a1615 g_ta1620 g_va1620 (by exact nq1620_0) (by exact ov1620_0)) (tw_31 hw) (tw_32 hw) (notFace_of_selects (args := #[]) (mvT hZ (tw_34 hw))) (tw_34 hw) (tw_33 hw) (tw_19 hw) (tw_35 hw) (by decide) a1615 F1622 (by rw [hml]; rfl) [(.int (0 : Int32)), (.ref a1610)] [] (lenOf pd_6 rfl) rfl rfl (by decide) 0 rfl (by decide) (by decide) (by decide) (dB at_127) 130 rfl (fun r1682 T1682 L1682 X1682 q1682 => ?_)
          obtain ⟨rfl, Nq1682, Kq1682, G1682_0, G1682_1, G1682_2, G1682_3, G1682_4⟩ := q1682
          have N1682 := Fr.app N1620 Nq1682
          have F1683 : Exa Z T1682.heap a1610 cN_1 := F1621.keep Kq1682
          have F1684 : Exa Z T1682.heap a1615 cN_2 := F1622.keep Kq1682
          have Z1682 : n0 ≤ T1682.heap.size := Nat.le_trans Z1620 Kq1682.1
          have K1682 : Keep h0 T1682.heap [] := K1620.trans Kq1682 (allS (Or.inr s_a1615) (allS (Or.inr s_ta1620) (allS (Or.inr s_va1620) all0)))
          dsimp only [oD1, oD2, oD3, oD4]
          refine w_iload X1682 hx (1 : Int32) (dB at_130) 132 rfl rfl ?_
          refine w_iconst X1682 hx (dB at_132) 133 rfl (1 : Int32) (by decide) ?_
          refine w_icmp_le X1682 hx 1 1 (by decide) (by decide) (dB at_133) 145 136 (fun c1685 => ?_) (fun c1685 => ?_)
          ·refine w_iload X1682 hx (1 : Int32) (dB at_145) 147 rfl rfl ?_
           refine w_iconst X1682 hx (dB at_147) 148 rfl (2 : Int32) (by decide) ?_
           refine w_icmp_le X1682 hx 1 2 (by decide) (by decide) (dB at_148) 160 151 (fun c1686 => ?_) (fun c1686 => ?_)
           ·have s1687 : v1609.toInt = 0 ∨ 1 ≤ v1609.toInt := by omega
            rcases s1687 with s1687 | s1687
            ·obtain rfl : v1609 = (0 : Int32) := eqI (s1687.trans (by decide))
             have z1687 : (0 : Int32).toInt = 0 := by decide
             refine w_aload X1682 hx (.ref a1615) (dB at_160) 162 rfl rfl rfl ?_
             refine w_iload X1682 hx (0 : Int32) (dB at_162) 164 rfl rfl ?_
             refine w_virt X1682 hx hZ hown rfl (rm6t0m0 l Z a0 hw [] a1615 va1620 ta1620 kv1620 kt1620 a1610 T1682.heap n0 Z1682 F1684 G1682_0 G1682_1 G1682_2 G1682_3 G1682_4 g_a1615 g_va1620 (by exact nq1620_0) (by exact ov1620_0)) (tw_39 hw) (tw_40 hw) (notFace_of_selects (args := #[]) (mvT hZ (tw_42 hw))) (tw_42 hw) (tw_41 hw) (tw_19 hw) (tw_43 hw) (by decide) a1615 F1684 (by rw [hml]; rfl) [(.int (0 : Int32))] [] (lenOf pd_2 rfl) rfl rfl (by decide) 0 rfl (by decide) (by decide) (by decide) (dB at_164) 167 rfl (fun r1688 T1688 L1688 X1688 q1688 => ?_)
             obtain ⟨rfl, Nq1688, Kq1688, G1688_0, G1688_1, G1688_2, G1688_3, G1688_4⟩ := q1688
             have N1688 := Fr.app N1682 Nq1688
             have F1689 : Exa Z T1688.heap a1610 cN_1 := F1683.keep Kq1688
             have F1690 : Exa Z T1688.heap a1615 cN_2 := F1684.keep Kq1688
             have F1691 : Arv Z T1688.heap ta1620 kt1620 .int (3 : Int32) [(.int (0 : Int32)), (.int (0 : Int32)), (.int (0 : Int32))] (.int (0 : Int32)) := G1682_4.keep Kq1688 (ninS (Ne.symm ne_a1615_ta1620) (ninS (Ne.symm nq1620_0) nin0))
             have Z1688 : n0 ≤ T1688.heap.size := Nat.le_trans Z1682 Kq1688.1
             have K1688 : Keep h0 T1688.heap [] := K1682.trans Kq1688 (allS (Or.inr s_a1615) (allS (Or.inr s_va1620) all0))
             dsimp only [oD1, oD2, oD3, oD4]
             exact J1623 _ _ _ (X1688.more (by decide) (by decide)) rfl N1688 Z1688 K1688 (1 : Int32) (0 : Int32)  F1690 G1688_0 G1688_2 G1688_3 (by have hz1 : (1 : Int32).toInt = 1 := (by decide); have hz2 : (0 : Int32).toInt = 0 := (by decide); omega)
            ·have z1687 := s1687
             refine w_aload X1682 hx (.ref a1615) (dB at_160) 162 rfl rfl rfl ?_
             refine w_iload X1682 hx v1609 (dB at_162) 164 rfl rfl ?_
             refine w_virt X1682 hx hZ hown rfl (rm6ge1 l Z a0 hw [] a1615 v1609 T1682.heap n0 Z1682 G1682_2 (by omega)) (tw_39 hw) (tw_40 hw) (notFace_of_selects (args := #[]) (mvT hZ (tw_42 hw))) (tw_42 hw) (tw_41 hw) (tw_19 hw) (tw_43 hw) (by decide) a1615 F1684 (by rw [hml]; rfl) [(.int v1609)] [] (lenOf pd_2 rfl) rfl rfl (by decide) 0 rfl (by decide) (by decide) (by decide) (dB at_164) 167 rfl (fun r1692 T1692 L1692 X1692 q1692 => ?_)
             obtain ⟨rfl, Nq1692, eq1692⟩ := q1692
             have N1692 := Fr.app N1682 Nq1692
             dsimp only [oD1, oD2, oD3, oD4]
             exact J1636 _ _ _ (X1692.more (by decide) (by decide)) eq1692 N1692 Z1682 K1682 (1 : Int32) v1609  F1684 G1682_0 G1682_2 G1682_3 (by have hz1 : (1 : Int32).toInt = 1 := (by decide); omega)
           ·exfalso; omega
          ·exfalso; omega
        ·obtain rfl : v1607 = (2 : Int32) := eqI (s1675.trans (by decide))
         have z1675 : (2 : Int32).toInt = 2 := by decide
         refine w_iload X1620 hx (2 : Int32) (dB at_116) 118 rfl rfl ?_
         refine w_if_le X1620 hx 2 (by decide) (dB at_118) 130 121 (fun c1693 => ?_) (fun c1693 => ?_)
         ·exfalso; omega
         ·refine w_aload X1620 hx (.ref a1615) (dB at_121) 123 rfl rfl rfl ?_
          refine w_iload X1620 hx (0 : Int32) (dB at_123) 125 rfl rfl ?_
          refine w_aload X1620 hx (.ref a1610) (dB at_125) 127 rfl rfl rfl ?_
          refine w_virt X1620 hx hZ hown rfl (rm5ti0 l Z a0 hw [] a1615 a1610 va1620 ta1620 kv1620 kt1620 T1620.heap n0 Z1620 F1622 G1620_0 G1620_1 G1620_2 G1620_3 G1620_4 F1621 g_a1615 g_ta1620 g_va1620 (by exact nq1620_0) (by exact ov1620_0)) (tw_31 hw) (tw_32 hw) (notFace_of_selects (args := #[]) (mvT hZ (tw_34 hw))) (tw_34 hw) (tw_33 hw) (tw_19 hw) (tw_35 hw) (by decide) a1615 F1622 (by rw [hml]; rfl) [(.int (0 : Int32)), (.ref a1610)] [] (lenOf pd_6 rfl) rfl rfl (by decide) 0 rfl (by decide) (by decide) (by decide) (dB at_127) 130 rfl (fun r1694 T1694 L1694 X1694 q1694 => ?_)
          obtain ⟨rfl, Nq1694, Kq1694, G1694_0, G1694_1, G1694_2, G1694_3, G1694_4⟩ := q1694
          have N1694 := Fr.app N1620 Nq1694
          have F1695 : Exa Z T1694.heap a1610 cN_1 := F1621.keep Kq1694
          have F1696 : Exa Z T1694.heap a1615 cN_2 := F1622.keep Kq1694
          have Z1694 : n0 ≤ T1694.heap.size := Nat.le_trans Z1620 Kq1694.1
          have K1694 : Keep h0 T1694.heap [] := K1620.trans Kq1694 (allS (Or.inr s_a1615) (allS (Or.inr s_ta1620) (allS (Or.inr s_va1620) all0)))
          dsimp only [oD1, oD2, oD3, oD4]
          refine w_iload X1694 hx (2 : Int32) (dB at_130) 132 rfl rfl ?_
          refine w_iconst X1694 hx (dB at_132) 133 rfl (1 : Int32) (by decide) ?_
          refine w_icmp_le X1694 hx 2 1 (by decide) (by decide) (dB at_133) 145 136 (fun c1697 => ?_) (fun c1697 => ?_)
          ·exfalso; omega
          ·refine w_aload X1694 hx (.ref a1615) (dB at_136) 138 rfl rfl rfl ?_
           refine w_iload X1694 hx (1 : Int32) (dB at_138) 140 rfl rfl ?_
           refine w_aload X1694 hx (.ref a1610) (dB at_140) 142 rfl rfl rfl ?_
           refine w_virt X1694 hx hZ hown rfl (rm5t0i1 l Z a0 hw [] a1615 a1610 va1620 ta1620 kv1620 kt1620 T1694.heap n0 Z1694 F1696 G1694_0 G1694_1 G1694_2 G1694_3 G1694_4 F1695 g_a1615 g_ta1620 g_va1620 (by exact nq1620_0) (by exact ov1620_0)) (tw_31 hw) (tw_32 hw) (notFace_of_selects (args := #[]) (mvT hZ (tw_34 hw))) (tw_34 hw) (tw_33 hw) (tw_19 hw) (tw_35 hw) (by decide) a1615 F1696 (by rw [hml]; rfl) [(.int (1 : Int32)), (.ref a1610)] [] (lenOf pd_6 rfl) rfl rfl (by decide) 0 rfl (by decide) (by decide) (by decide) (dB at_142) 145 rfl (fun r1698 T1698 L1698 X1698 q1698 => ?_)
           obtain ⟨rfl, Nq1698, Kq1698, G1698_0, G1698_1, G1698_2, G1698_3, G1698_4⟩ := q1698
           have N1698 := Fr.app N1694 Nq1698
           have F1699 : Exa Z T1698.heap a1610 cN_1 := F1695.keep Kq1698
           have F1700 : Exa Z T1698.heap a1615 cN_2 := F1696.keep Kq1698
           have Z1698 : n0 ≤ T1698.heap.size := Nat.le_trans Z1694 Kq1698.1
           have K1698 : Keep h0 T1698.heap [] := K1694.trans Kq1698 (allS (Or.inr s_a1615) (allS (Or.inr s_ta1620) (allS (Or.inr s_va1620) all0)))
           dsimp only [oD1, oD2, oD3, oD4]
           refine w_iload X1698 hx (2 : Int32) (dB at_145) 147 rfl rfl ?_
           refine w_iconst X1698 hx (dB at_147) 148 rfl (2 : Int32) (by decide) ?_
           refine w_icmp_le X1698 hx 2 2 (by decide) (by decide) (dB at_148) 160 151 (fun c1701 => ?_) (fun c1701 => ?_)
           ·have s1702 : v1609.toInt = 0 ∨ v1609.toInt = 1 ∨ 2 ≤ v1609.toInt := by omega
            rcases s1702 with s1702 | s1702 | s1702
            ·obtain rfl : v1609 = (0 : Int32) := eqI (s1702.trans (by decide))
             have z1702 : (0 : Int32).toInt = 0 := by decide
             refine w_aload X1698 hx (.ref a1615) (dB at_160) 162 rfl rfl rfl ?_
             refine w_iload X1698 hx (0 : Int32) (dB at_162) 164 rfl rfl ?_
             refine w_virt X1698 hx hZ hown rfl (rm6t01m0 l Z a0 hw [] a1615 va1620 ta1620 kv1620 kt1620 a1610 T1698.heap n0 Z1698 F1700 G1698_0 G1698_1 G1698_2 G1698_3 G1698_4 g_a1615 g_va1620 (by exact nq1620_0) (by exact ov1620_0)) (tw_39 hw) (tw_40 hw) (notFace_of_selects (args := #[]) (mvT hZ (tw_42 hw))) (tw_42 hw) (tw_41 hw) (tw_19 hw) (tw_43 hw) (by decide) a1615 F1700 (by rw [hml]; rfl) [(.int (0 : Int32))] [] (lenOf pd_2 rfl) rfl rfl (by decide) 0 rfl (by decide) (by decide) (by decide) (dB at_164) 167 rfl (fun r1703 T1703 L1703 X1703 q1703 => ?_)
             obtain ⟨rfl, Nq1703, Kq1703, G1703_0, G1703_1, G1703_2, G1703_3, G1703_4⟩ := q1703
             have N1703 := Fr.app N1698 Nq1703
             have F1704 : Exa Z T1703.heap a1610 cN_1 := F1699.keep Kq1703
             have F1705 : Exa Z T1703.heap a1615 cN_2 := F1700.keep Kq1703
             have F1706 : Arv Z T1703.heap ta1620 kt1620 .int (3 : Int32) [(.int (0 : Int32)), (.int (1 : Int32)), (.int (0 : Int32))] (.int (0 : Int32)) := G1698_4.keep Kq1703 (ninS (Ne.symm ne_a1615_ta1620) (ninS (Ne.symm nq1620_0) nin0))
             have Z1703 : n0 ≤ T1703.heap.size := Nat.le_trans Z1698 Kq1703.1
             have K1703 : Keep h0 T1703.heap [] := K1698.trans Kq1703 (allS (Or.inr s_a1615) (allS (Or.inr s_va1620) all0))
             dsimp only [oD1, oD2, oD3, oD4]
             exact J1623 _ _ _ (X1703.more (by decide) (by decide)) rfl N1703 Z1703 K1703 (2 : Int32) (0 : Int32)  F1705 G1703_0 G1703_2 G1703_3 (by have hz1 : (2 : Int32).toInt = 2 := (by decide); have hz2 : (0 : Int32).toInt = 0 := (by decide); omega)
            ·obtain rfl : v1609 = (1 : Int32) := eqI (s1702.trans (by decide))
             have z1702 : (1 : Int32).toInt = 1 := by decide
             refine w_aload X1698 hx (.ref a1615) (dB at_160) 162 rfl rfl rfl ?_
             refine w_iload X1698 hx (1 : Int32) (dB at_162) 164 rfl rfl ?_
             refine w_virt X1698 hx hZ hown rfl (rm6t01m1 l Z a0 hw [] a1615 va1620 ta1620 kv1620 kt1620 a1610 T1698.heap n0 Z1698 F1700 G1698_0 G1698_1 G1698_2 G1698_3 G1698_4 g_a1615 g_va1620 (by exact nq1620_0) (by exact ov1620_0)) (tw_39 hw) (tw_40 hw) (notFace_of_selects (args := #[]) (mvT hZ (tw_42 hw))) (tw_42 hw) (tw_41 hw) (tw_19 hw) (tw_43 hw) (by decide) a1615 F1700 (by rw [hml]; rfl) [(.int (1 : Int32))] [] (lenOf pd_2 rfl) rfl rfl (by decide) 0 rfl (by decide) (by decide) (by decide) (dB at_164) 167 rfl (fun r1707 T1707 L1707 X1707 q1707 => ?_)
             obtain ⟨rfl, Nq1707, Kq1707, G1707_0, G1707_1, G1707_2, G1707_3, G1707_4⟩ := q1707
             have N1707 := Fr.app N1698 Nq1707
             have F1708 : Exa Z T1707.heap a1610 cN_1 := F1699.keep Kq1707
             have F1709 : Exa Z T1707.heap a1615 cN_2 := F1700.keep Kq1707
             have F1710 : Arv Z T1707.heap ta1620 kt1620 .int (3 : Int32) [(.int (0 : Int32)), (.int (1 : Int32)), (.int (0 : Int32))] (.int (0 : Int32)) := G1698_4.keep Kq1707 (ninS (Ne.symm ne_a1615_ta1620) (ninS (Ne.symm nq1620_0) nin0))
             have Z1707 : n0 ≤ T1707.heap.size := Nat.le_trans Z1698 Kq1707.1
             have K1707 : Keep h0 T1707.heap [] := K1698.trans Kq1707 (allS (Or.inr s_a1615) (allS (Or.inr s_va1620) all0))
             dsimp only [oD1, oD2, oD3, oD4]
             exact J1636 _ _ _ (X1707.more (by decide) (by decide)) rfl N1707 Z1707 K1707 (2 : Int32) (1 : Int32)  F1709 G1707_0 G1707_2 G1707_3 (by have hz1 : (2 : Int32).toInt = 2 := (by decide); have hz2 : (1 : Int32).toInt = 1 := (by decide); omega)
            ·have z1702 := s1702
             refine w_aload X1698 hx (.ref a1615) (dB at_160) 162 rfl rfl rfl ?_
             refine w_iload X1698 hx v1609 (dB at_162) 164 rfl rfl ?_
             refine w_virt X1698 hx hZ hown rfl (rm6ge2 l Z a0 hw [] a1615 v1609 T1698.heap n0 Z1698 G1698_2 (by omega)) (tw_39 hw) (tw_40 hw) (notFace_of_selects (args := #[]) (mvT hZ (tw_42 hw))) (tw_42 hw) (tw_41 hw) (tw_19 hw) (tw_43 hw) (by decide) a1615 F1700 (by rw [hml]; rfl) [(.int v1609)] [] (lenOf pd_2 rfl) rfl rfl (by decide) 0 rfl (by decide) (by decide) (by decide) (dB at_164) 167 rfl (fun r1711 T1711 L1711 X1711 q1711 => ?_)
             obtain ⟨rfl, Nq1711, eq1711⟩ := q1711
             have N1711 := Fr.app N1698 Nq1711
             dsimp only [oD1, oD2, oD3, oD4]
             exact J1649 _ _ _ (X1711.more (by decide) (by decide)) eq1711 N1711 Z1698 K1698 (2 : Int32) v1609  F1700 G1698_0 G1698_2 G1698_3 (by have hz1 : (2 : Int32).toInt = 2 := (by decide); omega)
           ·exfalso; omega
        ·obtain rfl : v1607 = (3 : Int32) := eqI (s1675.trans (by decide))
         have z1675 : (3 : Int32).toInt = 3 := by decide
         refine w_iload X1620 hx (3 : Int32) (dB at_116) 118 rfl rfl ?_
         refine w_if_le X1620 hx 3 (by decide) (dB at_118) 130 121 (fun c1712 => ?_) (fun c1712 => ?_)
         ·exfalso; omega
         ·refine w_aload X1620 hx (.ref a1615) (dB at_121) 123 rfl rfl rfl ?_
          refine w_iload X1620 hx (0 : Int32) (dB at_123) 125 rfl rfl ?_
          refine w_aload X1620 hx (.ref a1610) (dB at_125) 127 rfl rfl rfl ?_
          refine w_virt X1620 hx hZ hown rfl (rm5ti0 l Z a0 hw [] a1615 a1610 va1620 ta1620 kv1620 kt1620 T1620.heap n0 Z1620 F1622 G1620_0 G1620_1 G1620_2 G1620_3 G1620_4 F1621 g_a1615 g_ta1620 g_va1620 (by exact nq1620_0) (by exact ov1620_0)) (tw_31 hw) (tw_32 hw) (notFace_of_selects (args := #[]) (mvT hZ (tw_34 hw))) (tw_34 hw) (tw_33 hw) (tw_19 hw) (tw_35 hw) (by decide) a1615 F1622 (by rw [hml]; rfl) [(.int (0 : Int32)), (.ref a1610)] [] (lenOf pd_6 rfl) rfl rfl (by decide) 0 rfl (by decide) (by decide) (by decide) (dB at_127) 130 rfl (fun r1713 T1713 L1713 X1713 q1713 => ?_)
          obtain ⟨rfl, Nq1713, Kq1713, G1713_0, G1713_1, G1713_2, G1713_3, G1713_4⟩ := q1713
          have N1713 := Fr.app N1620 Nq1713
          have F1714 : Exa Z T1713.heap a1610 cN_1 := F1621.keep Kq1713
          have F1715 : Exa Z T1713.heap a1615 cN_2 := F1622.keep Kq1713
          have Z1713 : n0 ≤ T1713.heap.size := Nat.le_trans Z1620 Kq1713.1
          have K1713 : Keep h0 T1713.heap [] := K1620.trans Kq1713 (allS (Or.inr s_a1615) (allS (Or.inr s_ta1620) (allS (Or.inr s_va1620) all0)))
          dsimp only [oD1, oD2, oD3, oD4]
          refine w_iload X1713 hx (3 : Int32) (dB at_130) 132 rfl rfl ?_
          refine w_iconst X1713 hx (dB at_132) 133 rfl (1 : Int32) (by decide) ?_
          refine w_icmp_le X1713 hx 3 1 (by decide) (by decide) (dB at_133) 145 136 (fun c1716 => ?_) (fun c1716 => ?_)
          ·exfalso; omega
          ·refine w_aload X1713 hx (.ref a1615) (dB at_136) 138 rfl rfl rfl ?_
           refine w_iload X1713 hx (1 : Int32) (dB at_138) 140 rfl rfl ?_
           refine w_aload X1713 hx (.ref a1610) (dB at_140) 142 rfl rfl rfl ?_
           refine w_virt X1713 hx hZ hown rfl (rm5t0i1 l Z a0 hw [] a1615 a1610 va1620 ta1620 kv1620 kt1620 T1713.heap n0 Z1713 F1715 G1713_0 G1713_1 G1713_2 G1713_3 G1713_4 F1714 g_a1615 g_ta1620 g_va1620 (by exact nq1620_0) (by exact ov1620_0)) (tw_31 hw) (tw_32 hw) (notFace_of_selects (args := #[]) (mvT hZ (tw_34 hw))) (tw_34 hw) (tw_33 hw) (tw_19 hw) (tw_35 hw) (by decide) a1615 F1715 (by rw [hml]; rfl) [(.int (1 : Int32)), (.ref a1610)] [] (lenOf pd_6 rfl) rfl rfl (by decide) 0 rfl (by decide) (by decide) (by decide) (dB at_142) 145 rfl (fun r1717 T1717 L1717 X1717 q1717 => ?_)
           obtain ⟨rfl, Nq1717, Kq1717, G1717_0, G1717_1, G1717_2, G1717_3, G1717_4⟩ := q1717
           have N1717 := Fr.app N1713 Nq1717
           have F1718 : Exa Z T1717.heap a1610 cN_1 := F1714.keep Kq1717
           have F1719 : Exa Z T1717.heap a1615 cN_2 := F1715.keep Kq1717
           have Z1717 : n0 ≤ T1717.heap.size := Nat.le_trans Z1713 Kq1717.1
           have K1717 : Keep h0 T1717.heap [] := K1713.trans Kq1717 (allS (Or.inr s_a1615) (allS (Or.inr s_ta1620) (allS (Or.inr s_va1620) all0)))
           dsimp only [oD1, oD2, oD3, oD4]
           refine w_iload X1717 hx (3 : Int32) (dB at_145) 147 rfl rfl ?_
           refine w_iconst X1717 hx (dB at_147) 148 rfl (2 : Int32) (by decide) ?_
           refine w_icmp_le X1717 hx 3 2 (by decide) (by decide) (dB at_148) 160 151 (fun c1720 => ?_) (fun c1720 => ?_)
           ·exfalso; omega
           ·refine w_aload X1717 hx (.ref a1615) (dB at_151) 153 rfl rfl rfl ?_
            refine w_iload X1717 hx (2 : Int32) (dB at_153) 155 rfl rfl ?_
            refine w_aload X1717 hx (.ref a1610) (dB at_155) 157 rfl rfl rfl ?_
            refine w_virt X1717 hx hZ hown rfl (rm5t01i2 l Z a0 hw [] a1615 a1610 va1620 ta1620 kv1620 kt1620 T1717.heap n0 Z1717 F1719 G1717_0 G1717_1 G1717_2 G1717_3 G1717_4 F1718 g_a1615 g_ta1620 g_va1620 (by exact nq1620_0) (by exact ov1620_0)) (tw_31 hw) (tw_32 hw) (notFace_of_selects (args := #[]) (mvT hZ (tw_34 hw))) (tw_34 hw) (tw_33 hw) (tw_19 hw) (tw_35 hw) (by decide) a1615 F1719 (by rw [hml]; rfl) [(.int (2 : Int32)), (.ref a1610)] [] (lenOf pd_6 rfl) rfl rfl (by decide) 0 rfl (by decide) (by decide) (by decide) (dB at_157) 160 rfl (fun r1721 T1721 L1721 X1721 q1721 => ?_)
            obtain ⟨rfl, Nq1721, Kq1721, G1721_0, G1721_1, G1721_2, G1721_3, G1721_4⟩ := q1721
            have N1721 := Fr.app N1717 Nq1721
            have F1722 : Exa Z T1721.heap a1610 cN_1 := F1718.keep Kq1721
            have F1723 : Exa Z T1721.heap a1615 cN_2 := F1719.keep Kq1721
            have Z1721 : n0 ≤ T1721.heap.size := Nat.le_trans Z1717 Kq1721.1
            have K1721 : Keep h0 T1721.heap [] := K1717.trans Kq1721 (allS (Or.inr s_a1615) (allS (Or.inr s_ta1620) (allS (Or.inr s_va1620) all0)))
            dsimp only [oD1, oD2, oD3, oD4]
            have s1724 : v1609.toInt = 0 ∨ v1609.toInt = 1 ∨ v1609.toInt = 2 ∨ 3 ≤ v1609.toInt := by omega
            rcases s1724 with s1724 | s1724 | s1724 | s1724
            ·obtain rfl : v1609 = (0 : Int32) := eqI (s1724.trans (by decide))
             have z1724 : (0 : Int32).toInt = 0 := by decide
             refine w_aload X1721 hx (.ref a1615) (dB at_160) 162 rfl rfl rfl ?_
             refine w_iload X1721 hx (0 : Int32) (dB at_162) 164 rfl rfl ?_
             refine w_virt X1721 hx hZ hown rfl (rm6t012m0 l Z a0 hw [] a1615 va1620 ta1620 kv1620 kt1620 a1610 T1721.heap n0 Z1721 F1723 G1721_0 G1721_1 G1721_2 G1721_3 G1721_4 g_a1615 g_va1620 (by exact nq1620_0) (by exact ov1620_0)) (tw_39 hw) (tw_40 hw) (notFace_of_selects (args := #[]) (mvT hZ (tw_42 hw))) (tw_42 hw) (tw_41 hw) (tw_19 hw) (tw_43 hw) (by decide) a1615 F1723 (by rw [hml]; rfl) [(.int (0 : Int32))] [] (lenOf pd_2 rfl) rfl rfl (by decide) 0 rfl (by decide) (by decide) (by decide) (dB at_164) 167 rfl (fun r1725 T1725 L1725 X1725 q1725 => ?_)
             obtain ⟨rfl, Nq1725, Kq1725, G1725_0, G1725_1, G1725_2, G1725_3, G1725_4⟩ := q1725
             have N1725 := Fr.app N1721 Nq1725
             have F1726 : Exa Z T1725.heap a1610 cN_1 := F1722.keep Kq1725
             have F1727 : Exa Z T1725.heap a1615 cN_2 := F1723.keep Kq1725
             have F1728 : Arv Z T1725.heap ta1620 kt1620 .int (3 : Int32) [(.int (0 : Int32)), (.int (1 : Int32)), (.int (2 : Int32))] (.int (0 : Int32)) := G1721_4.keep Kq1725 (ninS (Ne.symm ne_a1615_ta1620) (ninS (Ne.symm nq1620_0) nin0))
             have Z1725 : n0 ≤ T1725.heap.size := Nat.le_trans Z1721 Kq1725.1
             have K1725 : Keep h0 T1725.heap [] := K1721.trans Kq1725 (allS (Or.inr s_a1615) (allS (Or.inr s_va1620) all0))
             dsimp only [oD1, oD2, oD3, oD4]
             exact J1623 _ _ _ (X1725.more (by decide) (by decide)) rfl N1725 Z1725 K1725 (3 : Int32) (0 : Int32)  F1727 G1725_0 G1725_2 G1725_3 (by have hz1 : (3 : Int32).toInt = 3 := (by decide); have hz2 : (0 : Int32).toInt = 0 := (by decide); omega)
            ·obtain rfl : v1609 = (1 : Int32) := eqI (s1724.trans (by decide))
             have z1724 : (1 : Int32).toInt = 1 := by decide
             refine w_aload X1721 hx (.ref a1615) (dB at_160) 162 rfl rfl rfl ?_
             refine w_iload X1721 hx (1 : Int32) (dB at_162) 164 rfl rfl ?_
             refine w_virt X1721 hx hZ hown rfl (rm6t012m1 l Z a0 hw [] a1615 va1620 ta1620 kv1620 kt1620 a1610 T1721.heap n0 Z1721 F1723 G1721_0 G1721_1 G1721_2 G1721_3 G1721_4 g_a1615 g_va1620 (by exact nq1620_0) (by exact ov1620_0)) (tw_39 hw) (tw_40 hw) (notFace_of_selects (args := #[]) (mvT hZ (tw_42 hw))) (tw_42 hw) (tw_41 hw) (tw_19 hw) (tw_43 hw) (by decide) a1615 F1723 (by rw [hml]; rfl) [(.int (1 : Int32))] [] (lenOf pd_2 rfl) rfl rfl (by decide) 0 rfl (by decide) (by decide) (by decide) (dB at_164) 167 rfl (fun r1729 T1729 L1729 X1729 q1729 => ?_)
             obtain ⟨rfl, Nq1729, Kq1729, G1729_0, G1729_1, G1729_2, G1729_3, G1729_4⟩ := q1729
             have N1729 := Fr.app N1721 Nq1729
             have F1730 : Exa Z T1729.heap a1610 cN_1 := F1722.keep Kq1729
             have F1731 : Exa Z T1729.heap a1615 cN_2 := F1723.keep Kq1729
             have F1732 : Arv Z T1729.heap ta1620 kt1620 .int (3 : Int32) [(.int (0 : Int32)), (.int (1 : Int32)), (.int (2 : Int32))] (.int (0 : Int32)) := G1721_4.keep Kq1729 (ninS (Ne.symm ne_a1615_ta1620) (ninS (Ne.symm nq1620_0) nin0))
             have Z1729 : n0 ≤ T1729.heap.size := Nat.le_trans Z1721 Kq1729.1
             have K1729 : Keep h0 T1729.heap [] := K1721.trans Kq1729 (allS (Or.inr s_a1615) (allS (Or.inr s_va1620) all0))
             dsimp only [oD1, oD2, oD3, oD4]
             exact J1636 _ _ _ (X1729.more (by decide) (by decide)) rfl N1729 Z1729 K1729 (3 : Int32) (1 : Int32)  F1731 G1729_0 G1729_2 G1729_3 (by have hz1 : (3 : Int32).toInt = 3 := (by decide); have hz2 : (1 : Int32).toInt = 1 := (by decide); omega)
            ·obtain rfl : v1609 = (2 : Int32) := eqI (s1724.trans (by decide))
             have z1724 : (2 : Int32).toInt = 2 := by decide
             refine w_aload X1721 hx (.ref a1615) (dB at_160) 162 rfl rfl rfl ?_
             refine w_iload X1721 hx (2 : Int32) (dB at_162) 164 rfl rfl ?_
             refine w_virt X1721 hx hZ hown rfl (rm6t012m2 l Z a0 hw [] a1615 va1620 ta1620 kv1620 kt1620 a1610 T1721.heap n0 Z1721 F1723 G1721_0 G1721_1 G1721_2 G1721_3 G1721_4 g_a1615 g_va1620 (by exact nq1620_0) (by exact ov1620_0)) (tw_39 hw) (tw_40 hw) (notFace_of_selects (args := #[]) (mvT hZ (tw_42 hw))) (tw_42 hw) (tw_41 hw) (tw_19 hw) (tw_43 hw) (by decide) a1615 F1723 (by rw [hml]; rfl) [(.int (2 : Int32))] [] (lenOf pd_2 rfl) rfl rfl (by decide) 0 rfl (by decide) (by decide) (by decide) (dB at_164) 167 rfl (fun r1733 T1733 L1733 X1733 q1733 => ?_)
             obtain ⟨rfl, Nq1733, Kq1733, G1733_0, G1733_1, G1733_2, G1733_3, G1733_4⟩ := q1733
             have N1733 := Fr.app N1721 Nq1733
             have F1734 : Exa Z T1733.heap a1610 cN_1 := F1722.keep Kq1733
             have F1735 : Exa Z T1733.heap a1615 cN_2 := F1723.keep Kq1733
             have F1736 : Arv Z T1733.heap ta1620 kt1620 .int (3 : Int32) [(.int (0 : Int32)), (.int (1 : Int32)), (.int (2 : Int32))] (.int (0 : Int32)) := G1721_4.keep Kq1733 (ninS (Ne.symm ne_a1615_ta1620) (ninS (Ne.symm nq1620_0) nin0))
             have Z1733 : n0 ≤ T1733.heap.size := Nat.le_trans Z1721 Kq1733.1
             have K1733 : Keep h0 T1733.heap [] := K1721.trans Kq1733 (allS (Or.inr s_a1615) (allS (Or.inr s_va1620) all0))
             dsimp only [oD1, oD2, oD3, oD4]
             exact J1649 _ _ _ (X1733.more (by decide) (by decide)) rfl N1733 Z1733 K1733 (3 : Int32) (2 : Int32)  F1735 G1733_0 G1733_2 G1733_3 (by have hz1 : (3 : Int32).toInt = 3 := (by decide); have hz2 : (2 : Int32).toInt = 2 := (by decide); omega)
            ·have z1724 := s1724
             refine w_aload X1721 hx (.ref a1615) (dB at_160) 162 rfl rfl rfl ?_
             refine w_iload X1721 hx v1609 (dB at_162) 164 rfl rfl ?_
             refine w_virt X1721 hx hZ hown rfl (rm6ge3 l Z a0 hw [] a1615 v1609 T1721.heap n0 Z1721 G1721_2 (by omega)) (tw_39 hw) (tw_40 hw) (notFace_of_selects (args := #[]) (mvT hZ (tw_42 hw))) (tw_42 hw) (tw_41 hw) (tw_19 hw) (tw_43 hw) (by decide) a1615 F1723 (by rw [hml]; rfl) [(.int v1609)] [] (lenOf pd_2 rfl) rfl rfl (by decide) 0 rfl (by decide) (by decide) (by decide) (dB at_164) 167 rfl (fun r1737 T1737 L1737 X1737 q1737 => ?_)
             obtain ⟨rfl, Nq1737, eq1737⟩ := q1737
             have N1737 := Fr.app N1721 Nq1737
             dsimp only [oD1, oD2, oD3, oD4]
             exact J1662 _ _ _ (X1737.more (by decide) (by decide)) eq1737 N1737 Z1721 K1721 (3 : Int32) v1609  F1723 G1721_0 G1721_2 G1721_3 (by have hz1 : (3 : Int32).toInt = 3 := (by decide); omega)
       ·exfalso; omega
      ·exfalso; omega
     ·exfalso; omega
    ·exfalso; omega
  ·obtain rfl : v1599 = (1 : Int32) := eqI (s1600.trans (by decide))
   have z1600 : (1 : Int32).toInt = 1 := by decide
   refine w_iloadN X0 hx (1 : Int32) (dB at_8) 9 rfl rfl ?_
   refine w_iconst X0 hx (dB at_9) 10 rfl (2 : Int32) (by decide) ?_
   refine w_idiv X0 hx (dB at_10) 11 rfl (by decide) (show (0 : Int32) = (1 : Int32) / (2 : Int32) from by decide) ?_
   refine w_istore X0 hx (dB at_11) 13 rfl #[.val (.int xp), .val (.int xq), .val (.int xr), .val (.int (1 : Int32)), .val (.int (0 : Int32)), .unset, .unset, .unset, .unset, .unset, .unset, .unset, .unset, .unset, .unset] rfl ?_
   refine w_iload X0 hx (0 : Int32) (dB at_13) 15 rfl rfl ?_
   refine w_if_ne X0 hx 0 (by decide) (dB at_15) 22 18 (fun c1738 => ?_) (fun c1738 => ?_)
   ·exfalso; omega
   ·refine w_iconst X0 hx (dB at_18) 19 rfl (1 : Int32) (by decide) ?_
    refine w_goto X0 hx (dB at_19) 23 ?_
    refine w_istore X0 hx (dB at_23) 25 rfl #[.val (.int xp), .val (.int xq), .val (.int xr), .val (.int (1 : Int32)), .val (.int (0 : Int32)), .val (.int (1 : Int32)), .unset, .unset, .unset, .unset, .unset, .unset, .unset, .unset, .unset] rfl ?_
    refine w_iload X0 hx (0 : Int32) (dB at_25) 27 rfl rfl ?_
    refine w_iconst X0 hx (dB at_27) 28 rfl (2 : Int32) (by decide) ?_
    refine w_icmp_ne X0 hx 0 2 (by decide) (by decide) (dB at_28) 35 31 (fun c1739 => ?_) (fun c1739 => ?_)
    ·refine w_iconst X0 hx (dB at_35) 36 rfl (2 : Int32) (by decide) ?_
     refine w_istore X0 hx (dB at_36) 38 rfl #[.val (.int xp), .val (.int xq), .val (.int xr), .val (.int (1 : Int32)), .val (.int (0 : Int32)), .val (.int (1 : Int32)), .val (.int (2 : Int32)), .unset, .unset, .unset, .unset, .unset, .unset, .unset, .unset] rfl ?_
     refine w_iloadN X0 hx (1 : Int32) (dB at_38) 39 rfl rfl ?_
     refine w_iconst X0 hx (dB at_39) 40 rfl (1 : Int32) (by decide) ?_
     refine w_iand X0 hx (dB at_40) 41 rfl (show (1 : Int32) = (1 : Int32) &&& (1 : Int32) from by decide) ?_
     refine w_if_eq X0 hx 1 (by decide) (dB at_41) 48 44 (fun c1740 => ?_) (fun c1740 => ?_)
     ·exfalso; omega
     ·refine w_iconst X0 hx (dB at_44) 45 rfl (1 : Int32) (by decide) ?_
      refine w_goto X0 hx (dB at_45) 49 ?_
      refine w_istore X0 hx (dB at_49) 51 rfl #[.val (.int xp), .val (.int xq), .val (.int xr), .val (.int (1 : Int32)), .val (.int (0 : Int32)), .val (.int (1 : Int32)), .val (.int (2 : Int32)), .val (.int (1 : Int32)), .unset, .unset, .unset, .unset, .unset, .unset, .unset] rfl ?_
      refine w_iload X0 hx (1 : Int32) (dB at_51) 53 rfl rfl ?_
      refine w_if_eq X0 hx 1 (by decide) (dB at_53) 61 56 (fun c1741 => ?_) (fun c1741 => ?_)
      ·exfalso; omega
      ·refine w_iload X0 hx (2 : Int32) (dB at_56) 58 rfl rfl ?_
       refine w_goto X0 hx (dB at_58) 63 ?_
       refine w_istore X0 hx (dB at_63) 65 rfl #[.val (.int xp), .val (.int xq), .val (.int xr), .val (.int (1 : Int32)), .val (.int (0 : Int32)), .val (.int (1 : Int32)), .val (.int (2 : Int32)), .val (.int (1 : Int32)), .val (.int (2 : Int32)), .unset, .unset, .unset, .unset, .unset, .unset] rfl ?_
       refine w_iload X0 hx (1 : Int32) (dB at_65) 67 rfl rfl ?_
       refine w_if_eq X0 hx 1 (by decide) (dB at_67) 75 70 (fun c1742 => ?_) (fun c1742 => ?_)
       ·exfalso; omega
       ·refine w_iload X0 hx (1 : Int32) (dB at_70) 72 rfl rfl ?_
        refine w_goto X0 hx (dB at_72) 77 ?_
        refine w_istore X0 hx (dB at_77) 79 rfl #[.val (.int xp), .val (.int xq), .val (.int xr), .val (.int (1 : Int32)), .val (.int (0 : Int32)), .val (.int (1 : Int32)), .val (.int (2 : Int32)), .val (.int (1 : Int32)), .val (.int (2 : Int32)), .val (.int (1 : Int32)), .unset, .unset, .unset, .unset, .unset] rfl ?_
        refine w_iloadN X0 hx xq (dB at_79) 80 rfl rfl ?_
        refine w_ldc X0 hx hZ hown (tw_0 hw) (dB at_80) 82 rfl ?_
        obtain ⟨v1743, e1743⟩ : ∃ z : Int32, z = xq &&& (2147483647 : Int32) := ⟨_, rfl⟩
        have n1743 : v1743.toInt = xq.toInt % 2147483648 := by rw [e1743]; exact maskX 31 rfl (by decide) (by decide)
        refine w_iand X0 hx (dB at_82) 83 rfl e1743 ?_
        refine w_iconst X0 hx (dB at_83) 84 rfl (4 : Int32) (by decide) ?_
        obtain ⟨v1744, e1744⟩ : ∃ z : Int32, z = v1743 % (4 : Int32) := ⟨_, rfl⟩
        have n1744 : v1744.toInt = v1743.toInt % 4 := by rw [e1744]; exact iremX rfl (by decide) (by omega)
        refine w_irem X0 hx (dB at_84) 85 rfl (by decide) e1744 ?_
        refine w_istore X0 hx (dB at_85) 87 rfl #[.val (.int xp), .val (.int xq), .val (.int xr), .val (.int (1 : Int32)), .val (.int (0 : Int32)), .val (.int (1 : Int32)), .val (.int (2 : Int32)), .val (.int (1 : Int32)), .val (.int (2 : Int32)), .val (.int (1 : Int32)), .val (.int v1744), .unset, .unset, .unset, .unset] rfl ?_
        refine w_iloadN X0 hx xr (dB at_87) 88 rfl rfl ?_
        refine w_ldc X0 hx hZ hown (tw_0 hw) (dB at_88) 90 rfl ?_
        obtain ⟨v1745, e1745⟩ : ∃ z : Int32, z = xr &&& (2147483647 : Int32) := ⟨_, rfl⟩
        have n1745 : v1745.toInt = xr.toInt % 2147483648 := by rw [e1745]; exact maskX 31 rfl (by decide) (by decide)
        refine w_iand X0 hx (dB at_90) 91 rfl e1745 ?_
        refine w_iconst X0 hx (dB at_91) 92 rfl (5 : Int32) (by decide) ?_
        obtain ⟨v1746, e1746⟩ : ∃ z : Int32, z = v1745 % (5 : Int32) := ⟨_, rfl⟩
        have n1746 : v1746.toInt = v1745.toInt % 5 := by rw [e1746]; exact iremX rfl (by decide) (by omega)
        refine w_irem X0 hx (dB at_92) 93 rfl (by decide) e1746 ?_
        refine w_istore X0 hx (dB at_93) 95 rfl #[.val (.int xp), .val (.int xq), .val (.int xr), .val (.int (1 : Int32)), .val (.int (0 : Int32)), .val (.int (1 : Int32)), .val (.int (2 : Int32)), .val (.int (1 : Int32)), .val (.int (2 : Int32)), .val (.int (1 : Int32)), .val (.int v1744), .val (.int v1746), .unset, .unset, .unset] rfl ?_
        refine w_new X0 hx hZ hown e0 (tw_1 hw) (tw_2 hw) (tw_3 hw) (by decide) (by decide) (dB at_95) 98 rfl (fun T1747 h1747 a1747 X1747 e1747 g1747 E1747 A1747 D1747 => ?_)
        have g_a1747 : n0 ≤ a1747 := Nat.le_trans Z0 (Nat.le_of_eq g1747.symm)
        have s_a1747 : h0.size ≤ a1747 := Nat.le_trans (Keep.refl h0 []).1 (Nat.le_of_eq g1747.symm)
        have Z1747 : n0 ≤ h1747.size := Nat.le_trans Z0 E1747.1
        have K1747 : Keep h0 h1747 [] := (Keep.refl h0 []).ext E1747
        have F1748 : Fld Z h1747 a1747 cN_1 "value" "J" (.long (0 : Int64)) := D1747 (Or.inr (tw_16 hw)) (ty := .long) (by decide)
        refine w_dup X1747 hx (dB at_98) 99 rfl rfl ?_
        refine w_iloadN X1747 hx xq (dB at_99) 100 rfl rfl ?_
        obtain ⟨v1749, e1749⟩ : ∃ z : Int64, z = xq.toInt64 := ⟨_, rfl⟩
        have n1749 : v1749.toInt = xq.toInt := by rw [e1749]; exact i2lX rfl
        refine w_i2l X1747 hx (dB at_100) 101 rfl e1749 ?_
        refine w_init X1747 hx hZ rfl hown e1747 (rm1 l Z a0 hw [] a1747 v1749 h1747 n0 Z1747 A1747 F1748 g_a1747) (tw_4 hw) (tw_5 hw) (tw_3 hw) (tw_6 hw) (by decide) (by rw [hml]; rfl) a1747 [(.long v1749)] [(.ref a1747)] (lenOf pd_1 rfl) rfl rfl (by decide) 1 rfl (by decide) (by decide) (by decide) (dB at_101) 104 rfl (fun r1750 T1750 L1750 X1750 q1750 => ?_)
        obtain ⟨rfl, Nq1750, Kq1750⟩ := q1750
        have N1750 := Fr.app N0 Nq1750
        have F1751 : Exa Z T1750.heap a1747 cN_1 := A1747.keep Kq1750
        have Z1750 : n0 ≤ T1750.heap.size := Nat.le_trans Z1747 Kq1750.1
        have K1750 : Keep h0 T1750.heap [] := K1747.trans Kq1750 (allS (Or.inr s_a1747) all0)
        dsimp only [oD1, oD2, oD3, oD4]
        refine w_astore X1750 hx (dB at_104) 106 rfl rfl #[.val (.int xp), .val (.int xq), .val (.int xr), .val (.int (1 : Int32)), .val (.int (0 : Int32)), .val (.int (1 : Int32)), .val (.int (2 : Int32)), .val (.int (1 : Int32)), .val (.int (2 : Int32)), .val (.int (1 : Int32)), .val (.int v1744), .val (.int v1746), .val (.ref a1747), .unset, .unset] rfl ?_
        refine w_new X1750 hx hZ hown rfl (tw_17 hw) (tw_18 hw) (tw_19 hw) (by decide) (by decide) (dB at_106) 109 rfl (fun T1752 h1752 a1752 X1752 e1752 g1752 E1752 A1752 D1752 => ?_)
        have ne_a1747_a1752 : a1747 ≠ a1752 := Nat.ne_of_lt (Nat.lt_of_lt_of_le F1751.lt (Nat.le_of_eq g1752.symm))
        have g_a1752 : n0 ≤ a1752 := Nat.le_trans Z1750 (Nat.le_of_eq g1752.symm)
        have s_a1752 : h0.size ≤ a1752 := Nat.le_trans K1750.1 (Nat.le_of_eq g1752.symm)
        have F1753 : Exa Z h1752 a1747 cN_1 := F1751.ext E1752
        have Z1752 : n0 ≤ h1752.size := Nat.le_trans Z1750 E1752.1
        have K1752 : Keep h0 h1752 [] := K1750.ext E1752
        have F1754 : Fld Z h1752 a1752 cN_2 "values" cN_3 .null := D1752 (Or.inr (tw_27 hw)) (ty := (.array (.object "com/example/simpagation/simpagation/Term"))) (by decide)
        have F1755 : Fld Z h1752 a1752 cN_2 "trail" "[I" .null := D1752 (Or.inr (tw_30 hw)) (ty := (.array .int)) (by decide)
        have F1756 : Fld Z h1752 a1752 cN_2 "trailSize" "I" (.int (0 : Int32)) := D1752 (Or.inl (tw_37 hw)) (ty := .int) (by decide)
        refine w_dup X1752 hx (dB at_109) 110 rfl rfl ?_
        refine w_iconst X1752 hx (dB at_110) 111 rfl (3 : Int32) (by decide) ?_
        refine w_init X1752 hx hZ rfl hown e1752 (rm4 l Z a0 hw [] a1752 h1752 n0 Z1752 A1752 F1754 F1755 F1756 g_a1752) (tw_20 hw) (tw_21 hw) (tw_19 hw) (tw_22 hw) (by decide) (by rw [hml]; rfl) a1752 [(.int (3 : Int32))] [(.ref a1752)] (lenOf pd_2 rfl) rfl rfl (by decide) 1 rfl (by decide) (by decide) (by decide) (dB at_111) 114 rfl (fun r1757 T1757 L1757 X1757 q1757 => ?_)
        obtain ⟨va1757, ta1757, kv1757, kt1757, rfl, Nq1757, Kq1757, sq1757_0, sq1757_1, nq1757_0, ov1757_0, G1757_0, G1757_1, G1757_2, G1757_3, G1757_4⟩ := q1757
        have N1757 := Fr.app N1750 Nq1757
        have ne_a1747_va1757 : a1747 ≠ va1757 := Nat.ne_of_lt (Nat.lt_of_lt_of_le F1753.lt sq1757_0)
        have ne_a1752_va1757 : a1752 ≠ va1757 := Nat.ne_of_lt (Nat.lt_of_lt_of_le A1752.lt sq1757_0)
        have g_va1757 : n0 ≤ va1757 := Nat.le_trans Z1752 sq1757_0
        have s_va1757 : h0.size ≤ va1757 := Nat.le_trans K1752.1 sq1757_0
        have ne_a1747_ta1757 : a1747 ≠ ta1757 := Nat.ne_of_lt (Nat.lt_of_lt_of_le F1753.lt sq1757_1)
        have ne_a1752_ta1757 : a1752 ≠ ta1757 := Nat.ne_of_lt (Nat.lt_of_lt_of_le A1752.lt sq1757_1)
        have g_ta1757 : n0 ≤ ta1757 := Nat.le_trans Z1752 sq1757_1
        have s_ta1757 : h0.size ≤ ta1757 := Nat.le_trans K1752.1 sq1757_1
        have F1758 : Exa Z T1757.heap a1747 cN_1 := F1753.keep Kq1757
        have F1759 : Exa Z T1757.heap a1752 cN_2 := A1752.keep Kq1757
        have Z1757 : n0 ≤ T1757.heap.size := Nat.le_trans Z1752 Kq1757.1
        have K1757 : Keep h0 T1757.heap [] := K1752.trans Kq1757 (allS (Or.inr s_a1752) all0)
        dsimp only [oD1, oD2, oD3, oD4]
        refine w_astore X1757 hx (dB at_114) 116 rfl rfl #[.val (.int xp), .val (.int xq), .val (.int xr), .val (.int (1 : Int32)), .val (.int (0 : Int32)), .val (.int (1 : Int32)), .val (.int (2 : Int32)), .val (.int (1 : Int32)), .val (.int (2 : Int32)), .val (.int (1 : Int32)), .val (.int v1744), .val (.int v1746), .val (.ref a1747), .val (.ref a1752), .unset] rfl ?_
        have J1760 : ∀ (T' : State) (h' : Heap) (L' : List Loc) (_ : Stand p l e room_1 s m #[(.int xp), (.int xq), (.int xr)] below meth c T' L' 4 10) (_ : T'.heap = h') (_ : Fr n0 L') (_ : n0 ≤ h'.size) (_ : Keep h0 h' []) (j1760_0 : Int32) (j1760_1 : Int32) , (Exa Z h' a1752 cN_2) → (Fld Z h' a1752 cN_2 "values" cN_3 (.ref va1757)) → (Fld Z h' a1752 cN_2 "trailSize" "I" (.int (0 : Int32))) → (Arv Z h' va1757 kv1757 (.object cN_4) (3 : Int32) [.null, .null, .null] .null) → (0 ≤ j1760_0.toInt ∧ j1760_0.toInt ≤ 3 ∧ 0 ≤ j1760_1.toInt ∧ j1760_1.toInt ≤ 4 ∧ ((j1760_0.toInt ≤ j1760_1.toInt ∧ j1760_0.toInt = 0) ∨ (j1760_1.toInt < j1760_0.toInt ∧ j1760_1.toInt = 0))) → Wk p e below (FN s (Q0 Z xp xq xr h0 n0) 4 10) T' (mkF m 167 #[.val (.int xp), .val (.int xq), .val (.int xr), .val (.int (1 : Int32)), .val (.int (0 : Int32)), .val (.int (1 : Int32)), .val (.int (2 : Int32)), .val (.int (1 : Int32)), .val (.int (2 : Int32)), .val (.int (1 : Int32)), .val (.int j1760_0), .val (.int j1760_1), .val (.ref a1747), .val (.ref a1752), .unset] []) := by
         intro T1760 h1760 L1760 X1760 e1760_ N1760 Z1760 K1760 j1760_0 j1760_1  jf1760_0 jf1760_1 jf1760_2 jf1760_3 f1760
         refine w_iload X1760 hx j1760_0 (dB at_167) 169 rfl rfl ?_
         refine w_iload X1760 hx j1760_1 (dB at_169) 171 rfl rfl ?_
         refine w_callS X1760 hx hZ hown e1760_ (rm7 l Z a0 hw [] j1760_0 j1760_1 h1760 n0 Z1760 ) (tw_44 hw) (tw_45 hw) (tw_46 hw) (tw_47 hw) (by decide) (by rw [hml]; rfl) [(.int j1760_0), (.int j1760_1)] [] (lenOf pd_3 rfl) rfl rfl (by decide) 0 rfl (by decide) (by decide) (by decide) (dB at_171) 174 rfl (fun r1761 T1761 L1761 X1761 q1761 => ?_)
         obtain ⟨z1761, rfl, f1761, Nq1761, eq1761⟩ := q1761
         have N1761 := Fr.app N1760 Nq1761
         dsimp only [oD1, oD2, oD3, oD4]
         refine w_istore X1761 hx (dB at_174) 176 rfl #[.val (.int xp), .val (.int xq), .val (.int xr), .val (.int (1 : Int32)), .val (.int (0 : Int32)), .val (.int (1 : Int32)), .val (.int (2 : Int32)), .val (.int (1 : Int32)), .val (.int (2 : Int32)), .val (.int (1 : Int32)), .val (.int j1760_0), .val (.int j1760_1), .val (.ref a1747), .val (.ref a1752), .val (.int z1761)] rfl ?_
         refine w_aload X1761 hx (.ref a1752) (dB at_176) 178 rfl rfl rfl ?_
         refine w_virt X1761 hx hZ hown eq1761 (rm8 l Z a0 hw [] a1752 (0 : Int32) h1760 n0 Z1760 jf1760_2) (tw_48 hw) (tw_49 hw) (notFace_of_selects (args := #[]) (mvT hZ (tw_51 hw))) (tw_51 hw) (tw_50 hw) (tw_19 hw) (tw_52 hw) (by decide) a1752 jf1760_0 (by rw [hml]; rfl) [] [] (lenOf pd_4 rfl) rfl rfl (by decide) 0 rfl (by decide) (by decide) (by decide) (dB at_178) 181 rfl (fun r1762 T1762 L1762 X1762 q1762 => ?_)
         obtain ⟨rfl, Nq1762, eq1762⟩ := q1762
         have N1762 := Fr.app N1761 Nq1762
         dsimp only [oD1, oD2, oD3, oD4]
         refine w_iload X1762 hx z1761 (dB at_181) 183 rfl rfl ?_
         refine w_icmp_ne X1762 hx 0 z1761.toInt (by decide) rfl (dB at_183) 283 186 (fun c1763 => ?_) (fun c1763 => ?_)
         ·exfalso; omega
         ·refine w_aload X1762 hx (.ref a1752) (dB at_186) 188 rfl rfl rfl ?_
          refine w_iload X1762 hx (0 : Int32) (dB at_188) 190 rfl rfl ?_
          refine w_virt X1762 hx hZ hown eq1762 (rm9i0 l Z a0 hw [] a1752 va1757 kv1757 [.null, .null, .null] .null h1760 n0 Z1760 jf1760_1 jf1760_3 (by rfl) (by rfl)) (tw_53 hw) (tw_54 hw) (notFace_of_selects (args := #[]) (mvT hZ (tw_56 hw))) (tw_56 hw) (tw_55 hw) (tw_19 hw) (tw_57 hw) (by decide) a1752 jf1760_0 (by rw [hml]; rfl) [(.int (0 : Int32))] [] (lenOf pd_5 rfl) rfl rfl (by decide) 0 rfl (by decide) (by decide) (by decide) (dB at_190) 193 rfl (fun r1764 T1764 L1764 X1764 q1764 => ?_)
          obtain ⟨rfl, Nq1764, eq1764⟩ := q1764
          have N1764 := Fr.app N1762 Nq1764
          dsimp only [oD1, oD2, oD3, oD4]
          refine w_aload X1764 hx (.ref a1747) (dB at_193) 195 rfl rfl rfl ?_
          refine w_acmp X1764 hx rfl rfl (dB at_195) false (decide_eq_false nofun) 202 (by decide) (by decide) ?_
          refine w_iconst X1764 hx (dB at_202) 203 rfl (0 : Int32) (by decide) ?_
          refine w_iconst X1764 hx (dB at_203) 204 rfl (0 : Int32) (by decide) ?_
          refine w_iload X1764 hx z1761 (dB at_204) 206 rfl rfl ?_
          refine w_icmp_ge X1764 hx 0 z1761.toInt (by decide) rfl (dB at_206) 213 209 (fun c1765 => ?_) (fun c1765 => ?_)
          ·refine w_iconst X1764 hx (dB at_213) 214 rfl (0 : Int32) (by decide) ?_
           refine w_icmp_ne X1764 hx 0 0 (by decide) (by decide) (dB at_214) 283 217 (fun c1766 => ?_) (fun c1766 => ?_)
           ·exfalso; omega
           ·refine w_aload X1764 hx (.ref a1752) (dB at_217) 219 rfl rfl rfl ?_
            refine w_iload X1764 hx (2 : Int32) (dB at_219) 221 rfl rfl ?_
            refine w_virt X1764 hx hZ hown eq1764 (rm9i2 l Z a0 hw [] a1752 va1757 kv1757 [.null, .null, .null] .null h1760 n0 Z1760 jf1760_1 jf1760_3 (by rfl) (by rfl)) (tw_53 hw) (tw_54 hw) (notFace_of_selects (args := #[]) (mvT hZ (tw_56 hw))) (tw_56 hw) (tw_55 hw) (tw_19 hw) (tw_57 hw) (by decide) a1752 jf1760_0 (by rw [hml]; rfl) [(.int (2 : Int32))] [] (lenOf pd_5 rfl) rfl rfl (by decide) 0 rfl (by decide) (by decide) (by decide) (dB at_221) 224 rfl (fun r1767 T1767 L1767 X1767 q1767 => ?_)
            obtain ⟨rfl, Nq1767, eq1767⟩ := q1767
            have N1767 := Fr.app N1764 Nq1767
            dsimp only [oD1, oD2, oD3, oD4]
            refine w_aload X1767 hx (.ref a1747) (dB at_224) 226 rfl rfl rfl ?_
            refine w_acmp X1767 hx rfl rfl (dB at_226) false (decide_eq_false nofun) 233 (by decide) (by decide) ?_
            refine w_iconst X1767 hx (dB at_233) 234 rfl (0 : Int32) (by decide) ?_
            refine w_iconst X1767 hx (dB at_234) 235 rfl (1 : Int32) (by decide) ?_
            refine w_iload X1767 hx z1761 (dB at_235) 237 rfl rfl ?_
            refine w_icmp_ge X1767 hx 1 z1761.toInt (by decide) rfl (dB at_237) 244 240 (fun c1768 => ?_) (fun c1768 => ?_)
            ·refine w_iconst X1767 hx (dB at_244) 245 rfl (0 : Int32) (by decide) ?_
             refine w_icmp_ne X1767 hx 0 0 (by decide) (by decide) (dB at_245) 283 248 (fun c1769 => ?_) (fun c1769 => ?_)
             ·exfalso; omega
             ·refine w_aload X1767 hx (.ref a1752) (dB at_248) 250 rfl rfl rfl ?_
              refine w_iload X1767 hx (1 : Int32) (dB at_250) 252 rfl rfl ?_
              refine w_virt X1767 hx hZ hown eq1767 (rm9i1 l Z a0 hw [] a1752 va1757 kv1757 [.null, .null, .null] .null h1760 n0 Z1760 jf1760_1 jf1760_3 (by rfl) (by rfl)) (tw_53 hw) (tw_54 hw) (notFace_of_selects (args := #[]) (mvT hZ (tw_56 hw))) (tw_56 hw) (tw_55 hw) (tw_19 hw) (tw_57 hw) (by decide) a1752 jf1760_0 (by rw [hml]; rfl) [(.int (1 : Int32))] [] (lenOf pd_5 rfl) rfl rfl (by decide) 0 rfl (by decide) (by decide) (by decide) (dB at_252) 255 rfl (fun r1770 T1770 L1770 X1770 q1770 => ?_)
              obtain ⟨rfl, Nq1770, eq1770⟩ := q1770
              have N1770 := Fr.app N1767 Nq1770
              dsimp only [oD1, oD2, oD3, oD4]
              refine w_aload X1770 hx (.ref a1747) (dB at_255) 257 rfl rfl rfl ?_
              refine w_acmp X1770 hx rfl rfl (dB at_257) false (decide_eq_false nofun) 264 (by decide) (by decide) ?_
              refine w_iconst X1770 hx (dB at_264) 265 rfl (0 : Int32) (by decide) ?_
              refine w_iconst X1770 hx (dB at_265) 266 rfl (2 : Int32) (by decide) ?_
              refine w_iload X1770 hx z1761 (dB at_266) 268 rfl rfl ?_
              refine w_icmp_ge X1770 hx 2 z1761.toInt (by decide) rfl (dB at_268) 275 271 (fun c1771 => ?_) (fun c1771 => ?_)
              ·refine w_iconst X1770 hx (dB at_275) 276 rfl (0 : Int32) (by decide) ?_
               refine w_icmp_ne X1770 hx 0 0 (by decide) (by decide) (dB at_276) 283 279 (fun c1772 => ?_) (fun c1772 => ?_)
               ·exfalso; omega
               ·refine w_iconst X1770 hx (dB at_279) 280 rfl (1 : Int32) (by decide) ?_
                refine w_goto X1770 hx (dB at_280) 284 ?_
                refine w_retN X1770 hx hlk (t := .boolean) hret (by simp) (dB at_284) (by decide) (by decide) ?_
                rw [eq1770]
                exact ⟨rfl, N1770⟩
              ·exfalso; omega
            ·exfalso; omega
          ·exfalso; omega
        have J1773 : ∀ (T' : State) (h' : Heap) (L' : List Loc) (_ : Stand p l e room_1 s m #[(.int xp), (.int xq), (.int xr)] below meth c T' L' 4 10) (_ : T'.heap = h') (_ : Fr n0 L') (_ : n0 ≤ h'.size) (_ : Keep h0 h' []) (j1773_0 : Int32) (j1773_1 : Int32) , (Exa Z h' a1752 cN_2) → (Fld Z h' a1752 cN_2 "values" cN_3 (.ref va1757)) → (Fld Z h' a1752 cN_2 "trailSize" "I" (.int (1 : Int32))) → (Arv Z h' va1757 kv1757 (.object cN_4) (3 : Int32) [(.ref a1747), .null, .null] .null) → (0 ≤ j1773_0.toInt ∧ j1773_0.toInt ≤ 3 ∧ 0 ≤ j1773_1.toInt ∧ j1773_1.toInt ≤ 4 ∧ ((j1773_0.toInt ≤ j1773_1.toInt ∧ j1773_0.toInt = 1) ∨ (j1773_1.toInt < j1773_0.toInt ∧ j1773_1.toInt = 1))) → Wk p e below (FN s (Q0 Z xp xq xr h0 n0) 4 10) T' (mkF m 167 #[.val (.int xp), .val (.int xq), .val (.int xr), .val (.int (1 : Int32)), .val (.int (0 : Int32)), .val (.int (1 : Int32)), .val (.int (2 : Int32)), .val (.int (1 : Int32)), .val (.int (2 : Int32)), .val (.int (1 : Int32)), .val (.int j1773_0), .val (.int j1773_1), .val (.ref a1747), .val (.ref a1752), .unset] []) := by
         intro T1773 h1773 L1773 X1773 e1773_ N1773 Z1773 K1773 j1773_0 j1773_1  jf1773_0 jf1773_1 jf1773_2 jf1773_3 f1773
         refine w_iload X1773 hx j1773_0 (dB at_167) 169 rfl rfl ?_
         refine w_iload X1773 hx j1773_1 (dB at_169) 171 rfl rfl ?_
         refine w_callS X1773 hx hZ hown e1773_ (rm7 l Z a0 hw [] j1773_0 j1773_1 h1773 n0 Z1773 ) (tw_44 hw) (tw_45 hw) (tw_46 hw) (tw_47 hw) (by decide) (by rw [hml]; rfl) [(.int j1773_0), (.int j1773_1)] [] (lenOf pd_3 rfl) rfl rfl (by decide) 0 rfl (by decide) (by decide) (by decide) (dB at_171) 174 rfl (fun r1774 T1774 L1774 X1774 q1774 => ?_)
         obtain ⟨z1774, rfl, f1774, Nq1774, eq1774⟩ := q1774
         have N1774 := Fr.app N1773 Nq1774
         dsimp only [oD1, oD2, oD3, oD4]
         refine w_istore X1774 hx (dB at_174) 176 rfl #[.val (.int xp), .val (.int xq), .val (.int xr), .val (.int (1 : Int32)), .val (.int (0 : Int32)), .val (.int (1 : Int32)), .val (.int (2 : Int32)), .val (.int (1 : Int32)), .val (.int (2 : Int32)), .val (.int (1 : Int32)), .val (.int j1773_0), .val (.int j1773_1), .val (.ref a1747), .val (.ref a1752), .val (.int z1774)] rfl ?_
         refine w_aload X1774 hx (.ref a1752) (dB at_176) 178 rfl rfl rfl ?_
         refine w_virt X1774 hx hZ hown eq1774 (rm8 l Z a0 hw [] a1752 (1 : Int32) h1773 n0 Z1773 jf1773_2) (tw_48 hw) (tw_49 hw) (notFace_of_selects (args := #[]) (mvT hZ (tw_51 hw))) (tw_51 hw) (tw_50 hw) (tw_19 hw) (tw_52 hw) (by decide) a1752 jf1773_0 (by rw [hml]; rfl) [] [] (lenOf pd_4 rfl) rfl rfl (by decide) 0 rfl (by decide) (by decide) (by decide) (dB at_178) 181 rfl (fun r1775 T1775 L1775 X1775 q1775 => ?_)
         obtain ⟨rfl, Nq1775, eq1775⟩ := q1775
         have N1775 := Fr.app N1774 Nq1775
         dsimp only [oD1, oD2, oD3, oD4]
         refine w_iload X1775 hx z1774 (dB at_181) 183 rfl rfl ?_
         refine w_icmp_ne X1775 hx 1 z1774.toInt (by decide) rfl (dB at_183) 283 186 (fun c1776 => ?_) (fun c1776 => ?_)
         ·exfalso; omega
         ·refine w_aload X1775 hx (.ref a1752) (dB at_186) 188 rfl rfl rfl ?_
          refine w_iload X1775 hx (0 : Int32) (dB at_188) 190 rfl rfl ?_
          refine w_virt X1775 hx hZ hown eq1775 (rm9i0 l Z a0 hw [] a1752 va1757 kv1757 [(.ref a1747), .null, .null] (.ref a1747) h1773 n0 Z1773 jf1773_1 jf1773_3 (by rfl) (by rfl)) (tw_53 hw) (tw_54 hw) (notFace_of_selects (args := #[]) (mvT hZ (tw_56 hw))) (tw_56 hw) (tw_55 hw) (tw_19 hw) (tw_57 hw) (by decide) a1752 jf1773_0 (by rw [hml]; rfl) [(.int (0 : Int32))] [] (lenOf pd_5 rfl) rfl rfl (by decide) 0 rfl (by decide) (by decide) (by decide) (dB at_190) 193 rfl (fun r1777 T1777 L1777 X1777 q1777 => ?_)
          obtain ⟨rfl, Nq1777, eq1777⟩ := q1777
          have N1777 := Fr.app N1775 Nq1777
          dsimp only [oD1, oD2, oD3, oD4]
          refine w_aload X1777 hx (.ref a1747) (dB at_193) 195 rfl rfl rfl ?_
          refine w_acmp X1777 hx rfl rfl (dB at_195) true (decide_eq_true rfl) 198 (by decide) (by decide) ?_
          refine w_iconst X1777 hx (dB at_198) 199 rfl (1 : Int32) (by decide) ?_
          refine w_goto X1777 hx (dB at_199) 203 ?_
          refine w_iconst X1777 hx (dB at_203) 204 rfl (0 : Int32) (by decide) ?_
          refine w_iload X1777 hx z1774 (dB at_204) 206 rfl rfl ?_
          refine w_icmp_ge X1777 hx 0 z1774.toInt (by decide) rfl (dB at_206) 213 209 (fun c1778 => ?_) (fun c1778 => ?_)
          ·exfalso; omega
          ·refine w_iconst X1777 hx (dB at_209) 210 rfl (1 : Int32) (by decide) ?_
           refine w_goto X1777 hx (dB at_210) 214 ?_
           refine w_icmp_ne X1777 hx 1 1 (by decide) (by decide) (dB at_214) 283 217 (fun c1779 => ?_) (fun c1779 => ?_)
           ·exfalso; omega
           ·refine w_aload X1777 hx (.ref a1752) (dB at_217) 219 rfl rfl rfl ?_
            refine w_iload X1777 hx (2 : Int32) (dB at_219) 221 rfl rfl ?_
            refine w_virt X1777 hx hZ hown eq1777 (rm9i2 l Z a0 hw [] a1752 va1757 kv1757 [(.ref a1747), .null, .null] .null h1773 n0 Z1773 jf1773_1 jf1773_3 (by rfl) (by rfl)) (tw_53 hw) (tw_54 hw) (notFace_of_selects (args := #[]) (mvT hZ (tw_56 hw))) (tw_56 hw) (tw_55 hw) (tw_19 hw) (tw_57 hw) (by decide) a1752 jf1773_0 (by rw [hml]; rfl) [(.int (2 : Int32))] [] (lenOf pd_5 rfl) rfl rfl (by decide) 0 rfl (by decide) (by decide) (by decide) (dB at_221) 224 rfl (fun r1780 T1780 L1780 X1780 q1780 => ?_)
            obtain ⟨rfl, Nq1780, eq1780⟩ := q1780
            have N1780 := Fr.app N1777 Nq1780
            dsimp only [oD1, oD2, oD3, oD4]
            refine w_aload X1780 hx (.ref a1747) (dB at_224) 226 rfl rfl rfl ?_
            refine w_acmp X1780 hx rfl rfl (dB at_226) false (decide_eq_false nofun) 233 (by decide) (by decide) ?_
            refine w_iconst X1780 hx (dB at_233) 234 rfl (0 : Int32) (by decide) ?_
            refine w_iconst X1780 hx (dB at_234) 235 rfl (1 : Int32) (by decide) ?_
            refine w_iload X1780 hx z1774 (dB at_235) 237 rfl rfl ?_
            refine w_icmp_ge X1780 hx 1 z1774.toInt (by decide) rfl (dB at_237) 244 240 (fun c1781 => ?_) (fun c1781 => ?_)
            ·refine w_iconst X1780 hx (dB at_244) 245 rfl (0 : Int32) (by decide) ?_
             refine w_icmp_ne X1780 hx 0 0 (by decide) (by decide) (dB at_245) 283 248 (fun c1782 => ?_) (fun c1782 => ?_)
             ·exfalso; omega
             ·refine w_aload X1780 hx (.ref a1752) (dB at_248) 250 rfl rfl rfl ?_
              refine w_iload X1780 hx (1 : Int32) (dB at_250) 252 rfl rfl ?_
              refine w_virt X1780 hx hZ hown eq1780 (rm9i1 l Z a0 hw [] a1752 va1757 kv1757 [(.ref a1747), .null, .null] .null h1773 n0 Z1773 jf1773_1 jf1773_3 (by rfl) (by rfl)) (tw_53 hw) (tw_54 hw) (notFace_of_selects (args := #[]) (mvT hZ (tw_56 hw))) (tw_56 hw) (tw_55 hw) (tw_19 hw) (tw_57 hw) (by decide) a1752 jf1773_0 (by rw [hml]; rfl) [(.int (1 : Int32))] [] (lenOf pd_5 rfl) rfl rfl (by decide) 0 rfl (by decide) (by decide) (by decide) (dB at_252) 255 rfl (fun r1783 T1783 L1783 X1783 q1783 => ?_)
              obtain ⟨rfl, Nq1783, eq1783⟩ := q1783
              have N1783 := Fr.app N1780 Nq1783
              dsimp only [oD1, oD2, oD3, oD4]
              refine w_aload X1783 hx (.ref a1747) (dB at_255) 257 rfl rfl rfl ?_
              refine w_acmp X1783 hx rfl rfl (dB at_257) false (decide_eq_false nofun) 264 (by decide) (by decide) ?_
              refine w_iconst X1783 hx (dB at_264) 265 rfl (0 : Int32) (by decide) ?_
              refine w_iconst X1783 hx (dB at_265) 266 rfl (2 : Int32) (by decide) ?_
              refine w_iload X1783 hx z1774 (dB at_266) 268 rfl rfl ?_
              refine w_icmp_ge X1783 hx 2 z1774.toInt (by decide) rfl (dB at_268) 275 271 (fun c1784 => ?_) (fun c1784 => ?_)
              ·refine w_iconst X1783 hx (dB at_275) 276 rfl (0 : Int32) (by decide) ?_
               refine w_icmp_ne X1783 hx 0 0 (by decide) (by decide) (dB at_276) 283 279 (fun c1785 => ?_) (fun c1785 => ?_)
               ·exfalso; omega
               ·refine w_iconst X1783 hx (dB at_279) 280 rfl (1 : Int32) (by decide) ?_
                refine w_goto X1783 hx (dB at_280) 284 ?_
                refine w_retN X1783 hx hlk (t := .boolean) hret (by simp) (dB at_284) (by decide) (by decide) ?_
                rw [eq1783]
                exact ⟨rfl, N1783⟩
              ·exfalso; omega
            ·exfalso; omega
        have J1786 : ∀ (T' : State) (h' : Heap) (L' : List Loc) (_ : Stand p l e room_1 s m #[(.int xp), (.int xq), (.int xr)] below meth c T' L' 4 10) (_ : T'.heap = h') (_ : Fr n0 L') (_ : n0 ≤ h'.size) (_ : Keep h0 h' []) (j1786_0 : Int32) (j1786_1 : Int32) , (Exa Z h' a1752 cN_2) → (Fld Z h' a1752 cN_2 "values" cN_3 (.ref va1757)) → (Fld Z h' a1752 cN_2 "trailSize" "I" (.int (2 : Int32))) → (Arv Z h' va1757 kv1757 (.object cN_4) (3 : Int32) [(.ref a1747), .null, (.ref a1747)] .null) → (0 ≤ j1786_0.toInt ∧ j1786_0.toInt ≤ 3 ∧ 0 ≤ j1786_1.toInt ∧ j1786_1.toInt ≤ 4 ∧ ((j1786_0.toInt ≤ j1786_1.toInt ∧ j1786_0.toInt = 2) ∨ (j1786_1.toInt < j1786_0.toInt ∧ j1786_1.toInt = 2))) → Wk p e below (FN s (Q0 Z xp xq xr h0 n0) 4 10) T' (mkF m 167 #[.val (.int xp), .val (.int xq), .val (.int xr), .val (.int (1 : Int32)), .val (.int (0 : Int32)), .val (.int (1 : Int32)), .val (.int (2 : Int32)), .val (.int (1 : Int32)), .val (.int (2 : Int32)), .val (.int (1 : Int32)), .val (.int j1786_0), .val (.int j1786_1), .val (.ref a1747), .val (.ref a1752), .unset] []) := by
         intro T1786 h1786 L1786 X1786 e1786_ N1786 Z1786 K1786 j1786_0 j1786_1  jf1786_0 jf1786_1 jf1786_2 jf1786_3 f1786
         refine w_iload X1786 hx j1786_0 (dB at_167) 169 rfl rfl ?_
         refine w_iload X1786 hx j1786_1 (dB at_169) 171 rfl rfl ?_
         refine w_callS X1786 hx hZ hown e1786_ (rm7 l Z a0 hw [] j1786_0 j1786_1 h1786 n0 Z1786 ) (tw_44 hw) (tw_45 hw) (tw_46 hw) (tw_47 hw) (by decide) (by rw [hml]; rfl) [(.int j1786_0), (.int j1786_1)] [] (lenOf pd_3 rfl) rfl rfl (by decide) 0 rfl (by decide) (by decide) (by decide) (dB at_171) 174 rfl (fun r1787 T1787 L1787 X1787 q1787 => ?_)
         obtain ⟨z1787, rfl, f1787, Nq1787, eq1787⟩ := q1787
         have N1787 := Fr.app N1786 Nq1787
         dsimp only [oD1, oD2, oD3, oD4]
         refine w_istore X1787 hx (dB at_174) 176 rfl #[.val (.int xp), .val (.int xq), .val (.int xr), .val (.int (1 : Int32)), .val (.int (0 : Int32)), .val (.int (1 : Int32)), .val (.int (2 : Int32)), .val (.int (1 : Int32)), .val (.int (2 : Int32)), .val (.int (1 : Int32)), .val (.int j1786_0), .val (.int j1786_1), .val (.ref a1747), .val (.ref a1752), .val (.int z1787)] rfl ?_
         refine w_aload X1787 hx (.ref a1752) (dB at_176) 178 rfl rfl rfl ?_
         refine w_virt X1787 hx hZ hown eq1787 (rm8 l Z a0 hw [] a1752 (2 : Int32) h1786 n0 Z1786 jf1786_2) (tw_48 hw) (tw_49 hw) (notFace_of_selects (args := #[]) (mvT hZ (tw_51 hw))) (tw_51 hw) (tw_50 hw) (tw_19 hw) (tw_52 hw) (by decide) a1752 jf1786_0 (by rw [hml]; rfl) [] [] (lenOf pd_4 rfl) rfl rfl (by decide) 0 rfl (by decide) (by decide) (by decide) (dB at_178) 181 rfl (fun r1788 T1788 L1788 X1788 q1788 => ?_)
         obtain ⟨rfl, Nq1788, eq1788⟩ := q1788
         have N1788 := Fr.app N1787 Nq1788
         dsimp only [oD1, oD2, oD3, oD4]
         refine w_iload X1788 hx z1787 (dB at_181) 183 rfl rfl ?_
         refine w_icmp_ne X1788 hx 2 z1787.toInt (by decide) rfl (dB at_183) 283 186 (fun c1789 => ?_) (fun c1789 => ?_)
         ·exfalso; omega
         ·refine w_aload X1788 hx (.ref a1752) (dB at_186) 188 rfl rfl rfl ?_
          refine w_iload X1788 hx (0 : Int32) (dB at_188) 190 rfl rfl ?_
          refine w_virt X1788 hx hZ hown eq1788 (rm9i0 l Z a0 hw [] a1752 va1757 kv1757 [(.ref a1747), .null, (.ref a1747)] (.ref a1747) h1786 n0 Z1786 jf1786_1 jf1786_3 (by rfl) (by rfl)) (tw_53 hw) (tw_54 hw) (notFace_of_selects (args := #[]) (mvT hZ (tw_56 hw))) (tw_56 hw) (tw_55 hw) (tw_19 hw) (tw_57 hw) (by decide) a1752 jf1786_0 (by rw [hml]; rfl) [(.int (0 : Int32))] [] (lenOf pd_5 rfl) rfl rfl (by decide) 0 rfl (by decide) (by decide) (by decide) (dB at_190) 193 rfl (fun r1790 T1790 L1790 X1790 q1790 => ?_)
          obtain ⟨rfl, Nq1790, eq1790⟩ := q1790
          have N1790 := Fr.app N1788 Nq1790
          dsimp only [oD1, oD2, oD3, oD4]
          refine w_aload X1790 hx (.ref a1747) (dB at_193) 195 rfl rfl rfl ?_
          refine w_acmp X1790 hx rfl rfl (dB at_195) true (decide_eq_true rfl) 198 (by decide) (by decide) ?_
          refine w_iconst X1790 hx (dB at_198) 199 rfl (1 : Int32) (by decide) ?_
          refine w_goto X1790 hx (dB at_199) 203 ?_
          refine w_iconst X1790 hx (dB at_203) 204 rfl (0 : Int32) (by decide) ?_
          refine w_iload X1790 hx z1787 (dB at_204) 206 rfl rfl ?_
          refine w_icmp_ge X1790 hx 0 z1787.toInt (by decide) rfl (dB at_206) 213 209 (fun c1791 => ?_) (fun c1791 => ?_)
          ·exfalso; omega
          ·refine w_iconst X1790 hx (dB at_209) 210 rfl (1 : Int32) (by decide) ?_
           refine w_goto X1790 hx (dB at_210) 214 ?_
           refine w_icmp_ne X1790 hx 1 1 (by decide) (by decide) (dB at_214) 283 217 (fun c1792 => ?_) (fun c1792 => ?_)
           ·exfalso; omega
           ·refine w_aload X1790 hx (.ref a1752) (dB at_217) 219 rfl rfl rfl ?_
            refine w_iload X1790 hx (2 : Int32) (dB at_219) 221 rfl rfl ?_
            refine w_virt X1790 hx hZ hown eq1790 (rm9i2 l Z a0 hw [] a1752 va1757 kv1757 [(.ref a1747), .null, (.ref a1747)] (.ref a1747) h1786 n0 Z1786 jf1786_1 jf1786_3 (by rfl) (by rfl)) (tw_53 hw) (tw_54 hw) (notFace_of_selects (args := #[]) (mvT hZ (tw_56 hw))) (tw_56 hw) (tw_55 hw) (tw_19 hw) (tw_57 hw) (by decide) a1752 jf1786_0 (by rw [hml]; rfl) [(.int (2 : Int32))] [] (lenOf pd_5 rfl) rfl rfl (by decide) 0 rfl (by decide) (by decide) (by decide) (dB at_221) 224 rfl (fun r1793 T1793 L1793 X1793 q1793 => ?_)
            obtain ⟨rfl, Nq1793, eq1793⟩ := q1793
            have N1793 := Fr.app N1790 Nq1793
            dsimp only [oD1, oD2, oD3, oD4]
            refine w_aload X1793 hx (.ref a1747) (dB at_224) 226 rfl rfl rfl ?_
            refine w_acmp X1793 hx rfl rfl (dB at_226) true (decide_eq_true rfl) 229 (by decide) (by decide) ?_
            refine w_iconst X1793 hx (dB at_229) 230 rfl (1 : Int32) (by decide) ?_
            refine w_goto X1793 hx (dB at_230) 234 ?_
            refine w_iconst X1793 hx (dB at_234) 235 rfl (1 : Int32) (by decide) ?_
            refine w_iload X1793 hx z1787 (dB at_235) 237 rfl rfl ?_
            refine w_icmp_ge X1793 hx 1 z1787.toInt (by decide) rfl (dB at_237) 244 240 (fun c1794 => ?_) (fun c1794 => ?_)
            ·exfalso; omega
            ·refine w_iconst X1793 hx (dB at_240) 241 rfl (1 : Int32) (by decide) ?_
             refine w_goto X1793 hx (dB at_241) 245 ?_
             refine w_icmp_ne X1793 hx 1 1 (by decide) (by decide) (dB at_245) 283 248 (fun c1795 => ?_) (fun c1795 => ?_)
             ·exfalso; omega
             ·refine w_aload X1793 hx (.ref a1752) (dB at_248) 250 rfl rfl rfl ?_
              refine w_iload X1793 hx (1 : Int32) (dB at_250) 252 rfl rfl ?_
              refine w_virt X1793 hx hZ hown eq1793 (rm9i1 l Z a0 hw [] a1752 va1757 kv1757 [(.ref a1747), .null, (.ref a1747)] .null h1786 n0 Z1786 jf1786_1 jf1786_3 (by rfl) (by rfl)) (tw_53 hw) (tw_54 hw) (notFace_of_selects (args := #[]) (mvT hZ (tw_56 hw))) (tw_56 hw) (tw_55 hw) (tw_19 hw) (tw_57 hw) (by decide) a1752 jf1786_0 (by rw [hml]; rfl) [(.int (1 : Int32))] [] (lenOf pd_5 rfl) rfl rfl (by decide) 0 rfl (by decide) (by decide) (by decide) (dB at_252) 255 rfl (fun r1796 T1796 L1796 X1796 q1796 => ?_)
              obtain ⟨rfl, Nq1796, eq1796⟩ := q1796
              have N1796 := Fr.app N1793 Nq1796
              dsimp only [oD1, oD2, oD3, oD4]
              refine w_aload X1796 hx (.ref a1747) (dB at_255) 257 rfl rfl rfl ?_
              refine w_acmp X1796 hx rfl rfl (dB at_257) false (decide_eq_false nofun) 264 (by decide) (by decide) ?_
              refine w_iconst X1796 hx (dB at_264) 265 rfl (0 : Int32) (by decide) ?_
              refine w_iconst X1796 hx (dB at_265) 266 rfl (2 : Int32) (by decide) ?_
              refine w_iload X1796 hx z1787 (dB at_266) 268 rfl rfl ?_
              refine w_icmp_ge X1796 hx 2 z1787.toInt (by decide) rfl (dB at_268) 275 271 (fun c1797 => ?_) (fun c1797 => ?_)
              ·refine w_iconst X1796 hx (dB at_275) 276 rfl (0 : Int32) (by decide) ?_
               refine w_icmp_ne X1796 hx 0 0 (by decide) (by decide) (dB at_276) 283 279 (fun c1798 => ?_) (fun c1798 => ?_)
               ·exfalso; omega
               ·refine w_iconst X1796 hx (dB at_279) 280 rfl (1 : Int32) (by decide) ?_
                refine w_goto X1796 hx (dB at_280) 284 ?_
                refine w_retN X1796 hx hlk (t := .boolean) hret (by simp) (dB at_284) (by decide) (by decide) ?_
                rw [eq1796]
                exact ⟨rfl, N1796⟩
              ·exfalso; omega
        have J1799 : ∀ (T' : State) (h' : Heap) (L' : List Loc) (_ : Stand p l e room_1 s m #[(.int xp), (.int xq), (.int xr)] below meth c T' L' 4 10) (_ : T'.heap = h') (_ : Fr n0 L') (_ : n0 ≤ h'.size) (_ : Keep h0 h' []) (j1799_0 : Int32) (j1799_1 : Int32) , (Exa Z h' a1752 cN_2) → (Fld Z h' a1752 cN_2 "values" cN_3 (.ref va1757)) → (Fld Z h' a1752 cN_2 "trailSize" "I" (.int (3 : Int32))) → (Arv Z h' va1757 kv1757 (.object cN_4) (3 : Int32) [(.ref a1747), (.ref a1747), (.ref a1747)] .null) → (0 ≤ j1799_0.toInt ∧ j1799_0.toInt ≤ 3 ∧ 0 ≤ j1799_1.toInt ∧ j1799_1.toInt ≤ 4 ∧ ((j1799_0.toInt ≤ j1799_1.toInt ∧ j1799_0.toInt = 3) ∨ (j1799_1.toInt < j1799_0.toInt ∧ j1799_1.toInt = 3))) → Wk p e below (FN s (Q0 Z xp xq xr h0 n0) 4 10) T' (mkF m 167 #[.val (.int xp), .val (.int xq), .val (.int xr), .val (.int (1 : Int32)), .val (.int (0 : Int32)), .val (.int (1 : Int32)), .val (.int (2 : Int32)), .val (.int (1 : Int32)), .val (.int (2 : Int32)), .val (.int (1 : Int32)), .val (.int j1799_0), .val (.int j1799_1), .val (.ref a1747), .val (.ref a1752), .unset] []) := by
         intro T1799 h1799 L1799 X1799 e1799_ N1799 Z1799 K1799 j1799_0 j1799_1  jf1799_0 jf1799_1 jf1799_2 jf1799_3 f1799
         refine w_iload X1799 hx j1799_0 (dB at_167) 169 rfl rfl ?_
         refine w_iload X1799 hx j1799_1 (dB at_169) 171 rfl rfl ?_
         refine w_callS X1799 hx hZ hown e1799_ (rm7 l Z a0 hw [] j1799_0 j1799_1 h1799 n0 Z1799 ) (tw_44 hw) (tw_45 hw) (tw_46 hw) (tw_47 hw) (by decide) (by rw [hml]; rfl) [(.int j1799_0), (.int j1799_1)] [] (lenOf pd_3 rfl) rfl rfl (by decide) 0 rfl (by decide) (by decide) (by decide) (dB at_171) 174 rfl (fun r1800 T1800 L1800 X1800 q1800 => ?_)
         obtain ⟨z1800, rfl, f1800, Nq1800, eq1800⟩ := q1800
         have N1800 := Fr.app N1799 Nq1800
         dsimp only [oD1, oD2, oD3, oD4]
         refine w_istore X1800 hx (dB at_174) 176 rfl #[.val (.int xp), .val (.int xq), .val (.int xr), .val (.int (1 : Int32)), .val (.int (0 : Int32)), .val (.int (1 : Int32)), .val (.int (2 : Int32)), .val (.int (1 : Int32)), .val (.int (2 : Int32)), .val (.int (1 : Int32)), .val (.int j1799_0), .val (.int j1799_1), .val (.ref a1747), .val (.ref a1752), .val (.int z1800)] rfl ?_
         refine w_aload X1800 hx (.ref a1752) (dB at_176) 178 rfl rfl rfl ?_
         refine w_virt X1800 hx hZ hown eq1800 (rm8 l Z a0 hw [] a1752 (3 : Int32) h1799 n0 Z1799 jf1799_2) (tw_48 hw) (tw_49 hw) (notFace_of_selects (args := #[]) (mvT hZ (tw_51 hw))) (tw_51 hw) (tw_50 hw) (tw_19 hw) (tw_52 hw) (by decide) a1752 jf1799_0 (by rw [hml]; rfl) [] [] (lenOf pd_4 rfl) rfl rfl (by decide) 0 rfl (by decide) (by decide) (by decide) (dB at_178) 181 rfl (fun r1801 T1801 L1801 X1801 q1801 => ?_)
         obtain ⟨rfl, Nq1801, eq1801⟩ := q1801
         have N1801 := Fr.app N1800 Nq1801
         dsimp only [oD1, oD2, oD3, oD4]
         refine w_iload X1801 hx z1800 (dB at_181) 183 rfl rfl ?_
         refine w_icmp_ne X1801 hx 3 z1800.toInt (by decide) rfl (dB at_183) 283 186 (fun c1802 => ?_) (fun c1802 => ?_)
         ·exfalso; omega
         ·refine w_aload X1801 hx (.ref a1752) (dB at_186) 188 rfl rfl rfl ?_
          refine w_iload X1801 hx (0 : Int32) (dB at_188) 190 rfl rfl ?_
          refine w_virt X1801 hx hZ hown eq1801 (rm9i0 l Z a0 hw [] a1752 va1757 kv1757 [(.ref a1747), (.ref a1747), (.ref a1747)] (.ref a1747) h1799 n0 Z1799 jf1799_1 jf1799_3 (by rfl) (by rfl)) (tw_53 hw) (tw_54 hw) (notFace_of_selects (args := #[]) (mvT hZ (tw_56 hw))) (tw_56 hw) (tw_55 hw) (tw_19 hw) (tw_57 hw) (by decide) a1752 jf1799_0 (by rw [hml]; rfl) [(.int (0 : Int32))] [] (lenOf pd_5 rfl) rfl rfl (by decide) 0 rfl (by decide) (by decide) (by decide) (dB at_190) 193 rfl (fun r1803 T1803 L1803 X1803 q1803 => ?_)
          obtain ⟨rfl, Nq1803, eq1803⟩ := q1803
          have N1803 := Fr.app N1801 Nq1803
          dsimp only [oD1, oD2, oD3, oD4]
          refine w_aload X1803 hx (.ref a1747) (dB at_193) 195 rfl rfl rfl ?_
          refine w_acmp X1803 hx rfl rfl (dB at_195) true (decide_eq_true rfl) 198 (by decide) (by decide) ?_
          refine w_iconst X1803 hx (dB at_198) 199 rfl (1 : Int32) (by decide) ?_
          refine w_goto X1803 hx (dB at_199) 203 ?_
          refine w_iconst X1803 hx (dB at_203) 204 rfl (0 : Int32) (by decide) ?_
          refine w_iload X1803 hx z1800 (dB at_204) 206 rfl rfl ?_
          refine w_icmp_ge X1803 hx 0 z1800.toInt (by decide) rfl (dB at_206) 213 209 (fun c1804 => ?_) (fun c1804 => ?_)
          ·exfalso; omega
          ·refine w_iconst X1803 hx (dB at_209) 210 rfl (1 : Int32) (by decide) ?_
           refine w_goto X1803 hx (dB at_210) 214 ?_
           refine w_icmp_ne X1803 hx 1 1 (by decide) (by decide) (dB at_214) 283 217 (fun c1805 => ?_) (fun c1805 => ?_)
           ·exfalso; omega
           ·refine w_aload X1803 hx (.ref a1752) (dB at_217) 219 rfl rfl rfl ?_
            refine w_iload X1803 hx (2 : Int32) (dB at_219) 221 rfl rfl ?_
            refine w_virt X1803 hx hZ hown eq1803 (rm9i2 l Z a0 hw [] a1752 va1757 kv1757 [(.ref a1747), (.ref a1747), (.ref a1747)] (.ref a1747) h1799 n0 Z1799 jf1799_1 jf1799_3 (by rfl) (by rfl)) (tw_53 hw) (tw_54 hw) (notFace_of_selects (args := #[]) (mvT hZ (tw_56 hw))) (tw_56 hw) (tw_55 hw) (tw_19 hw) (tw_57 hw) (by decide) a1752 jf1799_0 (by rw [hml]; rfl) [(.int (2 : Int32))] [] (lenOf pd_5 rfl) rfl rfl (by decide) 0 rfl (by decide) (by decide) (by decide) (dB at_221) 224 rfl (fun r1806 T1806 L1806 X1806 q1806 => ?_)
            obtain ⟨rfl, Nq1806, eq1806⟩ := q1806
            have N1806 := Fr.app N1803 Nq1806
            dsimp only [oD1, oD2, oD3, oD4]
            refine w_aload X1806 hx (.ref a1747) (dB at_224) 226 rfl rfl rfl ?_
            refine w_acmp X1806 hx rfl rfl (dB at_226) true (decide_eq_true rfl) 229 (by decide) (by decide) ?_
            refine w_iconst X1806 hx (dB at_229) 230 rfl (1 : Int32) (by decide) ?_
            refine w_goto X1806 hx (dB at_230) 234 ?_
            refine w_iconst X1806 hx (dB at_234) 235 rfl (1 : Int32) (by decide) ?_
            refine w_iload X1806 hx z1800 (dB at_235) 237 rfl rfl ?_
            refine w_icmp_ge X1806 hx 1 z1800.toInt (by decide) rfl (dB at_237) 244 240 (fun c1807 => ?_) (fun c1807 => ?_)
            ·exfalso; omega
            ·refine w_iconst X1806 hx (dB at_240) 241 rfl (1 : Int32) (by decide) ?_
             refine w_goto X1806 hx (dB at_241) 245 ?_
             refine w_icmp_ne X1806 hx 1 1 (by decide) (by decide) (dB at_245) 283 248 (fun c1808 => ?_) (fun c1808 => ?_)
             ·exfalso; omega
             ·refine w_aload X1806 hx (.ref a1752) (dB at_248) 250 rfl rfl rfl ?_
              refine w_iload X1806 hx (1 : Int32) (dB at_250) 252 rfl rfl ?_
              refine w_virt X1806 hx hZ hown eq1806 (rm9i1 l Z a0 hw [] a1752 va1757 kv1757 [(.ref a1747), (.ref a1747), (.ref a1747)] (.ref a1747) h1799 n0 Z1799 jf1799_1 jf1799_3 (by rfl) (by rfl)) (tw_53 hw) (tw_54 hw) (notFace_of_selects (args := #[]) (mvT hZ (tw_56 hw))) (tw_56 hw) (tw_55 hw) (tw_19 hw) (tw_57 hw) (by decide) a1752 jf1799_0 (by rw [hml]; rfl) [(.int (1 : Int32))] [] (lenOf pd_5 rfl) rfl rfl (by decide) 0 rfl (by decide) (by decide) (by decide) (dB at_252) 255 rfl (fun r1809 T1809 L1809 X1809 q1809 => ?_)
              obtain ⟨rfl, Nq1809, eq1809⟩ := q1809
              have N1809 := Fr.app N1806 Nq1809
              dsimp only [oD1, oD2, oD3, oD4]
              refine w_aload X1809 hx (.ref a1747) (dB at_255) 257 rfl rfl rfl ?_
              refine w_acmp X1809 hx rfl rfl (dB at_257) true (decide_eq_true rfl) 260 (by decide) (by decide) ?_
              refine w_iconst X1809 hx (dB at_260) 261 rfl (1 : Int32) (by decide) ?_
              refine w_goto X1809 hx (dB at_261) 265 ?_
              refine w_iconst X1809 hx (dB at_265) 266 rfl (2 : Int32) (by decide) ?_
              refine w_iload X1809 hx z1800 (dB at_266) 268 rfl rfl ?_
              refine w_icmp_ge X1809 hx 2 z1800.toInt (by decide) rfl (dB at_268) 275 271 (fun c1810 => ?_) (fun c1810 => ?_)
              ·exfalso; omega
              ·refine w_iconst X1809 hx (dB at_271) 272 rfl (1 : Int32) (by decide) ?_
               refine w_goto X1809 hx (dB at_272) 276 ?_
               refine w_icmp_ne X1809 hx 1 1 (by decide) (by decide) (dB at_276) 283 279 (fun c1811 => ?_) (fun c1811 => ?_)
               ·exfalso; omega
               ·refine w_iconst X1809 hx (dB at_279) 280 rfl (1 : Int32) (by decide) ?_
                refine w_goto X1809 hx (dB at_280) 284 ?_
                refine w_retN X1809 hx hlk (t := .boolean) hret (by simp) (dB at_284) (by decide) (by decide) ?_
                rw [eq1809]
                exact ⟨rfl, N1809⟩
        have s1812 : v1744.toInt = 0 ∨ v1744.toInt = 1 ∨ v1744.toInt = 2 ∨ v1744.toInt = 3 := by omega
        rcases s1812 with s1812 | s1812 | s1812 | s1812
        ·obtain rfl : v1744 = (0 : Int32) := eqI (s1812.trans (by decide))
         have z1812 : (0 : Int32).toInt = 0 := by decide
         refine w_iload X1757 hx (0 : Int32) (dB at_116) 118 rfl rfl ?_
         refine w_if_le X1757 hx 0 (by decide) (dB at_118) 130 121 (fun c1813 => ?_) (fun c1813 => ?_)
         ·refine w_iload X1757 hx (0 : Int32) (dB at_130) 132 rfl rfl ?_
          refine w_iconst X1757 hx (dB at_132) 133 rfl (1 : Int32) (by decide) ?_
          refine w_icmp_le X1757 hx 0 1 (by decide) (by decide) (dB at_133) 145 136 (fun c1814 => ?_) (fun c1814 => ?_)
          ·refine w_iload X1757 hx (0 : Int32) (dB at_145) 147 rfl rfl ?_
           refine w_iconst X1757 hx (dB at_147) 148 rfl (2 : Int32) (by decide) ?_
           refine w_icmp_le X1757 hx 0 2 (by decide) (by decide) (dB at_148) 160 151 (fun c1815 => ?_) (fun c1815 => ?_)
           ·refine w_aload X1757 hx (.ref a1752) (dB at_160) 162 rfl rfl rfl ?_
            refine w_iload X1757 hx v1746 (dB at_162) 164 rfl rfl ?_
            refine w_virt X1757 hx hZ hown rfl (rm6ge0 l Z a0 hw [] a1752 v1746 T1757.heap n0 Z1757 G1757_2 (by omega)) (tw_39 hw) (tw_40 hw) (notFace_of_selects (args := #[]) (mvT hZ (tw_42 hw))) (tw_42 hw) (tw_41 hw) (tw_19 hw) (tw_43 hw) (by decide) a1752 F1759 (by rw [hml]; rfl) [(.int v1746)] [] (lenOf pd_2 rfl) rfl rfl (by decide) 0 rfl (by decide) (by decide) (by decide) (dB at_164) 167 rfl (fun r1817 T1817 L1817 X1817 q1817 => ?_)
            obtain ⟨rfl, Nq1817, eq1817⟩ := q1817
            have N1817 := Fr.app N1757 Nq1817
            dsimp only [oD1, oD2, oD3, oD4]
            exact J1760 _ _ _ (X1817.more (by decide) (by decide)) eq1817 N1817 Z1757 K1757 (0 : Int32) v1746  F1759 G1757_0 G1757_2 G1757_3 (by have hz1 : (0 : Int32).toInt = 0 := (by decide); omega)
           ·exfalso; omega
          ·exfalso; omega
         ·exfalso; omega
        ·obtain rfl : v1744 = (1 : Int32) := eqI (s1812.trans (by decide))
         have z1812 : (1 : Int32).toInt = 1 := by decide
         refine w_iload X1757 hx (1 : Int32) (dB at_116) 118 rfl rfl ?_
         refine w_if_le X1757 hx 1 (by decide) (dB at_118) 130 121 (fun c1818 => ?_) (fun c1818 => ?_)
         ·exfalso; omega
         ·refine w_aload X1757 hx (.ref a1752) (dB at_121) 123 rfl rfl rfl ?_
          refine w_iload X1757 hx (0 : Int32) (dB at_123) 125 rfl rfl ?_
          refine w_aload X1757 hx (.ref a1747) (dB at_125) 127 rfl rfl rfl ?_
          refine w_virt X1757 hx hZ hown rfl (rm5ti0 l Z a0 hw [] a1752 a1747 va1757 ta1757 kv1757 kt1757 T1757.heap n0 Z1757 F1759 G1757_0 G1757_1 G1757_2 G1757_3 G1757_4 F1758 g_a1752 g_ta1757 g_va1757 (by exact nq1757_0) (by exact ov1757_0)) (tw_31 hw) (tw_32 hw) (notFace_of_selects (args := #[]) (mvT hZ (tw_34 hw))) (tw_34 hw) (tw_33 hw) (tw_19 hw) (tw_35 hw) (by decide) a1752 F1759 (by rw [hml]; rfl) [(.int (0 : Int32)), (.ref a1747)] [] (lenOf pd_6 rfl) rfl rfl (by decide) 0 rfl (by decide) (by decide) (by decide) (dB at_127) 130 rfl (fun r1819 T1819 L1819 X1819 q1819 => ?_)
          obtain ⟨rfl, Nq1819, Kq1819, G1819_0, G1819_1, G1819_2, G1819_3, G1819_4⟩ := q1819
          have N1819 := Fr.app N1757 Nq1819
          have F1820 : Exa Z T1819.heap a1747 cN_1 := F1758.keep Kq1819
          have F1821 : Exa Z T1819.heap a1752 cN_2 := F1759.keep Kq1819
          have Z1819 : n0 ≤ T1819.heap.size := Nat.le_trans Z1757 Kq1819.1
          have K1819 : Keep h0 T1819.heap [] := K1757.trans Kq1819 (allS (Or.inr s_a1752) (allS (Or.inr s_ta1757) (allS (Or.inr s_va1757) all0)))
          dsimp only [oD1, oD2, oD3, oD4]
          refine w_iload X1819 hx (1 : Int32) (dB at_130) 132 rfl rfl ?_
          refine w_iconst X1819 hx (dB at_132) 133 rfl (1 : Int32) (by decide) ?_
          refine w_icmp_le X1819 hx 1 1 (by decide) (by decide) (dB at_133) 145 136 (fun c1822 => ?_) (fun c1822 => ?_)
          ·refine w_iload X1819 hx (1 : Int32) (dB at_145) 147 rfl rfl ?_
           refine w_iconst X1819 hx (dB at_147) 148 rfl (2 : Int32) (by decide) ?_
           refine w_icmp_le X1819 hx 1 2 (by decide) (by decide) (dB at_148) 160 151 (fun c1823 => ?_) (fun c1823 => ?_)
           ·have s1824 : v1746.toInt = 0 ∨ 1 ≤ v1746.toInt := by omega
            rcases s1824 with s1824 | s1824
            ·obtain rfl : v1746 = (0 : Int32) := eqI (s1824.trans (by decide))
             have z1824 : (0 : Int32).toInt = 0 := by decide
             refine w_aload X1819 hx (.ref a1752) (dB at_160) 162 rfl rfl rfl ?_
             refine w_iload X1819 hx (0 : Int32) (dB at_162) 164 rfl rfl ?_
             refine w_virt X1819 hx hZ hown rfl (rm6t0m0 l Z a0 hw [] a1752 va1757 ta1757 kv1757 kt1757 a1747 T1819.heap n0 Z1819 F1821 G1819_0 G1819_1 G1819_2 G1819_3 G1819_4 g_a1752 g_va1757 (by exact nq1757_0) (by exact ov1757_0)) (tw_39 hw) (tw_40 hw) (notFace_of_selects (args := #[]) (mvT hZ (tw_42 hw))) (tw_42 hw) (tw_41 hw) (tw_19 hw) (tw_43 hw) (by decide) a1752 F1821 (by rw [hml]; rfl) [(.int (0 : Int32))] [] (lenOf pd_2 rfl) rfl rfl (by decide) 0 rfl (by decide) (by decide) (by decide) (dB at_164) 167 rfl (fun r1825 T1825 L1825 X1825 q1825 => ?_)
             obtain ⟨rfl, Nq1825, Kq1825, G1825_0, G1825_1, G1825_2, G1825_3, G1825_4⟩ := q1825
             have N1825 := Fr.app N1819 Nq1825
             have F1826 : Exa Z T1825.heap a1747 cN_1 := F1820.keep Kq1825
             have F1827 : Exa Z T1825.heap a1752 cN_2 := F1821.keep Kq1825
             have F1828 : Arv Z T1825.heap ta1757 kt1757 .int (3 : Int32) [(.int (0 : Int32)), (.int (0 : Int32)), (.int (0 : Int32))] (.int (0 : Int32)) := G1819_4.keep Kq1825 (ninS (Ne.symm ne_a1752_ta1757) (ninS (Ne.symm nq1757_0) nin0))
             have Z1825 : n0 ≤ T1825.heap.size := Nat.le_trans Z1819 Kq1825.1
             have K1825 : Keep h0 T1825.heap [] := K1819.trans Kq1825 (allS (Or.inr s_a1752) (allS (Or.inr s_va1757) all0))
             dsimp only [oD1, oD2, oD3, oD4]
             exact J1760 _ _ _ (X1825.more (by decide) (by decide)) rfl N1825 Z1825 K1825 (1 : Int32) (0 : Int32)  F1827 G1825_0 G1825_2 G1825_3 (by have hz1 : (1 : Int32).toInt = 1 := (by decide); have hz2 : (0 : Int32).toInt = 0 := (by decide); omega)
            ·have z1824 := s1824
             refine w_aload X1819 hx (.ref a1752) (dB at_160) 162 rfl rfl rfl ?_
             refine w_iload X1819 hx v1746 (dB at_162) 164 rfl rfl ?_
             refine w_virt X1819 hx hZ hown rfl (rm6ge1 l Z a0 hw [] a1752 v1746 T1819.heap n0 Z1819 G1819_2 (by omega)) (tw_39 hw) (tw_40 hw) (notFace_of_selects (args := #[]) (mvT hZ (tw_42 hw))) (tw_42 hw) (tw_41 hw) (tw_19 hw) (tw_43 hw) (by decide) a1752 F1821 (by rw [hml]; rfl) [(.int v1746)] [] (lenOf pd_2 rfl) rfl rfl (by decide) 0 rfl (by decide) (by decide) (by decide) (dB at_164) 167 rfl (fun r1829 T1829 L1829 X1829 q1829 => ?_)
             obtain ⟨rfl, Nq1829, eq1829⟩ := q1829
             have N1829 := Fr.app N1819 Nq1829
             dsimp only [oD1, oD2, oD3, oD4]
             exact J1773 _ _ _ (X1829.more (by decide) (by decide)) eq1829 N1829 Z1819 K1819 (1 : Int32) v1746  F1821 G1819_0 G1819_2 G1819_3 (by have hz1 : (1 : Int32).toInt = 1 := (by decide); omega)
           ·exfalso; omega
          ·exfalso; omega
        ·obtain rfl : v1744 = (2 : Int32) := eqI (s1812.trans (by decide))
         have z1812 : (2 : Int32).toInt = 2 := by decide
         refine w_iload X1757 hx (2 : Int32) (dB at_116) 118 rfl rfl ?_
         refine w_if_le X1757 hx 2 (by decide) (dB at_118) 130 121 (fun c1830 => ?_) (fun c1830 => ?_)
         ·exfalso; omega
         ·refine w_aload X1757 hx (.ref a1752) (dB at_121) 123 rfl rfl rfl ?_
          refine w_iload X1757 hx (0 : Int32) (dB at_123) 125 rfl rfl ?_
          refine w_aload X1757 hx (.ref a1747) (dB at_125) 127 rfl rfl rfl ?_
          refine w_virt X1757 hx hZ hown rfl (rm5ti0 l Z a0 hw [] a1752 a1747 va1757 ta1757 kv1757 kt1757 T1757.heap n0 Z1757 F1759 G1757_0 G1757_1 G1757_2 G1757_3 G1757_4 F1758 g_a1752 g_ta1757 g_va1757 (by exact nq1757_0) (by exact ov1757_0)) (tw_31 hw) (tw_32 hw) (notFace_of_selects (args := #[]) (mvT hZ (tw_34 hw))) (tw_34 hw) (tw_33 hw) (tw_19 hw) (tw_35 hw) (by decide) a1752 F1759 (by rw [hml]; rfl) [(.int (0 : Int32)), (.ref a1747)] [] (lenOf pd_6 rfl) rfl rfl (by decide) 0 rfl (by decide) (by decide) (by decide) (dB at_127) 130 rfl (fun r1831 T1831 L1831 X1831 q1831 => ?_)
          obtain ⟨rfl, Nq1831, Kq1831, G1831_0, G1831_1, G1831_2, G1831_3, G1831_4⟩ := q1831
          have N1831 := Fr.app N1757 Nq1831
          have F1832 : Exa Z T1831.heap a1747 cN_1 := F1758.keep Kq1831
          have F1833 : Exa Z T1831.heap a1752 cN_2 := F1759.keep Kq1831
          have Z1831 : n0 ≤ T1831.heap.size := Nat.le_trans Z1757 Kq1831.1
          have K1831 : Keep h0 T1831.heap [] := K1757.trans Kq1831 (allS (Or.inr s_a1752) (allS (Or.inr s_ta1757) (allS (Or.inr s_va1757) all0)))
          dsimp only [oD1, oD2, oD3, oD4]
          refine w_iload X1831 hx (2 : Int32) (dB at_130) 132 rfl rfl ?_
          refine w_iconst X1831 hx (dB at_132) 133 rfl (1 : Int32) (by decide) ?_
          refine w_icmp_le X1831 hx 2 1 (by decide) (by decide) (dB at_133) 145 136 (fun c1834 => ?_) (fun c1834 => ?_)
          ·exfalso; omega
          ·refine w_aload X1831 hx (.ref a1752) (dB at_136) 138 rfl rfl rfl ?_
           refine w_iload X1831 hx (2 : Int32) (dB at_138) 140 rfl rfl ?_
           refine w_aload X1831 hx (.ref a1747) (dB at_140) 142 rfl rfl rfl ?_
           refine w_virt X1831 hx hZ hown rfl (rm5t0i2 l Z a0 hw [] a1752 a1747 va1757 ta1757 kv1757 kt1757 T1831.heap n0 Z1831 F1833 G1831_0 G1831_1 G1831_2 G1831_3 G1831_4 F1832 g_a1752 g_ta1757 g_va1757 (by exact nq1757_0) (by exact ov1757_0)) (tw_31 hw) (tw_32 hw) (notFace_of_selects (args := #[]) (mvT hZ (tw_34 hw))) (tw_34 hw) (tw_33 hw) (tw_19 hw) (tw_35 hw) (by decide) a1752 F1833 (by rw [hml]; rfl) [(.int (2 : Int32)), (.ref a1747)] [] (lenOf pd_6 rfl) rfl rfl (by decide) 0 rfl (by decide) (by decide) (by decide) (dB at_142) 145 rfl (fun r1835 T1835 L1835 X1835 q1835 => ?_)
           obtain ⟨rfl, Nq1835, Kq1835, G1835_0, G1835_1, G1835_2, G1835_3, G1835_4⟩ := q1835
           have N1835 := Fr.app N1831 Nq1835
           have F1836 : Exa Z T1835.heap a1747 cN_1 := F1832.keep Kq1835
           have F1837 : Exa Z T1835.heap a1752 cN_2 := F1833.keep Kq1835
           have Z1835 : n0 ≤ T1835.heap.size := Nat.le_trans Z1831 Kq1835.1
           have K1835 : Keep h0 T1835.heap [] := K1831.trans Kq1835 (allS (Or.inr s_a1752) (allS (Or.inr s_ta1757) (allS (Or.inr s_va1757) all0)))
           dsimp only [oD1, oD2, oD3, oD4]
           refine w_iload X1835 hx (2 : Int32) (dB at_145) 147 rfl rfl ?_
           refine w_iconst X1835 hx (dB at_147) 148 rfl (2 : Int32) (by decide) ?_
           refine w_icmp_le X1835 hx 2 2 (by decide) (by decide) (dB at_148) 160 151 (fun c1838 => ?_) (fun c1838 => ?_)
           ·have s1839 : v1746.toInt = 0 ∨ v1746.toInt = 1 ∨ 2 ≤ v1746.toInt := by omega
            rcases s1839 with s1839 | s1839 | s1839
            ·obtain rfl : v1746 = (0 : Int32) := eqI (s1839.trans (by decide))
             have z1839 : (0 : Int32).toInt = 0 := by decide
             refine w_aload X1835 hx (.ref a1752) (dB at_160) 162 rfl rfl rfl ?_
             refine w_iload X1835 hx (0 : Int32) (dB at_162) 164 rfl rfl ?_
             refine w_virt X1835 hx hZ hown rfl (rm6t02m0 l Z a0 hw [] a1752 va1757 ta1757 kv1757 kt1757 a1747 T1835.heap n0 Z1835 F1837 G1835_0 G1835_1 G1835_2 G1835_3 G1835_4 g_a1752 g_va1757 (by exact nq1757_0) (by exact ov1757_0)) (tw_39 hw) (tw_40 hw) (notFace_of_selects (args := #[]) (mvT hZ (tw_42 hw))) (tw_42 hw) (tw_41 hw) (tw_19 hw) (tw_43 hw) (by decide) a1752 F1837 (by rw [hml]; rfl) [(.int (0 : Int32))] [] (lenOf pd_2 rfl) rfl rfl (by decide) 0 rfl (by decide) (by decide) (by decide) (dB at_164) 167 rfl (fun r1840 T1840 L1840 X1840 q1840 => ?_)
             obtain ⟨rfl, Nq1840, Kq1840, G1840_0, G1840_1, G1840_2, G1840_3, G1840_4⟩ := q1840
             have N1840 := Fr.app N1835 Nq1840
             have F1841 : Exa Z T1840.heap a1747 cN_1 := F1836.keep Kq1840
             have F1842 : Exa Z T1840.heap a1752 cN_2 := F1837.keep Kq1840
             have F1843 : Arv Z T1840.heap ta1757 kt1757 .int (3 : Int32) [(.int (0 : Int32)), (.int (2 : Int32)), (.int (0 : Int32))] (.int (0 : Int32)) := G1835_4.keep Kq1840 (ninS (Ne.symm ne_a1752_ta1757) (ninS (Ne.symm nq1757_0) nin0))
             have Z1840 : n0 ≤ T1840.heap.size := Nat.le_trans Z1835 Kq1840.1
             have K1840 : Keep h0 T1840.heap [] := K1835.trans Kq1840 (allS (Or.inr s_a1752) (allS (Or.inr s_va1757) all0))
             dsimp only [oD1, oD2, oD3, oD4]
             exact J1760 _ _ _ (X1840.more (by decide) (by decide)) rfl N1840 Z1840 K1840 (2 : Int32) (0 : Int32)  F1842 G1840_0 G1840_2 G1840_3 (by have hz1 : (2 : Int32).toInt = 2 := (by decide); have hz2 : (0 : Int32).toInt = 0 := (by decide); omega)
            ·obtain rfl : v1746 = (1 : Int32) := eqI (s1839.trans (by decide))
             have z1839 : (1 : Int32).toInt = 1 := by decide
             refine w_aload X1835 hx (.ref a1752) (dB at_160) 162 rfl rfl rfl ?_
             refine w_iload X1835 hx (1 : Int32) (dB at_162) 164 rfl rfl ?_
             refine w_virt X1835 hx hZ hown rfl (rm6t02m1 l Z a0 hw [] a1752 va1757 ta1757 kv1757 kt1757 a1747 T1835.heap n0 Z1835 F1837 G1835_0 G1835_1 G1835_2 G1835_3 G1835_4 g_a1752 g_va1757 (by exact nq1757_0) (by exact ov1757_0)) (tw_39 hw) (tw_40 hw) (notFace_of_selects (args := #[]) (mvT hZ (tw_42 hw))) (tw_42 hw) (tw_41 hw) (tw_19 hw) (tw_43 hw) (by decide) a1752 F1837 (by rw [hml]; rfl) [(.int (1 : Int32))] [] (lenOf pd_2 rfl) rfl rfl (by decide) 0 rfl (by decide) (by decide) (by decide) (dB at_164) 167 rfl (fun r1844 T1844 L1844 X1844 q1844 => ?_)
             obtain ⟨rfl, Nq1844, Kq1844, G1844_0, G1844_1, G1844_2, G1844_3, G1844_4⟩ := q1844
             have N1844 := Fr.app N1835 Nq1844
             have F1845 : Exa Z T1844.heap a1747 cN_1 := F1836.keep Kq1844
             have F1846 : Exa Z T1844.heap a1752 cN_2 := F1837.keep Kq1844
             have F1847 : Arv Z T1844.heap ta1757 kt1757 .int (3 : Int32) [(.int (0 : Int32)), (.int (2 : Int32)), (.int (0 : Int32))] (.int (0 : Int32)) := G1835_4.keep Kq1844 (ninS (Ne.symm ne_a1752_ta1757) (ninS (Ne.symm nq1757_0) nin0))
             have Z1844 : n0 ≤ T1844.heap.size := Nat.le_trans Z1835 Kq1844.1
             have K1844 : Keep h0 T1844.heap [] := K1835.trans Kq1844 (allS (Or.inr s_a1752) (allS (Or.inr s_va1757) all0))
             dsimp only [oD1, oD2, oD3, oD4]
             exact J1773 _ _ _ (X1844.more (by decide) (by decide)) rfl N1844 Z1844 K1844 (2 : Int32) (1 : Int32)  F1846 G1844_0 G1844_2 G1844_3 (by have hz1 : (2 : Int32).toInt = 2 := (by decide); have hz2 : (1 : Int32).toInt = 1 := (by decide); omega)
            ·have z1839 := s1839
             refine w_aload X1835 hx (.ref a1752) (dB at_160) 162 rfl rfl rfl ?_
             refine w_iload X1835 hx v1746 (dB at_162) 164 rfl rfl ?_
             refine w_virt X1835 hx hZ hown rfl (rm6ge2 l Z a0 hw [] a1752 v1746 T1835.heap n0 Z1835 G1835_2 (by omega)) (tw_39 hw) (tw_40 hw) (notFace_of_selects (args := #[]) (mvT hZ (tw_42 hw))) (tw_42 hw) (tw_41 hw) (tw_19 hw) (tw_43 hw) (by decide) a1752 F1837 (by rw [hml]; rfl) [(.int v1746)] [] (lenOf pd_2 rfl) rfl rfl (by decide) 0 rfl (by decide) (by decide) (by decide) (dB at_164) 167 rfl (fun r1848 T1848 L1848 X1848 q1848 => ?_)
             obtain ⟨rfl, Nq1848, eq1848⟩ := q1848
             have N1848 := Fr.app N1835 Nq1848
             dsimp only [oD1, oD2, oD3, oD4]
             exact J1786 _ _ _ (X1848.more (by decide) (by decide)) eq1848 N1848 Z1835 K1835 (2 : Int32) v1746  F1837 G1835_0 G1835_2 G1835_3 (by have hz1 : (2 : Int32).toInt = 2 := (by decide); omega)
           ·exfalso; omega
        ·obtain rfl : v1744 = (3 : Int32) := eqI (s1812.trans (by decide))
         have z1812 : (3 : Int32).toInt = 3 := by decide
         refine w_iload X1757 hx (3 : Int32) (dB at_116) 118 rfl rfl ?_
         refine w_if_le X1757 hx 3 (by decide) (dB at_118) 130 121 (fun c1849 => ?_) (fun c1849 => ?_)
         ·exfalso; omega
         ·refine w_aload X1757 hx (.ref a1752) (dB at_121) 123 rfl rfl rfl ?_
          refine w_iload X1757 hx (0 : Int32) (dB at_123) 125 rfl rfl ?_
          refine w_aload X1757 hx (.ref a1747) (dB at_125) 127 rfl rfl rfl ?_
          refine w_virt X1757 hx hZ hown rfl (rm5ti0 l Z a0 hw [] a1752 a1747 va1757 ta1757 kv1757 kt1757 T1757.heap n0 Z1757 F1759 G1757_0 G1757_1 G1757_2 G1757_3 G1757_4 F1758 g_a1752 g_ta1757 g_va1757 (by exact nq1757_0) (by exact ov1757_0)) (tw_31 hw) (tw_32 hw) (notFace_of_selects (args := #[]) (mvT hZ (tw_34 hw))) (tw_34 hw) (tw_33 hw) (tw_19 hw) (tw_35 hw) (by decide) a1752 F1759 (by rw [hml]; rfl) [(.int (0 : Int32)), (.ref a1747)] [] (lenOf pd_6 rfl) rfl rfl (by decide) 0 rfl (by decide) (by decide) (by decide) (dB at_127) 130 rfl (fun r1850 T1850 L1850 X1850 q1850 => ?_)
          obtain ⟨rfl, Nq1850, Kq1850, G1850_0, G1850_1, G1850_2, G1850_3, G1850_4⟩ := q1850
          have N1850 := Fr.app N1757 Nq1850
          have F1851 : Exa Z T1850.heap a1747 cN_1 := F1758.keep Kq1850
          have F1852 : Exa Z T1850.heap a1752 cN_2 := F1759.keep Kq1850
          have Z1850 : n0 ≤ T1850.heap.size := Nat.le_trans Z1757 Kq1850.1
          have K1850 : Keep h0 T1850.heap [] := K1757.trans Kq1850 (allS (Or.inr s_a1752) (allS (Or.inr s_ta1757) (allS (Or.inr s_va1757) all0)))
          dsimp only [oD1, oD2, oD3, oD4]
          refine w_iload X1850 hx (3 : Int32) (dB at_130) 132 rfl rfl ?_
          refine w_iconst X1850 hx (dB at_132) 133 rfl (1 : Int32) (by decide) ?_
          refine w_icmp_le X1850 hx 3 1 (by decide) (by decide) (dB at_133) 145 136 (fun c1853 => ?_) (fun c1853 => ?_)
          ·exfalso; omega
          ·refine w_aload X1850 hx (.ref a1752) (dB at_136) 138 rfl rfl rfl ?_
           refine w_iload X1850 hx (2 : Int32) (dB at_138) 140 rfl rfl ?_
           refine w_aload X1850 hx (.ref a1747) (dB at_140) 142 rfl rfl rfl ?_
           refine w_virt X1850 hx hZ hown rfl (rm5t0i2 l Z a0 hw [] a1752 a1747 va1757 ta1757 kv1757 kt1757 T1850.heap n0 Z1850 F1852 G1850_0 G1850_1 G1850_2 G1850_3 G1850_4 F1851 g_a1752 g_ta1757 g_va1757 (by exact nq1757_0) (by exact ov1757_0)) (tw_31 hw) (tw_32 hw) (notFace_of_selects (args := #[]) (mvT hZ (tw_34 hw))) (tw_34 hw) (tw_33 hw) (tw_19 hw) (tw_35 hw) (by decide) a1752 F1852 (by rw [hml]; rfl) [(.int (2 : Int32)), (.ref a1747)] [] (lenOf pd_6 rfl) rfl rfl (by decide) 0 rfl (by decide) (by decide) (by decide) (dB at_142) 145 rfl (fun r1854 T1854 L1854 X1854 q1854 => ?_)
           obtain ⟨rfl, Nq1854, Kq1854, G1854_0, G1854_1, G1854_2, G1854_3, G1854_4⟩ := q1854
           have N1854 := Fr.app N1850 Nq1854
           have F1855 : Exa Z T1854.heap a1747 cN_1 := F1851.keep Kq1854
           have F1856 : Exa Z T1854.heap a1752 cN_2 := F1852.keep Kq1854
           have Z1854 : n0 ≤ T1854.heap.size := Nat.le_trans Z1850 Kq1854.1
           have K1854 : Keep h0 T1854.heap [] := K1850.trans Kq1854 (allS (Or.inr s_a1752) (allS (Or.inr s_ta1757) (allS (Or.inr s_va1757) all0)))
           dsimp only [oD1, oD2, oD3, oD4]
           refine w_iload X1854 hx (3 : Int32) (dB at_145) 147 rfl rfl ?_
           refine w_iconst X1854 hx (dB at_147) 148 rfl (2 : Int32) (by decide) ?_
           refine w_icmp_le X1854 hx 3 2 (by decide) (by decide) (dB at_148) 160 151 (fun c1857 => ?_) (fun c1857 => ?_)
           ·exfalso; omega
           ·refine w_aload X1854 hx (.ref a1752) (dB at_151) 153 rfl rfl rfl ?_
            refine w_iload X1854 hx (1 : Int32) (dB at_153) 155 rfl rfl ?_
            refine w_aload X1854 hx (.ref a1747) (dB at_155) 157 rfl rfl rfl ?_
            refine w_virt X1854 hx hZ hown rfl (rm5t02i1 l Z a0 hw [] a1752 a1747 va1757 ta1757 kv1757 kt1757 T1854.heap n0 Z1854 F1856 G1854_0 G1854_1 G1854_2 G1854_3 G1854_4 F1855 g_a1752 g_ta1757 g_va1757 (by exact nq1757_0) (by exact ov1757_0)) (tw_31 hw) (tw_32 hw) (notFace_of_selects (args := #[]) (mvT hZ (tw_34 hw))) (tw_34 hw) (tw_33 hw) (tw_19 hw) (tw_35 hw) (by decide) a1752 F1856 (by rw [hml]; rfl) [(.int (1 : Int32)), (.ref a1747)] [] (lenOf pd_6 rfl) rfl rfl (by decide) 0 rfl (by decide) (by decide) (by decide) (dB at_157) 160 rfl (fun r1858 T1858 L1858 X1858 q1858 => ?_)
            obtain ⟨rfl, Nq1858, Kq1858, G1858_0, G1858_1, G1858_2, G1858_3, G1858_4⟩ := q1858
            have N1858 := Fr.app N1854 Nq1858
            have F1859 : Exa Z T1858.heap a1747 cN_1 := F1855.keep Kq1858
            have F1860 : Exa Z T1858.heap a1752 cN_2 := F1856.keep Kq1858
            have Z1858 : n0 ≤ T1858.heap.size := Nat.le_trans Z1854 Kq1858.1
            have K1858 : Keep h0 T1858.heap [] := K1854.trans Kq1858 (allS (Or.inr s_a1752) (allS (Or.inr s_ta1757) (allS (Or.inr s_va1757) all0)))
            dsimp only [oD1, oD2, oD3, oD4]
            have s1861 : v1746.toInt = 0 ∨ v1746.toInt = 1 ∨ v1746.toInt = 2 ∨ 3 ≤ v1746.toInt := by omega
            rcases s1861 with s1861 | s1861 | s1861 | s1861
            ·obtain rfl : v1746 = (0 : Int32) := eqI (s1861.trans (by decide))
             have z1861 : (0 : Int32).toInt = 0 := by decide
             refine w_aload X1858 hx (.ref a1752) (dB at_160) 162 rfl rfl rfl ?_
             refine w_iload X1858 hx (0 : Int32) (dB at_162) 164 rfl rfl ?_
             refine w_virt X1858 hx hZ hown rfl (rm6t021m0 l Z a0 hw [] a1752 va1757 ta1757 kv1757 kt1757 a1747 T1858.heap n0 Z1858 F1860 G1858_0 G1858_1 G1858_2 G1858_3 G1858_4 g_a1752 g_va1757 (by exact nq1757_0) (by exact ov1757_0)) (tw_39 hw) (tw_40 hw) (notFace_of_selects (args := #[]) (mvT hZ (tw_42 hw))) (tw_42 hw) (tw_41 hw) (tw_19 hw) (tw_43 hw) (by decide) a1752 F1860 (by rw [hml]; rfl) [(.int (0 : Int32))] [] (lenOf pd_2 rfl) rfl rfl (by decide) 0 rfl (by decide) (by decide) (by decide) (dB at_164) 167 rfl (fun r1862 T1862 L1862 X1862 q1862 => ?_)
             obtain ⟨rfl, Nq1862, Kq1862, G1862_0, G1862_1, G1862_2, G1862_3, G1862_4⟩ := q1862
             have N1862 := Fr.app N1858 Nq1862
             have F1863 : Exa Z T1862.heap a1747 cN_1 := F1859.keep Kq1862
             have F1864 : Exa Z T1862.heap a1752 cN_2 := F1860.keep Kq1862
             have F1865 : Arv Z T1862.heap ta1757 kt1757 .int (3 : Int32) [(.int (0 : Int32)), (.int (2 : Int32)), (.int (1 : Int32))] (.int (0 : Int32)) := G1858_4.keep Kq1862 (ninS (Ne.symm ne_a1752_ta1757) (ninS (Ne.symm nq1757_0) nin0))
             have Z1862 : n0 ≤ T1862.heap.size := Nat.le_trans Z1858 Kq1862.1
             have K1862 : Keep h0 T1862.heap [] := K1858.trans Kq1862 (allS (Or.inr s_a1752) (allS (Or.inr s_va1757) all0))
             dsimp only [oD1, oD2, oD3, oD4]
             exact J1760 _ _ _ (X1862.more (by decide) (by decide)) rfl N1862 Z1862 K1862 (3 : Int32) (0 : Int32)  F1864 G1862_0 G1862_2 G1862_3 (by have hz1 : (3 : Int32).toInt = 3 := (by decide); have hz2 : (0 : Int32).toInt = 0 := (by decide); omega)
            ·obtain rfl : v1746 = (1 : Int32) := eqI (s1861.trans (by decide))
             have z1861 : (1 : Int32).toInt = 1 := by decide
             refine w_aload X1858 hx (.ref a1752) (dB at_160) 162 rfl rfl rfl ?_
             refine w_iload X1858 hx (1 : Int32) (dB at_162) 164 rfl rfl ?_
             refine w_virt X1858 hx hZ hown rfl (rm6t021m1 l Z a0 hw [] a1752 va1757 ta1757 kv1757 kt1757 a1747 T1858.heap n0 Z1858 F1860 G1858_0 G1858_1 G1858_2 G1858_3 G1858_4 g_a1752 g_va1757 (by exact nq1757_0) (by exact ov1757_0)) (tw_39 hw) (tw_40 hw) (notFace_of_selects (args := #[]) (mvT hZ (tw_42 hw))) (tw_42 hw) (tw_41 hw) (tw_19 hw) (tw_43 hw) (by decide) a1752 F1860 (by rw [hml]; rfl) [(.int (1 : Int32))] [] (lenOf pd_2 rfl) rfl rfl (by decide) 0 rfl (by decide) (by decide) (by decide) (dB at_164) 167 rfl (fun r1866 T1866 L1866 X1866 q1866 => ?_)
             obtain ⟨rfl, Nq1866, Kq1866, G1866_0, G1866_1, G1866_2, G1866_3, G1866_4⟩ := q1866
             have N1866 := Fr.app N1858 Nq1866
             have F1867 : Exa Z T1866.heap a1747 cN_1 := F1859.keep Kq1866
             have F1868 : Exa Z T1866.heap a1752 cN_2 := F1860.keep Kq1866
             have F1869 : Arv Z T1866.heap ta1757 kt1757 .int (3 : Int32) [(.int (0 : Int32)), (.int (2 : Int32)), (.int (1 : Int32))] (.int (0 : Int32)) := G1858_4.keep Kq1866 (ninS (Ne.symm ne_a1752_ta1757) (ninS (Ne.symm nq1757_0) nin0))
             have Z1866 : n0 ≤ T1866.heap.size := Nat.le_trans Z1858 Kq1866.1
             have K1866 : Keep h0 T1866.heap [] := K1858.trans Kq1866 (allS (Or.inr s_a1752) (allS (Or.inr s_va1757) all0))
             dsimp only [oD1, oD2, oD3, oD4]
             exact J1773 _ _ _ (X1866.more (by decide) (by decide)) rfl N1866 Z1866 K1866 (3 : Int32) (1 : Int32)  F1868 G1866_0 G1866_2 G1866_3 (by have hz1 : (3 : Int32).toInt = 3 := (by decide); have hz2 : (1 : Int32).toInt = 1 := (by decide); omega)
            ·obtain rfl : v1746 = (2 : Int32) := eqI (s1861.trans (by decide))
             have z1861 : (2 : Int32).toInt = 2 := by decide
             refine w_aload X1858 hx (.ref a1752) (dB at_160) 162 rfl rfl rfl ?_
             refine w_iload X1858 hx (2 : Int32) (dB at_162) 164 rfl rfl ?_
             refine w_virt X1858 hx hZ hown rfl (rm6t021m2 l Z a0 hw [] a1752 va1757 ta1757 kv1757 kt1757 a1747 T1858.heap n0 Z1858 F1860 G1858_0 G1858_1 G1858_2 G1858_3 G1858_4 g_a1752 g_va1757 (by exact nq1757_0) (by exact ov1757_0)) (tw_39 hw) (tw_40 hw) (notFace_of_selects (args := #[]) (mvT hZ (tw_42 hw))) (tw_42 hw) (tw_41 hw) (tw_19 hw) (tw_43 hw) (by decide) a1752 F1860 (by rw [hml]; rfl) [(.int (2 : Int32))] [] (lenOf pd_2 rfl) rfl rfl (by decide) 0 rfl (by decide) (by decide) (by decide) (dB at_164) 167 rfl (fun r1870 T1870 L1870 X1870 q1870 => ?_)
             obtain ⟨rfl, Nq1870, Kq1870, G1870_0, G1870_1, G1870_2, G1870_3, G1870_4⟩ := q1870
             have N1870 := Fr.app N1858 Nq1870
             have F1871 : Exa Z T1870.heap a1747 cN_1 := F1859.keep Kq1870
             have F1872 : Exa Z T1870.heap a1752 cN_2 := F1860.keep Kq1870
             have F1873 : Arv Z T1870.heap ta1757 kt1757 .int (3 : Int32) [(.int (0 : Int32)), (.int (2 : Int32)), (.int (1 : Int32))] (.int (0 : Int32)) := G1858_4.keep Kq1870 (ninS (Ne.symm ne_a1752_ta1757) (ninS (Ne.symm nq1757_0) nin0))
             have Z1870 : n0 ≤ T1870.heap.size := Nat.le_trans Z1858 Kq1870.1
             have K1870 : Keep h0 T1870.heap [] := K1858.trans Kq1870 (allS (Or.inr s_a1752) (allS (Or.inr s_va1757) all0))
             dsimp only [oD1, oD2, oD3, oD4]
             exact J1786 _ _ _ (X1870.more (by decide) (by decide)) rfl N1870 Z1870 K1870 (3 : Int32) (2 : Int32)  F1872 G1870_0 G1870_2 G1870_3 (by have hz1 : (3 : Int32).toInt = 3 := (by decide); have hz2 : (2 : Int32).toInt = 2 := (by decide); omega)
            ·have z1861 := s1861
             refine w_aload X1858 hx (.ref a1752) (dB at_160) 162 rfl rfl rfl ?_
             refine w_iload X1858 hx v1746 (dB at_162) 164 rfl rfl ?_
             refine w_virt X1858 hx hZ hown rfl (rm6ge3 l Z a0 hw [] a1752 v1746 T1858.heap n0 Z1858 G1858_2 (by omega)) (tw_39 hw) (tw_40 hw) (notFace_of_selects (args := #[]) (mvT hZ (tw_42 hw))) (tw_42 hw) (tw_41 hw) (tw_19 hw) (tw_43 hw) (by decide) a1752 F1860 (by rw [hml]; rfl) [(.int v1746)] [] (lenOf pd_2 rfl) rfl rfl (by decide) 0 rfl (by decide) (by decide) (by decide) (dB at_164) 167 rfl (fun r1874 T1874 L1874 X1874 q1874 => ?_)
             obtain ⟨rfl, Nq1874, eq1874⟩ := q1874
             have N1874 := Fr.app N1858 Nq1874
             dsimp only [oD1, oD2, oD3, oD4]
             exact J1799 _ _ _ (X1874.more (by decide) (by decide)) eq1874 N1874 Z1858 K1858 (3 : Int32) v1746  F1860 G1858_0 G1858_2 G1858_3 (by have hz1 : (3 : Int32).toInt = 3 := (by decide); omega)
    ·exfalso; omega
  ·obtain rfl : v1599 = (2 : Int32) := eqI (s1600.trans (by decide))
   have z1600 : (2 : Int32).toInt = 2 := by decide
   refine w_iloadN X0 hx (2 : Int32) (dB at_8) 9 rfl rfl ?_
   refine w_iconst X0 hx (dB at_9) 10 rfl (2 : Int32) (by decide) ?_
   refine w_idiv X0 hx (dB at_10) 11 rfl (by decide) (show (1 : Int32) = (2 : Int32) / (2 : Int32) from by decide) ?_
   refine w_istore X0 hx (dB at_11) 13 rfl #[.val (.int xp), .val (.int xq), .val (.int xr), .val (.int (2 : Int32)), .val (.int (1 : Int32)), .unset, .unset, .unset, .unset, .unset, .unset, .unset, .unset, .unset, .unset] rfl ?_
   refine w_iload X0 hx (1 : Int32) (dB at_13) 15 rfl rfl ?_
   refine w_if_ne X0 hx 1 (by decide) (dB at_15) 22 18 (fun c1875 => ?_) (fun c1875 => ?_)
   ·refine w_iconst X0 hx (dB at_22) 23 rfl (0 : Int32) (by decide) ?_
    refine w_istore X0 hx (dB at_23) 25 rfl #[.val (.int xp), .val (.int xq), .val (.int xr), .val (.int (2 : Int32)), .val (.int (1 : Int32)), .val (.int (0 : Int32)), .unset, .unset, .unset, .unset, .unset, .unset, .unset, .unset, .unset] rfl ?_
    refine w_iload X0 hx (1 : Int32) (dB at_25) 27 rfl rfl ?_
    refine w_iconst X0 hx (dB at_27) 28 rfl (2 : Int32) (by decide) ?_
    refine w_icmp_ne X0 hx 1 2 (by decide) (by decide) (dB at_28) 35 31 (fun c1876 => ?_) (fun c1876 => ?_)
    ·refine w_iconst X0 hx (dB at_35) 36 rfl (2 : Int32) (by decide) ?_
     refine w_istore X0 hx (dB at_36) 38 rfl #[.val (.int xp), .val (.int xq), .val (.int xr), .val (.int (2 : Int32)), .val (.int (1 : Int32)), .val (.int (0 : Int32)), .val (.int (2 : Int32)), .unset, .unset, .unset, .unset, .unset, .unset, .unset, .unset] rfl ?_
     refine w_iloadN X0 hx (2 : Int32) (dB at_38) 39 rfl rfl ?_
     refine w_iconst X0 hx (dB at_39) 40 rfl (1 : Int32) (by decide) ?_
     refine w_iand X0 hx (dB at_40) 41 rfl (show (0 : Int32) = (2 : Int32) &&& (1 : Int32) from by decide) ?_
     refine w_if_eq X0 hx 0 (by decide) (dB at_41) 48 44 (fun c1877 => ?_) (fun c1877 => ?_)
     ·refine w_iconst X0 hx (dB at_48) 49 rfl (0 : Int32) (by decide) ?_
      refine w_istore X0 hx (dB at_49) 51 rfl #[.val (.int xp), .val (.int xq), .val (.int xr), .val (.int (2 : Int32)), .val (.int (1 : Int32)), .val (.int (0 : Int32)), .val (.int (2 : Int32)), .val (.int (0 : Int32)), .unset, .unset, .unset, .unset, .unset, .unset, .unset] rfl ?_
      refine w_iload X0 hx (0 : Int32) (dB at_51) 53 rfl rfl ?_
      refine w_if_eq X0 hx 0 (by decide) (dB at_53) 61 56 (fun c1878 => ?_) (fun c1878 => ?_)
      ·refine w_iload X0 hx (0 : Int32) (dB at_61) 63 rfl rfl ?_
       refine w_istore X0 hx (dB at_63) 65 rfl #[.val (.int xp), .val (.int xq), .val (.int xr), .val (.int (2 : Int32)), .val (.int (1 : Int32)), .val (.int (0 : Int32)), .val (.int (2 : Int32)), .val (.int (0 : Int32)), .val (.int (0 : Int32)), .unset, .unset, .unset, .unset, .unset, .unset] rfl ?_
       refine w_iload X0 hx (0 : Int32) (dB at_65) 67 rfl rfl ?_
       refine w_if_eq X0 hx 0 (by decide) (dB at_67) 75 70 (fun c1879 => ?_) (fun c1879 => ?_)
       ·refine w_iload X0 hx (2 : Int32) (dB at_75) 77 rfl rfl ?_
        refine w_istore X0 hx (dB at_77) 79 rfl #[.val (.int xp), .val (.int xq), .val (.int xr), .val (.int (2 : Int32)), .val (.int (1 : Int32)), .val (.int (0 : Int32)), .val (.int (2 : Int32)), .val (.int (0 : Int32)), .val (.int (0 : Int32)), .val (.int (2 : Int32)), .unset, .unset, .unset, .unset, .unset] rfl ?_
        refine w_iloadN X0 hx xq (dB at_79) 80 rfl rfl ?_
        refine w_ldc X0 hx hZ hown (tw_0 hw) (dB at_80) 82 rfl ?_
        obtain ⟨v1880, e1880⟩ : ∃ z : Int32, z = xq &&& (2147483647 : Int32) := ⟨_, rfl⟩
        have n1880 : v1880.toInt = xq.toInt % 2147483648 := by rw [e1880]; exact maskX 31 rfl (by decide) (by decide)
        refine w_iand X0 hx (dB at_82) 83 rfl e1880 ?_
        refine w_iconst X0 hx (dB at_83) 84 rfl (4 : Int32) (by decide) ?_
        obtain ⟨v1881, e1881⟩ : ∃ z : Int32, z = v1880 % (4 : Int32) := ⟨_, rfl⟩
        have n1881 : v1881.toInt = v1880.toInt % 4 := by rw [e1881]; exact iremX rfl (by decide) (by omega)
        refine w_irem X0 hx (dB at_84) 85 rfl (by decide) e1881 ?_
        refine w_istore X0 hx (dB at_85) 87 rfl #[.val (.int xp), .val (.int xq), .val (.int xr), .val (.int (2 : Int32)), .val (.int (1 : Int32)), .val (.int (0 : Int32)), .val (.int (2 : Int32)), .val (.int (0 : Int32)), .val (.int (0 : Int32)), .val (.int (2 : Int32)), .val (.int v1881), .unset, .unset, .unset, .unset] rfl ?_
        refine w_iloadN X0 hx xr (dB at_87) 88 rfl rfl ?_
        refine w_ldc X0 hx hZ hown (tw_0 hw) (dB at_88) 90 rfl ?_
        obtain ⟨v1882, e1882⟩ : ∃ z : Int32, z = xr &&& (2147483647 : Int32) := ⟨_, rfl⟩
        have n1882 : v1882.toInt = xr.toInt % 2147483648 := by rw [e1882]; exact maskX 31 rfl (by decide) (by decide)
        refine w_iand X0 hx (dB at_90) 91 rfl e1882 ?_
        refine w_iconst X0 hx (dB at_91) 92 rfl (5 : Int32) (by decide) ?_
        obtain ⟨v1883, e1883⟩ : ∃ z : Int32, z = v1882 % (5 : Int32) := ⟨_, rfl⟩
        have n1883 : v1883.toInt = v1882.toInt % 5 := by rw [e1883]; exact iremX rfl (by decide) (by omega)
        refine w_irem X0 hx (dB at_92) 93 rfl (by decide) e1883 ?_
        refine w_istore X0 hx (dB at_93) 95 rfl #[.val (.int xp), .val (.int xq), .val (.int xr), .val (.int (2 : Int32)), .val (.int (1 : Int32)), .val (.int (0 : Int32)), .val (.int (2 : Int32)), .val (.int (0 : Int32)), .val (.int (0 : Int32)), .val (.int (2 : Int32)), .val (.int v1881), .val (.int v1883), .unset, .unset, .unset] rfl ?_
        refine w_new X0 hx hZ hown e0 (tw_1 hw) (tw_2 hw) (tw_3 hw) (by decide) (by decide) (dB at_95) 98 rfl (fun T1884 h1884 a1884 X1884 e1884 g1884 E1884 A1884 D1884 => ?_)
        have g_a1884 : n0 ≤ a1884 := Nat.le_trans Z0 (Nat.le_of_eq g1884.symm)
        have s_a1884 : h0.size ≤ a1884 := Nat.le_trans (Keep.refl h0 []).1 (Nat.le_of_eq g1884.symm)
        have Z1884 : n0 ≤ h1884.size := Nat.le_trans Z0 E1884.1
        have K1884 : Keep h0 h1884 [] := (Keep.refl h0 []).ext E1884
        have F1885 : Fld Z h1884 a1884 cN_1 "value" "J" (.long (0 : Int64)) := D1884 (Or.inr (tw_16 hw)) (ty := .long) (by decide)
        refine w_dup X1884 hx (dB at_98) 99 rfl rfl ?_
        refine w_iloadN X1884 hx xq (dB at_99) 100 rfl rfl ?_
        obtain ⟨v1886, e1886⟩ : ∃ z : Int64, z = xq.toInt64 := ⟨_, rfl⟩
        have n1886 : v1886.toInt = xq.toInt := by rw [e1886]; exact i2lX rfl
        refine w_i2l X1884 hx (dB at_100) 101 rfl e1886 ?_
        refine w_init X1884 hx hZ rfl hown e1884 (rm1 l Z a0 hw [] a1884 v1886 h1884 n0 Z1884 A1884 F1885 g_a1884) (tw_4 hw) (tw_5 hw) (tw_3 hw) (tw_6 hw) (by decide) (by rw [hml]; rfl) a1884 [(.long v1886)] [(.ref a1884)] (lenOf pd_1 rfl) rfl rfl (by decide) 1 rfl (by decide) (by decide) (by decide) (dB at_101) 104 rfl (fun r1887 T1887 L1887 X1887 q1887 => ?_)
        obtain ⟨rfl, Nq1887, Kq1887⟩ := q1887
        have N1887 := Fr.app N0 Nq1887
        have F1888 : Exa Z T1887.heap a1884 cN_1 := A1884.keep Kq1887
        have Z1887 : n0 ≤ T1887.heap.size := Nat.le_trans Z1884 Kq1887.1
        have K1887 : Keep h0 T1887.heap [] := K1884.trans Kq1887 (allS (Or.inr s_a1884) all0)
        dsimp only [oD1, oD2, oD3, oD4]
        refine w_astore X1887 hx (dB at_104) 106 rfl rfl #[.val (.int xp), .val (.int xq), .val (.int xr), .val (.int (2 : Int32)), .val (.int (1 : Int32)), .val (.int (0 : Int32)), .val (.int (2 : Int32)), .val (.int (0 : Int32)), .val (.int (0 : Int32)), .val (.int (2 : Int32)), .val (.int v1881), .val (.int v1883), .val (.ref a1884), .unset, .unset] rfl ?_
        refine w_new X1887 hx hZ hown rfl (tw_17 hw) (tw_18 hw) (tw_19 hw) (by decide) (by decide) (dB at_106) 109 rfl (fun T1889 h1889 a1889 X1889 e1889 g1889 E1889 A1889 D1889 => ?_)
        have ne_a1884_a1889 : a1884 ≠ a1889 := Nat.ne_of_lt (Nat.lt_of_lt_of_le F1888.lt (Nat.le_of_eq g1889.symm))
        have g_a1889 : n0 ≤ a1889 := Nat.le_trans Z1887 (Nat.le_of_eq g1889.symm)
        have s_a1889 : h0.size ≤ a1889 := Nat.le_trans K1887.1 (Nat.le_of_eq g1889.symm)
        have F1890 : Exa Z h1889 a1884 cN_1 := F1888.ext E1889
        have Z1889 : n0 ≤ h1889.size := Nat.le_trans Z1887 E1889.1
        have K1889 : Keep h0 h1889 [] := K1887.ext E1889
        have F1891 : Fld Z h1889 a1889 cN_2 "values" cN_3 .null := D1889 (Or.inr (tw_27 hw)) (ty := (.array (.object "com/example/simpagation/simpagation/Term"))) (by decide)
        have F1892 : Fld Z h1889 a1889 cN_2 "trail" "[I" .null := D1889 (Or.inr (tw_30 hw)) (ty := (.array .int)) (by decide)
        have F1893 : Fld Z h1889 a1889 cN_2 "trailSize" "I" (.int (0 : Int32)) := D1889 (Or.inl (tw_37 hw)) (ty := .int) (by decide)
        refine w_dup X1889 hx (dB at_109) 110 rfl rfl ?_
        refine w_iconst X1889 hx (dB at_110) 111 rfl (3 : Int32) (by decide) ?_
        refine w_init X1889 hx hZ rfl hown e1889 (rm4 l Z a0 hw [] a1889 h1889 n0 Z1889 A1889 F1891 F1892 F1893 g_a1889) (tw_20 hw) (tw_21 hw) (tw_19 hw) (tw_22 hw) (by decide) (by rw [hml]; rfl) a1889 [(.int (3 : Int32))] [(.ref a1889)] (lenOf pd_2 rfl) rfl rfl (by decide) 1 rfl (by decide) (by decide) (by decide) (dB at_111) 114 rfl (fun r1894 T1894 L1894 X1894 q1894 => ?_)
        obtain ⟨va1894, ta1894, kv1894, kt1894, rfl, Nq1894, Kq1894, sq1894_0, sq1894_1, nq1894_0, ov1894_0, G1894_0, G1894_1, G1894_2, G1894_3, G1894_4⟩ := q1894
        have N1894 := Fr.app N1887 Nq1894
        have ne_a1884_va1894 : a1884 ≠ va1894 := Nat.ne_of_lt (Nat.lt_of_lt_of_le F1890.lt sq1894_0)
        have ne_a1889_va1894 : a1889 ≠ va1894 := Nat.ne_of_lt (Nat.lt_of_lt_of_le A1889.lt sq1894_0)
        have g_va1894 : n0 ≤ va1894 := Nat.le_trans Z1889 sq1894_0
        have s_va1894 : h0.size ≤ va1894 := Nat.le_trans K1889.1 sq1894_0
        have ne_a1884_ta1894 : a1884 ≠ ta1894 := Nat.ne_of_lt (Nat.lt_of_lt_of_le F1890.lt sq1894_1)
        have ne_a1889_ta1894 : a1889 ≠ ta1894 := Nat.ne_of_lt (Nat.lt_of_lt_of_le A1889.lt sq1894_1)
        have g_ta1894 : n0 ≤ ta1894 := Nat.le_trans Z1889 sq1894_1
        have s_ta1894 : h0.size ≤ ta1894 := Nat.le_trans K1889.1 sq1894_1
        have F1895 : Exa Z T1894.heap a1884 cN_1 := F1890.keep Kq1894
        have F1896 : Exa Z T1894.heap a1889 cN_2 := A1889.keep Kq1894
        have Z1894 : n0 ≤ T1894.heap.size := Nat.le_trans Z1889 Kq1894.1
        have K1894 : Keep h0 T1894.heap [] := K1889.trans Kq1894 (allS (Or.inr s_a1889) all0)
        dsimp only [oD1, oD2, oD3, oD4]
        refine w_astore X1894 hx (dB at_114) 116 rfl rfl #[.val (.int xp), .val (.int xq), .val (.int xr), .val (.int (2 : Int32)), .val (.int (1 : Int32)), .val (.int (0 : Int32)), .val (.int (2 : Int32)), .val (.int (0 : Int32)), .val (.int (0 : Int32)), .val (.int (2 : Int32)), .val (.int v1881), .val (.int v1883), .val (.ref a1884), .val (.ref a1889), .unset] rfl ?_
        have J1897 : ∀ (T' : State) (h' : Heap) (L' : List Loc) (_ : Stand p l e room_1 s m #[(.int xp), (.int xq), (.int xr)] below meth c T' L' 4 10) (_ : T'.heap = h') (_ : Fr n0 L') (_ : n0 ≤ h'.size) (_ : Keep h0 h' []) (j1897_0 : Int32) (j1897_1 : Int32) , (Exa Z h' a1889 cN_2) → (Fld Z h' a1889 cN_2 "values" cN_3 (.ref va1894)) → (Fld Z h' a1889 cN_2 "trailSize" "I" (.int (0 : Int32))) → (Arv Z h' va1894 kv1894 (.object cN_4) (3 : Int32) [.null, .null, .null] .null) → (0 ≤ j1897_0.toInt ∧ j1897_0.toInt ≤ 3 ∧ 0 ≤ j1897_1.toInt ∧ j1897_1.toInt ≤ 4 ∧ ((j1897_0.toInt ≤ j1897_1.toInt ∧ j1897_0.toInt = 0) ∨ (j1897_1.toInt < j1897_0.toInt ∧ j1897_1.toInt = 0))) → Wk p e below (FN s (Q0 Z xp xq xr h0 n0) 4 10) T' (mkF m 167 #[.val (.int xp), .val (.int xq), .val (.int xr), .val (.int (2 : Int32)), .val (.int (1 : Int32)), .val (.int (0 : Int32)), .val (.int (2 : Int32)), .val (.int (0 : Int32)), .val (.int (0 : Int32)), .val (.int (2 : Int32)), .val (.int j1897_0), .val (.int j1897_1), .val (.ref a1884), .val (.ref a1889), .unset] []) := by
         intro T1897 h1897 L1897 X1897 e1897_ N1897 Z1897 K1897 j1897_0 j1897_1  jf1897_0 jf1897_1 jf1897_2 jf1897_3 f1897
         refine w_iload X1897 hx j1897_0 (dB at_167) 169 rfl rfl ?_
         refine w_iload X1897 hx j1897_1 (dB at_169) 171 rfl rfl ?_
         refine w_callS X1897 hx hZ hown e1897_ (rm7 l Z a0 hw [] j1897_0 j1897_1 h1897 n0 Z1897 ) (tw_44 hw) (tw_45 hw) (tw_46 hw) (tw_47 hw) (by decide) (by rw [hml]; rfl) [(.int j1897_0), (.int j1897_1)] [] (lenOf pd_3 rfl) rfl rfl (by decide) 0 rfl (by decide) (by decide) (by decide) (dB at_171) 174 rfl (fun r1898 T1898 L1898 X1898 q1898 => ?_)
         obtain ⟨z1898, rfl, f1898, Nq1898, eq1898⟩ := q1898
         have N1898 := Fr.app N1897 Nq1898
         dsimp only [oD1, oD2, oD3, oD4]
         refine w_istore X1898 hx (dB at_174) 176 rfl #[.val (.int xp), .val (.int xq), .val (.int xr), .val (.int (2 : Int32)), .val (.int (1 : Int32)), .val (.int (0 : Int32)), .val (.int (2 : Int32)), .val (.int (0 : Int32)), .val (.int (0 : Int32)), .val (.int (2 : Int32)), .val (.int j1897_0), .val (.int j1897_1), .val (.ref a1884), .val (.ref a1889), .val (.int z1898)] rfl ?_
         refine w_aload X1898 hx (.ref a1889) (dB at_176) 178 rfl rfl rfl ?_
         refine w_virt X1898 hx hZ hown eq1898 (rm8 l Z a0 hw [] a1889 (0 : Int32) h1897 n0 Z1897 jf1897_2) (tw_48 hw) (tw_49 hw) (notFace_of_selects (args := #[]) (mvT hZ (tw_51 hw))) (tw_51 hw) (tw_50 hw) (tw_19 hw) (tw_52 hw) (by decide) a1889 jf1897_0 (by rw [hml]; rfl) [] [] (lenOf pd_4 rfl) rfl rfl (by decide) 0 rfl (by decide) (by decide) (by decide) (dB at_178) 181 rfl (fun r1899 T1899 L1899 X1899 q1899 => ?_)
         obtain ⟨rfl, Nq1899, eq1899⟩ := q1899
         have N1899 := Fr.app N1898 Nq1899
         dsimp only [oD1, oD2, oD3, oD4]
         refine w_iload X1899 hx z1898 (dB at_181) 183 rfl rfl ?_
         refine w_icmp_ne X1899 hx 0 z1898.toInt (by decide) rfl (dB at_183) 283 186 (fun c1900 => ?_) (fun c1900 => ?_)
         ·exfalso; omega
         ·refine w_aload X1899 hx (.ref a1889) (dB at_186) 188 rfl rfl rfl ?_
          refine w_iload X1899 hx (1 : Int32) (dB at_188) 190 rfl rfl ?_
          refine w_virt X1899 hx hZ hown eq1899 (rm9i1 l Z a0 hw [] a1889 va1894 kv1894 [.null, .null, .null] .null h1897 n0 Z1897 jf1897_1 jf1897_3 (by rfl) (by rfl)) (tw_53 hw) (tw_54 hw) (notFace_of_selects (args := #[]) (mvT hZ (tw_56 hw))) (tw_56 hw) (tw_55 hw) (tw_19 hw) (tw_57 hw) (by decide) a1889 jf1897_0 (by rw [hml]; rfl) [(.int (1 : Int32))] [] (lenOf pd_5 rfl) rfl rfl (by decide) 0 rfl (by decide) (by decide) (by decide) (dB at_190) 193 rfl (fun r1901 T1901 L1901 X1901 q1901 => ?_)
          obtain ⟨rfl, Nq1901, eq1901⟩ := q1901
          have N1901 := Fr.app N1899 Nq1901
          dsimp only [oD1, oD2, oD3, oD4]
          refine w_aload X1901 hx (.ref a1884) (dB at_193) 195 rfl rfl rfl ?_
          refine w_acmp X1901 hx rfl rfl (dB at_195) false (decide_eq_false nofun) 202 (by decide) (by decide) ?_
          refine w_iconst X1901 hx (dB at_202) 203 rfl (0 : Int32) (by decide) ?_
          refine w_iconst X1901 hx (dB at_203) 204 rfl (0 : Int32) (by decide) ?_
          refine w_iload X1901 hx z1898 (dB at_204) 206 rfl rfl ?_
          refine w_icmp_ge X1901 hx 0 z1898.toInt (by decide) rfl (dB at_206) 213 209 (fun c1902 => ?_) (fun c1902 => ?_)
          ·refine w_iconst X1901 hx (dB at_213) 214 rfl (0 : Int32) (by decide) ?_
           refine w_icmp_ne X1901 hx 0 0 (by decide) (by decide) (dB at_214) 283 217 (fun c1903 => ?_) (fun c1903 => ?_)
           ·exfalso; omega
           ·refine w_aload X1901 hx (.ref a1889) (dB at_217) 219 rfl rfl rfl ?_
            refine w_iload X1901 hx (0 : Int32) (dB at_219) 221 rfl rfl ?_
            refine w_virt X1901 hx hZ hown eq1901 (rm9i0 l Z a0 hw [] a1889 va1894 kv1894 [.null, .null, .null] .null h1897 n0 Z1897 jf1897_1 jf1897_3 (by rfl) (by rfl)) (tw_53 hw) (tw_54 hw) (notFace_of_selects (args := #[]) (mvT hZ (tw_56 hw))) (tw_56 hw) (tw_55 hw) (tw_19 hw) (tw_57 hw) (by decide) a1889 jf1897_0 (by rw [hml]; rfl) [(.int (0 : Int32))] [] (lenOf pd_5 rfl) rfl rfl (by decide) 0 rfl (by decide) (by decide) (by decide) (dB at_221) 224 rfl (fun r1904 T1904 L1904 X1904 q1904 => ?_)
            obtain ⟨rfl, Nq1904, eq1904⟩ := q1904
            have N1904 := Fr.app N1901 Nq1904
            dsimp only [oD1, oD2, oD3, oD4]
            refine w_aload X1904 hx (.ref a1884) (dB at_224) 226 rfl rfl rfl ?_
            refine w_acmp X1904 hx rfl rfl (dB at_226) false (decide_eq_false nofun) 233 (by decide) (by decide) ?_
            refine w_iconst X1904 hx (dB at_233) 234 rfl (0 : Int32) (by decide) ?_
            refine w_iconst X1904 hx (dB at_234) 235 rfl (1 : Int32) (by decide) ?_
            refine w_iload X1904 hx z1898 (dB at_235) 237 rfl rfl ?_
            refine w_icmp_ge X1904 hx 1 z1898.toInt (by decide) rfl (dB at_237) 244 240 (fun c1905 => ?_) (fun c1905 => ?_)
            ·refine w_iconst X1904 hx (dB at_244) 245 rfl (0 : Int32) (by decide) ?_
             refine w_icmp_ne X1904 hx 0 0 (by decide) (by decide) (dB at_245) 283 248 (fun c1906 => ?_) (fun c1906 => ?_)
             ·exfalso; omega
             ·refine w_aload X1904 hx (.ref a1889) (dB at_248) 250 rfl rfl rfl ?_
              refine w_iload X1904 hx (2 : Int32) (dB at_250) 252 rfl rfl ?_
              refine w_virt X1904 hx hZ hown eq1904 (rm9i2 l Z a0 hw [] a1889 va1894 kv1894 [.null, .null, .null] .null h1897 n0 Z1897 jf1897_1 jf1897_3 (by rfl) (by rfl)) (tw_53 hw) (tw_54 hw) (notFace_of_selects (args := #[]) (mvT hZ (tw_56 hw))) (tw_56 hw) (tw_55 hw) (tw_19 hw) (tw_57 hw) (by decide) a1889 jf1897_0 (by rw [hml]; rfl) [(.int (2 : Int32))] [] (lenOf pd_5 rfl) rfl rfl (by decide) 0 rfl (by decide) (by decide) (by decide) (dB at_252) 255 rfl (fun r1907 T1907 L1907 X1907 q1907 => ?_)
              obtain ⟨rfl, Nq1907, eq1907⟩ := q1907
              have N1907 := Fr.app N1904 Nq1907
              dsimp only [oD1, oD2, oD3, oD4]
              refine w_aload X1907 hx (.ref a1884) (dB at_255) 257 rfl rfl rfl ?_
              refine w_acmp X1907 hx rfl rfl (dB at_257) false (decide_eq_false nofun) 264 (by decide) (by decide) ?_
              refine w_iconst X1907 hx (dB at_264) 265 rfl (0 : Int32) (by decide) ?_
              refine w_iconst X1907 hx (dB at_265) 266 rfl (2 : Int32) (by decide) ?_
              refine w_iload X1907 hx z1898 (dB at_266) 268 rfl rfl ?_
              refine w_icmp_ge X1907 hx 2 z1898.toInt (by decide) rfl (dB at_268) 275 271 (fun c1908 => ?_) (fun c1908 => ?_)
              ·refine w_iconst X1907 hx (dB at_275) 276 rfl (0 : Int32) (by decide) ?_
               refine w_icmp_ne X1907 hx 0 0 (by decide) (by decide) (dB at_276) 283 279 (fun c1909 => ?_) (fun c1909 => ?_)
               ·exfalso; omega
               ·refine w_iconst X1907 hx (dB at_279) 280 rfl (1 : Int32) (by decide) ?_
                refine w_goto X1907 hx (dB at_280) 284 ?_
                refine w_retN X1907 hx hlk (t := .boolean) hret (by simp) (dB at_284) (by decide) (by decide) ?_
                rw [eq1907]
                exact ⟨rfl, N1907⟩
              ·exfalso; omega
            ·exfalso; omega
          ·exfalso; omega
        have J1910 : ∀ (T' : State) (h' : Heap) (L' : List Loc) (_ : Stand p l e room_1 s m #[(.int xp), (.int xq), (.int xr)] below meth c T' L' 4 10) (_ : T'.heap = h') (_ : Fr n0 L') (_ : n0 ≤ h'.size) (_ : Keep h0 h' []) (j1910_0 : Int32) (j1910_1 : Int32) , (Exa Z h' a1889 cN_2) → (Fld Z h' a1889 cN_2 "values" cN_3 (.ref va1894)) → (Fld Z h' a1889 cN_2 "trailSize" "I" (.int (1 : Int32))) → (Arv Z h' va1894 kv1894 (.object cN_4) (3 : Int32) [.null, (.ref a1884), .null] .null) → (0 ≤ j1910_0.toInt ∧ j1910_0.toInt ≤ 3 ∧ 0 ≤ j1910_1.toInt ∧ j1910_1.toInt ≤ 4 ∧ ((j1910_0.toInt ≤ j1910_1.toInt ∧ j1910_0.toInt = 1) ∨ (j1910_1.toInt < j1910_0.toInt ∧ j1910_1.toInt = 1))) → Wk p e below (FN s (Q0 Z xp xq xr h0 n0) 4 10) T' (mkF m 167 #[.val (.int xp), .val (.int xq), .val (.int xr), .val (.int (2 : Int32)), .val (.int (1 : Int32)), .val (.int (0 : Int32)), .val (.int (2 : Int32)), .val (.int (0 : Int32)), .val (.int (0 : Int32)), .val (.int (2 : Int32)), .val (.int j1910_0), .val (.int j1910_1), .val (.ref a1884), .val (.ref a1889), .unset] []) := by
         intro T1910 h1910 L1910 X1910 e1910_ N1910 Z1910 K1910 j1910_0 j1910_1  jf1910_0 jf1910_1 jf1910_2 jf1910_3 f1910
         refine w_iload X1910 hx j1910_0 (dB at_167) 169 rfl rfl ?_
         refine w_iload X1910 hx j1910_1 (dB at_169) 171 rfl rfl ?_
         refine w_callS X1910 hx hZ hown e1910_ (rm7 l Z a0 hw [] j1910_0 j1910_1 h1910 n0 Z1910 ) (tw_44 hw) (tw_45 hw) (tw_46 hw) (tw_47 hw) (by decide) (by rw [hml]; rfl) [(.int j1910_0), (.int j1910_1)] [] (lenOf pd_3 rfl) rfl rfl (by decide) 0 rfl (by decide) (by decide) (by decide) (dB at_171) 174 rfl (fun r1911 T1911 L1911 X1911 q1911 => ?_)
         obtain ⟨z1911, rfl, f1911, Nq1911, eq1911⟩ := q1911
         have N1911 := Fr.app N1910 Nq1911
         dsimp only [oD1, oD2, oD3, oD4]
         refine w_istore X1911 hx (dB at_174) 176 rfl #[.val (.int xp), .val (.int xq), .val (.int xr), .val (.int (2 : Int32)), .val (.int (1 : Int32)), .val (.int (0 : Int32)), .val (.int (2 : Int32)), .val (.int (0 : Int32)), .val (.int (0 : Int32)), .val (.int (2 : Int32)), .val (.int j1910_0), .val (.int j1910_1), .val (.ref a1884), .val (.ref a1889), .val (.int z1911)] rfl ?_
         refine w_aload X1911 hx (.ref a1889) (dB at_176) 178 rfl rfl rfl ?_
         refine w_virt X1911 hx hZ hown eq1911 (rm8 l Z a0 hw [] a1889 (1 : Int32) h1910 n0 Z1910 jf1910_2) (tw_48 hw) (tw_49 hw) (notFace_of_selects (args := #[]) (mvT hZ (tw_51 hw))) (tw_51 hw) (tw_50 hw) (tw_19 hw) (tw_52 hw) (by decide) a1889 jf1910_0 (by rw [hml]; rfl) [] [] (lenOf pd_4 rfl) rfl rfl (by decide) 0 rfl (by decide) (by decide) (by decide) (dB at_178) 181 rfl (fun r1912 T1912 L1912 X1912 q1912 => ?_)
         obtain ⟨rfl, Nq1912, eq1912⟩ := q1912
         have N1912 := Fr.app N1911 Nq1912
         dsimp only [oD1, oD2, oD3, oD4]
         refine w_iload X1912 hx z1911 (dB at_181) 183 rfl rfl ?_
         refine w_icmp_ne X1912 hx 1 z1911.toInt (by decide) rfl (dB at_183) 283 186 (fun c1913 => ?_) (fun c1913 => ?_)
         ·exfalso; omega
         ·refine w_aload X1912 hx (.ref a1889) (dB at_186) 188 rfl rfl rfl ?_
          refine w_iload X1912 hx (1 : Int32) (dB at_188) 190 rfl rfl ?_
          refine w_virt X1912 hx hZ hown eq1912 (rm9i1 l Z a0 hw [] a1889 va1894 kv1894 [.null, (.ref a1884), .null] (.ref a1884) h1910 n0 Z1910 jf1910_1 jf1910_3 (by rfl) (by rfl)) (tw_53 hw) (tw_54 hw) (notFace_of_selects (args := #[]) (mvT hZ (tw_56 hw))) (tw_56 hw) (tw_55 hw) (tw_19 hw) (tw_57 hw) (by decide) a1889 jf1910_0 (by rw [hml]; rfl) [(.int (1 : Int32))] [] (lenOf pd_5 rfl) rfl rfl (by decide) 0 rfl (by decide) (by decide) (by decide) (dB at_190) 193 rfl (fun r1914 T1914 L1914 X1914 q1914 => ?_)
          obtain ⟨rfl, Nq1914, eq1914⟩ := q1914
          have N1914 := Fr.app N1912 Nq1914
          dsimp only [oD1, oD2, oD3, oD4]
          refine w_aload X1914 hx (.ref a1884) (dB at_193) 195 rfl rfl rfl ?_
          refine w_acmp X1914 hx rfl rfl (dB at_195) true (decide_eq_true rfl) 198 (by decide) (by decide) ?_
          refine w_iconst X1914 hx (dB at_198) 199 rfl (1 : Int32) (by decide) ?_
          refine w_goto X1914 hx (dB at_199) 203 ?_
          refine w_iconst X1914 hx (dB at_203) 204 rfl (0 : Int32) (by decide) ?_
          refine w_iload X1914 hx z1911 (dB at_204) 206 rfl rfl ?_
          refine w_icmp_ge X1914 hx 0 z1911.toInt (by decide) rfl (dB at_206) 213 209 (fun c1915 => ?_) (fun c1915 => ?_)
          ·exfalso; omega
          ·refine w_iconst X1914 hx (dB at_209) 210 rfl (1 : Int32) (by decide) ?_
           refine w_goto X1914 hx (dB at_210) 214 ?_
           refine w_icmp_ne X1914 hx 1 1 (by decide) (by decide) (dB at_214) 283 217 (fun c1916 => ?_) (fun c1916 => ?_)
           ·exfalso; omega
           ·refine w_aload X1914 hx (.ref a1889) (dB at_217) 219 rfl rfl rfl ?_
            refine w_iload X1914 hx (0 : Int32) (dB at_219) 221 rfl rfl ?_
            refine w_virt X1914 hx hZ hown eq1914 (rm9i0 l Z a0 hw [] a1889 va1894 kv1894 [.null, (.ref a1884), .null] .null h1910 n0 Z1910 jf1910_1 jf1910_3 (by rfl) (by rfl)) (tw_53 hw) (tw_54 hw) (notFace_of_selects (args := #[]) (mvT hZ (tw_56 hw))) (tw_56 hw) (tw_55 hw) (tw_19 hw) (tw_57 hw) (by decide) a1889 jf1910_0 (by rw [hml]; rfl) [(.int (0 : Int32))] [] (lenOf pd_5 rfl) rfl rfl (by decide) 0 rfl (by decide) (by decide) (by decide) (dB at_221) 224 rfl (fun r1917 T1917 L1917 X1917 q1917 => ?_)
            obtain ⟨rfl, Nq1917, eq1917⟩ := q1917
            have N1917 := Fr.app N1914 Nq1917
            dsimp only [oD1, oD2, oD3, oD4]
            refine w_aload X1917 hx (.ref a1884) (dB at_224) 226 rfl rfl rfl ?_
            refine w_acmp X1917 hx rfl rfl (dB at_226) false (decide_eq_false nofun) 233 (by decide) (by decide) ?_
            refine w_iconst X1917 hx (dB at_233) 234 rfl (0 : Int32) (by decide) ?_
            refine w_iconst X1917 hx (dB at_234) 235 rfl (1 : Int32) (by decide) ?_
            refine w_iload X1917 hx z1911 (dB at_235) 237 rfl rfl ?_
            refine w_icmp_ge X1917 hx 1 z1911.toInt (by decide) rfl (dB at_237) 244 240 (fun c1918 => ?_) (fun c1918 => ?_)
            ·refine w_iconst X1917 hx (dB at_244) 245 rfl (0 : Int32) (by decide) ?_
             refine w_icmp_ne X1917 hx 0 0 (by decide) (by decide) (dB at_245) 283 248 (fun c1919 => ?_) (fun c1919 => ?_)
             ·exfalso; omega
             ·refine w_aload X1917 hx (.ref a1889) (dB at_248) 250 rfl rfl rfl ?_
              refine w_iload X1917 hx (2 : Int32) (dB at_250) 252 rfl rfl ?_
              refine w_virt X1917 hx hZ hown eq1917 (rm9i2 l Z a0 hw [] a1889 va1894 kv1894 [.null, (.ref a1884), .null] .null h1910 n0 Z1910 jf1910_1 jf1910_3 (by rfl) (by rfl)) (tw_53 hw) (tw_54 hw) (notFace_of_selects (args := #[]) (mvT hZ (tw_56 hw))) (tw_56 hw) (tw_55 hw) (tw_19 hw) (tw_57 hw) (by decide) a1889 jf1910_0 (by rw [hml]; rfl) [(.int (2 : Int32))] [] (lenOf pd_5 rfl) rfl rfl (by decide) 0 rfl (by decide) (by decide) (by decide) (dB at_252) 255 rfl (fun r1920 T1920 L1920 X1920 q1920 => ?_)
              obtain ⟨rfl, Nq1920, eq1920⟩ := q1920
              have N1920 := Fr.app N1917 Nq1920
              dsimp only [oD1, oD2, oD3, oD4]
              refine w_aload X1920 hx (.ref a1884) (dB at_255) 257 rfl rfl rfl ?_
              refine w_acmp X1920 hx rfl rfl (dB at_257) false (decide_eq_false nofun) 264 (by decide) (by decide) ?_
              refine w_iconst X1920 hx (dB at_264) 265 rfl (0 : Int32) (by decide) ?_
              refine w_iconst X1920 hx (dB at_265) 266 rfl (2 : Int32) (by decide) ?_
              refine w_iload X1920 hx z1911 (dB at_266) 268 rfl rfl ?_
              refine w_icmp_ge X1920 hx 2 z1911.toInt (by decide) rfl (dB at_268) 275 271 (fun c1921 => ?_) (fun c1921 => ?_)
              ·refine w_iconst X1920 hx (dB at_275) 276 rfl (0 : Int32) (by decide) ?_
               refine w_icmp_ne X1920 hx 0 0 (by decide) (by decide) (dB at_276) 283 279 (fun c1922 => ?_) (fun c1922 => ?_)
               ·exfalso; omega
               ·refine w_iconst X1920 hx (dB at_279) 280 rfl (1 : Int32) (by decide) ?_
                refine w_goto X1920 hx (dB at_280) 284 ?_
                refine w_retN X1920 hx hlk (t := .boolean) hret (by simp) (dB at_284) (by decide) (by decide) ?_
                rw [eq1920]
                exact ⟨rfl, N1920⟩
              ·exfalso; omega
            ·exfalso; omega
        have J1923 : ∀ (T' : State) (h' : Heap) (L' : List Loc) (_ : Stand p l e room_1 s m #[(.int xp), (.int xq), (.int xr)] below meth c T' L' 4 10) (_ : T'.heap = h') (_ : Fr n0 L') (_ : n0 ≤ h'.size) (_ : Keep h0 h' []) (j1923_0 : Int32) (j1923_1 : Int32) , (Exa Z h' a1889 cN_2) → (Fld Z h' a1889 cN_2 "values" cN_3 (.ref va1894)) → (Fld Z h' a1889 cN_2 "trailSize" "I" (.int (2 : Int32))) → (Arv Z h' va1894 kv1894 (.object cN_4) (3 : Int32) [(.ref a1884), (.ref a1884), .null] .null) → (0 ≤ j1923_0.toInt ∧ j1923_0.toInt ≤ 3 ∧ 0 ≤ j1923_1.toInt ∧ j1923_1.toInt ≤ 4 ∧ ((j1923_0.toInt ≤ j1923_1.toInt ∧ j1923_0.toInt = 2) ∨ (j1923_1.toInt < j1923_0.toInt ∧ j1923_1.toInt = 2))) → Wk p e below (FN s (Q0 Z xp xq xr h0 n0) 4 10) T' (mkF m 167 #[.val (.int xp), .val (.int xq), .val (.int xr), .val (.int (2 : Int32)), .val (.int (1 : Int32)), .val (.int (0 : Int32)), .val (.int (2 : Int32)), .val (.int (0 : Int32)), .val (.int (0 : Int32)), .val (.int (2 : Int32)), .val (.int j1923_0), .val (.int j1923_1), .val (.ref a1884), .val (.ref a1889), .unset] []) := by
         intro T1923 h1923 L1923 X1923 e1923_ N1923 Z1923 K1923 j1923_0 j1923_1  jf1923_0 jf1923_1 jf1923_2 jf1923_3 f1923
         refine w_iload X1923 hx j1923_0 (dB at_167) 169 rfl rfl ?_
         refine w_iload X1923 hx j1923_1 (dB at_169) 171 rfl rfl ?_
         refine w_callS X1923 hx hZ hown e1923_ (rm7 l Z a0 hw [] j1923_0 j1923_1 h1923 n0 Z1923 ) (tw_44 hw) (tw_45 hw) (tw_46 hw) (tw_47 hw) (by decide) (by rw [hml]; rfl) [(.int j1923_0), (.int j1923_1)] [] (lenOf pd_3 rfl) rfl rfl (by decide) 0 rfl (by decide) (by decide) (by decide) (dB at_171) 174 rfl (fun r1924 T1924 L1924 X1924 q1924 => ?_)
         obtain ⟨z1924, rfl, f1924, Nq1924, eq1924⟩ := q1924
         have N1924 := Fr.app N1923 Nq1924
         dsimp only [oD1, oD2, oD3, oD4]
         refine w_istore X1924 hx (dB at_174) 176 rfl #[.val (.int xp), .val (.int xq), .val (.int xr), .val (.int (2 : Int32)), .val (.int (1 : Int32)), .val (.int (0 : Int32)), .val (.int (2 : Int32)), .val (.int (0 : Int32)), .val (.int (0 : Int32)), .val (.int (2 : Int32)), .val (.int j1923_0), .val (.int j1923_1), .val (.ref a1884), .val (.ref a1889), .val (.int z1924)] rfl ?_
         refine w_aload X1924 hx (.ref a1889) (dB at_176) 178 rfl rfl rfl ?_
         refine w_virt X1924 hx hZ hown eq1924 (rm8 l Z a0 hw [] a1889 (2 : Int32) h1923 n0 Z1923 jf1923_2) (tw_48 hw) (tw_49 hw) (notFace_of_selects (args := #[]) (mvT hZ (tw_51 hw))) (tw_51 hw) (tw_50 hw) (tw_19 hw) (tw_52 hw) (by decide) a1889 jf1923_0 (by rw [hml]; rfl) [] [] (lenOf pd_4 rfl) rfl rfl (by decide) 0 rfl (by decide) (by decide) (by decide) (dB at_178) 181 rfl (fun r1925 T1925 L1925 X1925 q1925 => ?_)
         obtain ⟨rfl, Nq1925, eq1925⟩ := q1925
         have N1925 := Fr.app N1924 Nq1925
         dsimp only [oD1, oD2, oD3, oD4]
         refine w_iload X1925 hx z1924 (dB at_181) 183 rfl rfl ?_
         refine w_icmp_ne X1925 hx 2 z1924.toInt (by decide) rfl (dB at_183) 283 186 (fun c1926 => ?_) (fun c1926 => ?_)
         ·exfalso; omega
         ·refine w_aload X1925 hx (.ref a1889) (dB at_186) 188 rfl rfl rfl ?_
          refine w_iload X1925 hx (1 : Int32) (dB at_188) 190 rfl rfl ?_
          refine w_virt X1925 hx hZ hown eq1925 (rm9i1 l Z a0 hw [] a1889 va1894 kv1894 [(.ref a1884), (.ref a1884), .null] (.ref a1884) h1923 n0 Z1923 jf1923_1 jf1923_3 (by rfl) (by rfl)) (tw_53 hw) (tw_54 hw) (notFace_of_selects (args := #[]) (mvT hZ (tw_56 hw))) (tw_56 hw) (tw_55 hw) (tw_19 hw) (tw_57 hw) (by decide) a1889 jf1923_0 (by rw [hml]; rfl) [(.int (1 : Int32))] [] (lenOf pd_5 rfl) rfl rfl (by decide) 0 rfl (by decide) (by decide) (by decide) (dB at_190) 193 rfl (fun r1927 T1927 L1927 X1927 q1927 => ?_)
          obtain ⟨rfl, Nq1927, eq1927⟩ := q1927
          have N1927 := Fr.app N1925 Nq1927
          dsimp only [oD1, oD2, oD3, oD4]
          refine w_aload X1927 hx (.ref a1884) (dB at_193) 195 rfl rfl rfl ?_
          refine w_acmp X1927 hx rfl rfl (dB at_195) true (decide_eq_true rfl) 198 (by decide) (by decide) ?_
          refine w_iconst X1927 hx (dB at_198) 199 rfl (1 : Int32) (by decide) ?_
          refine w_goto X1927 hx (dB at_199) 203 ?_
          refine w_iconst X1927 hx (dB at_203) 204 rfl (0 : Int32) (by decide) ?_
          refine w_iload X1927 hx z1924 (dB at_204) 206 rfl rfl ?_
          refine w_icmp_ge X1927 hx 0 z1924.toInt (by decide) rfl (dB at_206) 213 209 (fun c1928 => ?_) (fun c1928 => ?_)
          ·exfalso; omega
          ·refine w_iconst X1927 hx (dB at_209) 210 rfl (1 : Int32) (by decide) ?_
           refine w_goto X1927 hx (dB at_210) 214 ?_
           refine w_icmp_ne X1927 hx 1 1 (by decide) (by decide) (dB at_214) 283 217 (fun c1929 => ?_) (fun c1929 => ?_)
           ·exfalso; omega
           ·refine w_aload X1927 hx (.ref a1889) (dB at_217) 219 rfl rfl rfl ?_
            refine w_iload X1927 hx (0 : Int32) (dB at_219) 221 rfl rfl ?_
            refine w_virt X1927 hx hZ hown eq1927 (rm9i0 l Z a0 hw [] a1889 va1894 kv1894 [(.ref a1884), (.ref a1884), .null] (.ref a1884) h1923 n0 Z1923 jf1923_1 jf1923_3 (by rfl) (by rfl)) (tw_53 hw) (tw_54 hw) (notFace_of_selects (args := #[]) (mvT hZ (tw_56 hw))) (tw_56 hw) (tw_55 hw) (tw_19 hw) (tw_57 hw) (by decide) a1889 jf1923_0 (by rw [hml]; rfl) [(.int (0 : Int32))] [] (lenOf pd_5 rfl) rfl rfl (by decide) 0 rfl (by decide) (by decide) (by decide) (dB at_221) 224 rfl (fun r1930 T1930 L1930 X1930 q1930 => ?_)
            obtain ⟨rfl, Nq1930, eq1930⟩ := q1930
            have N1930 := Fr.app N1927 Nq1930
            dsimp only [oD1, oD2, oD3, oD4]
            refine w_aload X1930 hx (.ref a1884) (dB at_224) 226 rfl rfl rfl ?_
            refine w_acmp X1930 hx rfl rfl (dB at_226) true (decide_eq_true rfl) 229 (by decide) (by decide) ?_
            refine w_iconst X1930 hx (dB at_229) 230 rfl (1 : Int32) (by decide) ?_
            refine w_goto X1930 hx (dB at_230) 234 ?_
            refine w_iconst X1930 hx (dB at_234) 235 rfl (1 : Int32) (by decide) ?_
            refine w_iload X1930 hx z1924 (dB at_235) 237 rfl rfl ?_
            refine w_icmp_ge X1930 hx 1 z1924.toInt (by decide) rfl (dB at_237) 244 240 (fun c1931 => ?_) (fun c1931 => ?_)
            ·exfalso; omega
            ·refine w_iconst X1930 hx (dB at_240) 241 rfl (1 : Int32) (by decide) ?_
             refine w_goto X1930 hx (dB at_241) 245 ?_
             refine w_icmp_ne X1930 hx 1 1 (by decide) (by decide) (dB at_245) 283 248 (fun c1932 => ?_) (fun c1932 => ?_)
             ·exfalso; omega
             ·refine w_aload X1930 hx (.ref a1889) (dB at_248) 250 rfl rfl rfl ?_
              refine w_iload X1930 hx (2 : Int32) (dB at_250) 252 rfl rfl ?_
              refine w_virt X1930 hx hZ hown eq1930 (rm9i2 l Z a0 hw [] a1889 va1894 kv1894 [(.ref a1884), (.ref a1884), .null] .null h1923 n0 Z1923 jf1923_1 jf1923_3 (by rfl) (by rfl)) (tw_53 hw) (tw_54 hw) (notFace_of_selects (args := #[]) (mvT hZ (tw_56 hw))) (tw_56 hw) (tw_55 hw) (tw_19 hw) (tw_57 hw) (by decide) a1889 jf1923_0 (by rw [hml]; rfl) [(.int (2 : Int32))] [] (lenOf pd_5 rfl) rfl rfl (by decide) 0 rfl (by decide) (by decide) (by decide) (dB at_252) 255 rfl (fun r1933 T1933 L1933 X1933 q1933 => ?_)
              obtain ⟨rfl, Nq1933, eq1933⟩ := q1933
              have N1933 := Fr.app N1930 Nq1933
              dsimp only [oD1, oD2, oD3, oD4]
              refine w_aload X1933 hx (.ref a1884) (dB at_255) 257 rfl rfl rfl ?_
              refine w_acmp X1933 hx rfl rfl (dB at_257) false (decide_eq_false nofun) 264 (by decide) (by decide) ?_
              refine w_iconst X1933 hx (dB at_264) 265 rfl (0 : Int32) (by decide) ?_
              refine w_iconst X1933 hx (dB at_265) 266 rfl (2 : Int32) (by decide) ?_
              refine w_iload X1933 hx z1924 (dB at_266) 268 rfl rfl ?_
              refine w_icmp_ge X1933 hx 2 z1924.toInt (by decide) rfl (dB at_268) 275 271 (fun c1934 => ?_) (fun c1934 => ?_)
              ·refine w_iconst X1933 hx (dB at_275) 276 rfl (0 : Int32) (by decide) ?_
               refine w_icmp_ne X1933 hx 0 0 (by decide) (by decide) (dB at_276) 283 279 (fun c1935 => ?_) (fun c1935 => ?_)
               ·exfalso; omega
               ·refine w_iconst X1933 hx (dB at_279) 280 rfl (1 : Int32) (by decide) ?_
                refine w_goto X1933 hx (dB at_280) 284 ?_
                refine w_retN X1933 hx hlk (t := .boolean) hret (by simp) (dB at_284) (by decide) (by decide) ?_
                rw [eq1933]
                exact ⟨rfl, N1933⟩
              ·exfalso; omega
        have J1936 : ∀ (T' : State) (h' : Heap) (L' : List Loc) (_ : Stand p l e room_1 s m #[(.int xp), (.int xq), (.int xr)] below meth c T' L' 4 10) (_ : T'.heap = h') (_ : Fr n0 L') (_ : n0 ≤ h'.size) (_ : Keep h0 h' []) (j1936_0 : Int32) (j1936_1 : Int32) , (Exa Z h' a1889 cN_2) → (Fld Z h' a1889 cN_2 "values" cN_3 (.ref va1894)) → (Fld Z h' a1889 cN_2 "trailSize" "I" (.int (3 : Int32))) → (Arv Z h' va1894 kv1894 (.object cN_4) (3 : Int32) [(.ref a1884), (.ref a1884), (.ref a1884)] .null) → (0 ≤ j1936_0.toInt ∧ j1936_0.toInt ≤ 3 ∧ 0 ≤ j1936_1.toInt ∧ j1936_1.toInt ≤ 4 ∧ ((j1936_0.toInt ≤ j1936_1.toInt ∧ j1936_0.toInt = 3) ∨ (j1936_1.toInt < j1936_0.toInt ∧ j1936_1.toInt = 3))) → Wk p e below (FN s (Q0 Z xp xq xr h0 n0) 4 10) T' (mkF m 167 #[.val (.int xp), .val (.int xq), .val (.int xr), .val (.int (2 : Int32)), .val (.int (1 : Int32)), .val (.int (0 : Int32)), .val (.int (2 : Int32)), .val (.int (0 : Int32)), .val (.int (0 : Int32)), .val (.int (2 : Int32)), .val (.int j1936_0), .val (.int j1936_1), .val (.ref a1884), .val (.ref a1889), .unset] []) := by
         intro T1936 h1936 L1936 X1936 e1936_ N1936 Z1936 K1936 j1936_0 j1936_1  jf1936_0 jf1936_1 jf1936_2 jf1936_3 f1936
         refine w_iload X1936 hx j1936_0 (dB at_167) 169 rfl rfl ?_
         refine w_iload X1936 hx j1936_1 (dB at_169) 171 rfl rfl ?_
         refine w_callS X1936 hx hZ hown e1936_ (rm7 l Z a0 hw [] j1936_0 j1936_1 h1936 n0 Z1936 ) (tw_44 hw) (tw_45 hw) (tw_46 hw) (tw_47 hw) (by decide) (by rw [hml]; rfl) [(.int j1936_0), (.int j1936_1)] [] (lenOf pd_3 rfl) rfl rfl (by decide) 0 rfl (by decide) (by decide) (by decide) (dB at_171) 174 rfl (fun r1937 T1937 L1937 X1937 q1937 => ?_)
         obtain ⟨z1937, rfl, f1937, Nq1937, eq1937⟩ := q1937
         have N1937 := Fr.app N1936 Nq1937
         dsimp only [oD1, oD2, oD3, oD4]
         refine w_istore X1937 hx (dB at_174) 176 rfl #[.val (.int xp), .val (.int xq), .val (.int xr), .val (.int (2 : Int32)), .val (.int (1 : Int32)), .val (.int (0 : Int32)), .val (.int (2 : Int32)), .val (.int (0 : Int32)), .val (.int (0 : Int32)), .val (.int (2 : Int32)), .val (.int j1936_0), .val (.int j1936_1), .val (.ref a1884), .val (.ref a1889), .val (.int z1937)] rfl ?_
         refine w_aload X1937 hx (.ref a1889) (dB at_176) 178 rfl rfl rfl ?_
         refine w_virt X1937 hx hZ hown eq1937 (rm8 l Z a0 hw [] a1889 (3 : Int32) h1936 n0 Z1936 jf1936_2) (tw_48 hw) (tw_49 hw) (notFace_of_selects (args := #[]) (mvT hZ (tw_51 hw))) (tw_51 hw) (tw_50 hw) (tw_19 hw) (tw_52 hw) (by decide) a1889 jf1936_0 (by rw [hml]; rfl) [] [] (lenOf pd_4 rfl) rfl rfl (by decide) 0 rfl (by decide) (by decide) (by decide) (dB at_178) 181 rfl (fun r1938 T1938 L1938 X1938 q1938 => ?_)
         obtain ⟨rfl, Nq1938, eq1938⟩ := q1938
         have N1938 := Fr.app N1937 Nq1938
         dsimp only [oD1, oD2, oD3, oD4]
         refine w_iload X1938 hx z1937 (dB at_181) 183 rfl rfl ?_
         refine w_icmp_ne X1938 hx 3 z1937.toInt (by decide) rfl (dB at_183) 283 186 (fun c1939 => ?_) (fun c1939 => ?_)
         ·exfalso; omega
         ·refine w_aload X1938 hx (.ref a1889) (dB at_186) 188 rfl rfl rfl ?_
          refine w_iload X1938 hx (1 : Int32) (dB at_188) 190 rfl rfl ?_
          refine w_virt X1938 hx hZ hown eq1938 (rm9i1 l Z a0 hw [] a1889 va1894 kv1894 [(.ref a1884), (.ref a1884), (.ref a1884)] (.ref a1884) h1936 n0 Z1936 jf1936_1 jf1936_3 (by rfl) (by rfl)) (tw_53 hw) (tw_54 hw) (notFace_of_selects (args := #[]) (mvT hZ (tw_56 hw))) (tw_56 hw) (tw_55 hw) (tw_19 hw) (tw_57 hw) (by decide) a1889 jf1936_0 (by rw [hml]; rfl) [(.int (1 : Int32))] [] (lenOf pd_5 rfl) rfl rfl (by decide) 0 rfl (by decide) (by decide) (by decide) (dB at_190) 193 rfl (fun r1940 T1940 L1940 X1940 q1940 => ?_)
          obtain ⟨rfl, Nq1940, eq1940⟩ := q1940
          have N1940 := Fr.app N1938 Nq1940
          dsimp only [oD1, oD2, oD3, oD4]
          refine w_aload X1940 hx (.ref a1884) (dB at_193) 195 rfl rfl rfl ?_
          refine w_acmp X1940 hx rfl rfl (dB at_195) true (decide_eq_true rfl) 198 (by decide) (by decide) ?_
          refine w_iconst X1940 hx (dB at_198) 199 rfl (1 : Int32) (by decide) ?_
          refine w_goto X1940 hx (dB at_199) 203 ?_
          refine w_iconst X1940 hx (dB at_203) 204 rfl (0 : Int32) (by decide) ?_
          refine w_iload X1940 hx z1937 (dB at_204) 206 rfl rfl ?_
          refine w_icmp_ge X1940 hx 0 z1937.toInt (by decide) rfl (dB at_206) 213 209 (fun c1941 => ?_) (fun c1941 => ?_)
          ·exfalso; omega
          ·refine w_iconst X1940 hx (dB at_209) 210 rfl (1 : Int32) (by decide) ?_
           refine w_goto X1940 hx (dB at_210) 214 ?_
           refine w_icmp_ne X1940 hx 1 1 (by decide) (by decide) (dB at_214) 283 217 (fun c1942 => ?_) (fun c1942 => ?_)
           ·exfalso; omega
           ·refine w_aload X1940 hx (.ref a1889) (dB at_217) 219 rfl rfl rfl ?_
            refine w_iload X1940 hx (0 : Int32) (dB at_219) 221 rfl rfl ?_
            refine w_virt X1940 hx hZ hown eq1940 (rm9i0 l Z a0 hw [] a1889 va1894 kv1894 [(.ref a1884), (.ref a1884), (.ref a1884)] (.ref a1884) h1936 n0 Z1936 jf1936_1 jf1936_3 (by rfl) (by rfl)) (tw_53 hw) (tw_54 hw) (notFace_of_selects (args := #[]) (mvT hZ (tw_56 hw))) (tw_56 hw) (tw_55 hw) (tw_19 hw) (tw_57 hw) (by decide) a1889 jf1936_0 (by rw [hml]; rfl) [(.int (0 : Int32))] [] (lenOf pd_5 rfl) rfl rfl (by decide) 0 rfl (by decide) (by decide) (by decide) (dB at_221) 224 rfl (fun r1943 T1943 L1943 X1943 q1943 => ?_)
            obtain ⟨rfl, Nq1943, eq1943⟩ := q1943
            have N1943 := Fr.app N1940 Nq1943
            dsimp only [oD1, oD2, oD3, oD4]
            refine w_aload X1943 hx (.ref a1884) (dB at_224) 226 rfl rfl rfl ?_
            refine w_acmp X1943 hx rfl rfl (dB at_226) true (decide_eq_true rfl) 229 (by decide) (by decide) ?_
            refine w_iconst X1943 hx (dB at_229) 230 rfl (1 : Int32) (by decide) ?_
            refine w_goto X1943 hx (dB at_230) 234 ?_
            refine w_iconst X1943 hx (dB at_234) 235 rfl (1 : Int32) (by decide) ?_
            refine w_iload X1943 hx z1937 (dB at_235) 237 rfl rfl ?_
            refine w_icmp_ge X1943 hx 1 z1937.toInt (by decide) rfl (dB at_237) 244 240 (fun c1944 => ?_) (fun c1944 => ?_)
            ·exfalso; omega
            ·refine w_iconst X1943 hx (dB at_240) 241 rfl (1 : Int32) (by decide) ?_
             refine w_goto X1943 hx (dB at_241) 245 ?_
             refine w_icmp_ne X1943 hx 1 1 (by decide) (by decide) (dB at_245) 283 248 (fun c1945 => ?_) (fun c1945 => ?_)
             ·exfalso; omega
             ·refine w_aload X1943 hx (.ref a1889) (dB at_248) 250 rfl rfl rfl ?_
              refine w_iload X1943 hx (2 : Int32) (dB at_250) 252 rfl rfl ?_
              refine w_virt X1943 hx hZ hown eq1943 (rm9i2 l Z a0 hw [] a1889 va1894 kv1894 [(.ref a1884), (.ref a1884), (.ref a1884)] (.ref a1884) h1936 n0 Z1936 jf1936_1 jf1936_3 (by rfl) (by rfl)) (tw_53 hw) (tw_54 hw) (notFace_of_selects (args := #[]) (mvT hZ (tw_56 hw))) (tw_56 hw) (tw_55 hw) (tw_19 hw) (tw_57 hw) (by decide) a1889 jf1936_0 (by rw [hml]; rfl) [(.int (2 : Int32))] [] (lenOf pd_5 rfl) rfl rfl (by decide) 0 rfl (by decide) (by decide) (by decide) (dB at_252) 255 rfl (fun r1946 T1946 L1946 X1946 q1946 => ?_)
              obtain ⟨rfl, Nq1946, eq1946⟩ := q1946
              have N1946 := Fr.app N1943 Nq1946
              dsimp only [oD1, oD2, oD3, oD4]
              refine w_aload X1946 hx (.ref a1884) (dB at_255) 257 rfl rfl rfl ?_
              refine w_acmp X1946 hx rfl rfl (dB at_257) true (decide_eq_true rfl) 260 (by decide) (by decide) ?_
              refine w_iconst X1946 hx (dB at_260) 261 rfl (1 : Int32) (by decide) ?_
              refine w_goto X1946 hx (dB at_261) 265 ?_
              refine w_iconst X1946 hx (dB at_265) 266 rfl (2 : Int32) (by decide) ?_
              refine w_iload X1946 hx z1937 (dB at_266) 268 rfl rfl ?_
              refine w_icmp_ge X1946 hx 2 z1937.toInt (by decide) rfl (dB at_268) 275 271 (fun c1947 => ?_) (fun c1947 => ?_)
              ·exfalso; omega
              ·refine w_iconst X1946 hx (dB at_271) 272 rfl (1 : Int32) (by decide) ?_
               refine w_goto X1946 hx (dB at_272) 276 ?_
               refine w_icmp_ne X1946 hx 1 1 (by decide) (by decide) (dB at_276) 283 279 (fun c1948 => ?_) (fun c1948 => ?_)
               ·exfalso; omega
               ·refine w_iconst X1946 hx (dB at_279) 280 rfl (1 : Int32) (by decide) ?_
                refine w_goto X1946 hx (dB at_280) 284 ?_
                refine w_retN X1946 hx hlk (t := .boolean) hret (by simp) (dB at_284) (by decide) (by decide) ?_
                rw [eq1946]
                exact ⟨rfl, N1946⟩
        have s1949 : v1881.toInt = 0 ∨ v1881.toInt = 1 ∨ v1881.toInt = 2 ∨ v1881.toInt = 3 := by omega
        rcases s1949 with s1949 | s1949 | s1949 | s1949
        ·obtain rfl : v1881 = (0 : Int32) := eqI (s1949.trans (by decide))
         have z1949 : (0 : Int32).toInt = 0 := by decide
         refine w_iload X1894 hx (0 : Int32) (dB at_116) 118 rfl rfl ?_
         refine w_if_le X1894 hx 0 (by decide) (dB at_118) 130 121 (fun c1950 => ?_) (fun c1950 => ?_)
         ·refine w_iload X1894 hx (0 : Int32) (dB at_130) 132 rfl rfl ?_
          refine w_iconst X1894 hx (dB at_132) 133 rfl (1 : Int32) (by decide) ?_
          refine w_icmp_le X1894 hx 0 1 (by decide) (by decide) (dB at_133) 145 136 (fun c1951 => ?_) (fun c1951 => ?_)
          ·refine w_iload X1894 hx (0 : Int32) (dB at_145) 147 rfl rfl ?_
           refine w_iconst X1894 hx (dB at_147) 148 rfl (2 : Int32) (by decide) ?_
           refine w_icmp_le X1894 hx 0 2 (by decide) (by decide) (dB at_148) 160 151 (fun c1952 => ?_) (fun c1952 => ?_)
           ·refine w_aload X1894 hx (.ref a1889) (dB at_160) 162 rfl rfl rfl ?_
            refine w_iload X1894 hx v1883 (dB at_162) 164 rfl rfl ?_
            refine w_virt X1894 hx hZ hown rfl (rm6ge0 l Z a0 hw [] a1889 v1883 T1894.heap n0 Z1894 G1894_2 (by omega)) (tw_39 hw) (tw_40 hw) (notFace_of_selects (args := #[]) (mvT hZ (tw_42 hw))) (tw_42 hw) (tw_41 hw) (tw_19 hw) (tw_43 hw) (by decide) a1889 F1896 (by rw [hml]; rfl) [(.int v1883)] [] (lenOf pd_2 rfl) rfl rfl (by decide) 0 rfl (by decide) (by decide) (by decide) (dB at_164) 167 rfl (fun r1954 T1954 L1954 X1954 q1954 => ?_)
            obtain ⟨rfl, Nq1954, eq1954⟩ := q1954
            have N1954 := Fr.app N1894 Nq1954
            dsimp only [oD1, oD2, oD3, oD4]
            exact J1897 _ _ _ (X1954.more (by decide) (by decide)) eq1954 N1954 Z1894 K1894 (0 : Int32) v1883  F1896 G1894_0 G1894_2 G1894_3 (by have hz1 : (0 : Int32).toInt = 0 := (by decide); omega)
           ·exfalso; omega
          ·exfalso; omega
         ·exfalso; omega
        ·obtain rfl : v1881 = (1 : Int32) := eqI (s1949.trans (by decide))
         have z1949 : (1 : Int32).toInt = 1 := by decide
         refine w_iload X1894 hx (1 : Int32) (dB at_116) 118 rfl rfl ?_
         refine w_if_le X1894 hx 1 (by decide) (dB at_118) 130 121 (fun c1955 => ?_) (fun c1955 => ?_)
         ·exfalso; omega
         ·refine w_aload X1894 hx (.ref a1889) (dB at_121) 123 rfl rfl rfl ?_
          refine w_iload X1894 hx (1 : Int32) (dB at_123) 125 rfl rfl ?_
          refine w_aload X1894 hx (.ref a1884) (dB at_125) 127 rfl rfl rfl ?_
          refine w_virt X1894 hx hZ hown rfl (rm5ti1 l Z a0 hw [] a1889 a1884 va1894 ta1894 kv1894 kt1894 T1894.heap n0 Z1894 F1896 G1894_0 G1894_1 G1894_2 G1894_3 G1894_4 F1895 g_a1889 g_ta1894 g_va1894 (by exact nq1894_0) (by exact ov1894_0)) (tw_31 hw) (tw_32 hw) (notFace_of_selects (args := #[]) (mvT hZ (tw_34 hw))) (tw_34 hw) (tw_33 hw) (tw_19 hw) (tw_35 hw) (by decide) a1889 F1896 (by rw [hml]; rfl) [(.int (1 : Int32)), (.ref a1884)] [] (lenOf pd_6 rfl) rfl rfl (by decide) 0 rfl (by decide) (by decide) (by decide) (dB at_127) 130 rfl (fun r1956 T1956 L1956 X1956 q1956 => ?_)
          obtain ⟨rfl, Nq1956, Kq1956, G1956_0, G1956_1, G1956_2, G1956_3, G1956_4⟩ := q1956
          have N1956 := Fr.app N1894 Nq1956
          have F1957 : Exa Z T1956.heap a1884 cN_1 := F1895.keep Kq1956
          have F1958 : Exa Z T1956.heap a1889 cN_2 := F1896.keep Kq1956
          have Z1956 : n0 ≤ T1956.heap.size := Nat.le_trans Z1894 Kq1956.1
          have K1956 : Keep h0 T1956.heap [] := K1894.trans Kq1956 (allS (Or.inr s_a1889) (allS (Or.inr s_ta1894) (allS (Or.inr s_va1894) all0)))
          dsimp only [oD1, oD2, oD3, oD4]
          refine w_iload X1956 hx (1 : Int32) (dB at_130) 132 rfl rfl ?_
          refine w_iconst X1956 hx (dB at_132) 133 rfl (1 : Int32) (by decide) ?_
          refine w_icmp_le X1956 hx 1 1 (by decide) (by decide) (dB at_133) 145 136 (fun c1959 => ?_) (fun c1959 => ?_)
          ·refine w_iload X1956 hx (1 : Int32) (dB at_145) 147 rfl rfl ?_
           refine w_iconst X1956 hx (dB at_147) 148 rfl (2 : Int32) (by decide) ?_
           refine w_icmp_le X1956 hx 1 2 (by decide) (by decide) (dB at_148) 160 151 (fun c1960 => ?_) (fun c1960 => ?_)
           ·have s1961 : v1883.toInt = 0 ∨ 1 ≤ v1883.toInt := by omega
            rcases s1961 with s1961 | s1961
            ·obtain rfl : v1883 = (0 : Int32) := eqI (s1961.trans (by decide))
             have z1961 : (0 : Int32).toInt = 0 := by decide
             refine w_aload X1956 hx (.ref a1889) (dB at_160) 162 rfl rfl rfl ?_
             refine w_iload X1956 hx (0 : Int32) (dB at_162) 164 rfl rfl ?_
             refine w_virt X1956 hx hZ hown rfl (rm6t1m0 l Z a0 hw [] a1889 va1894 ta1894 kv1894 kt1894 a1884 T1956.heap n0 Z1956 F1958 G1956_0 G1956_1 G1956_2 G1956_3 G1956_4 g_a1889 g_va1894 (by exact nq1894_0) (by exact ov1894_0)) (tw_39 hw) (tw_40 hw) (notFace_of_selects (args := #[]) (mvT hZ (tw_42 hw))) (tw_42 hw) (tw_41 hw) (tw_19 hw) (tw_43 hw) (by decide) a1889 F1958 (by rw [hml]; rfl) [(.int (0 : Int32))] [] (lenOf pd_2 rfl) rfl rfl (by decide) 0 rfl (by decide) (by decide) (by decide) (dB at_164) 167 rfl (fun r1962 T1962 L1962 X1962 q1962 => ?_)
             obtain ⟨rfl, Nq1962, Kq1962, G1962_0, G1962_1, G1962_2, G1962_3, G1962_4⟩ := q1962
             have N1962 := Fr.app N1956 Nq1962
             have F1963 : Exa Z T1962.heap a1884 cN_1 := F1957.keep Kq1962
             have F1964 : Exa Z T1962.heap a1889 cN_2 := F1958.keep Kq1962
             have F1965 : Arv Z T1962.heap ta1894 kt1894 .int (3 : Int32) [(.int (1 : Int32)), (.int (0 : Int32)), (.int (0 : Int32))] (.int (0 : Int32)) := G1956_4.keep Kq1962 (ninS (Ne.symm ne_a1889_ta1894) (ninS (Ne.symm nq1894_0) nin0))
             have Z1962 : n0 ≤ T1962.heap.size := Nat.le_trans Z1956 Kq1962.1
             have K1962 : Keep h0 T1962.heap [] := K1956.trans Kq1962 (allS (Or.inr s_a1889) (allS (Or.inr s_va1894) all0))
             dsimp only [oD1, oD2, oD3, oD4]
             exact J1897 _ _ _ (X1962.more (by decide) (by decide)) rfl N1962 Z1962 K1962 (1 : Int32) (0 : Int32)  F1964 G1962_0 G1962_2 G1962_3 (by have hz1 : (1 : Int32).toInt = 1 := (by decide); have hz2 : (0 : Int32).toInt = 0 := (by decide); omega)
            ·have z1961 := s1961
             refine w_aload X1956 hx (.ref a1889) (dB at_160) 162 rfl rfl rfl ?_
             refine w_iload X1956 hx v1883 (dB at_162) 164 rfl rfl ?_
             refine w_virt X1956 hx hZ hown rfl (rm6ge1 l Z a0 hw [] a1889 v1883 T1956.heap n0 Z1956 G1956_2 (by omega)) (tw_39 hw) (tw_40 hw) (notFace_of_selects (args := #[]) (mvT hZ (tw_42 hw))) (tw_42 hw) (tw_41 hw) (tw_19 hw) (tw_43 hw) (by decide) a1889 F1958 (by rw [hml]; rfl) [(.int v1883)] [] (lenOf pd_2 rfl) rfl rfl (by decide) 0 rfl (by decide) (by decide) (by decide) (dB at_164) 167 rfl (fun r1966 T1966 L1966 X1966 q1966 => ?_)
             obtain ⟨rfl, Nq1966, eq1966⟩ := q1966
             have N1966 := Fr.app N1956 Nq1966
             dsimp only [oD1, oD2, oD3, oD4]
             exact J1910 _ _ _ (X1966.more (by decide) (by decide)) eq1966 N1966 Z1956 K1956 (1 : Int32) v1883  F1958 G1956_0 G1956_2 G1956_3 (by have hz1 : (1 : Int32).toInt = 1 := (by decide); omega)
           ·exfalso; omega
          ·exfalso; omega
        ·obtain rfl : v1881 = (2 : Int32) := eqI (s1949.trans (by decide))
         have z1949 : (2 : Int32).toInt = 2 := by decide
         refine w_iload X1894 hx (2 : Int32) (dB at_116) 118 rfl rfl ?_
         refine w_if_le X1894 hx 2 (by decide) (dB at_118) 130 121 (fun c1967 => ?_) (fun c1967 => ?_)
         ·exfalso; omega
         ·refine w_aload X1894 hx (.ref a1889) (dB at_121) 123 rfl rfl rfl ?_
          refine w_iload X1894 hx (1 : Int32) (dB at_123) 125 rfl rfl ?_
          refine w_aload X1894 hx (.ref a1884) (dB at_125) 127 rfl rfl rfl ?_
          refine w_virt X1894 hx hZ hown rfl (rm5ti1 l Z a0 hw [] a1889 a1884 va1894 ta1894 kv1894 kt1894 T1894.heap n0 Z1894 F1896 G1894_0 G1894_1 G1894_2 G1894_3 G1894_4 F1895 g_a1889 g_ta1894 g_va1894 (by exact nq1894_0) (by exact ov1894_0)) (tw_31 hw) (tw_32 hw) (notFace_of_selects (args := #[]) (mvT hZ (tw_34 hw))) (tw_34 hw) (tw_33 hw) (tw_19 hw) (tw_35 hw) (by decide) a1889 F1896 (by rw [hml]; rfl) [(.int (1 : Int32)), (.ref a1884)] [] (lenOf pd_6 rfl) rfl rfl (by decide) 0 rfl (by decide) (by decide) (by decide) (dB at_127) 130 rfl (fun r1968 T1968 L1968 X1968 q1968 => ?_)
          obtain ⟨rfl, Nq1968, Kq1968, G1968_0, G1968_1, G1968_2, G1968_3, G1968_4⟩ := q1968
          have N1968 := Fr.app N1894 Nq1968
          have F1969 : Exa Z T1968.heap a1884 cN_1 := F1895.keep Kq1968
          have F1970 : Exa Z T1968.heap a1889 cN_2 := F1896.keep Kq1968
          have Z1968 : n0 ≤ T1968.heap.size := Nat.le_trans Z1894 Kq1968.1
          have K1968 : Keep h0 T1968.heap [] := K1894.trans Kq1968 (allS (Or.inr s_a1889) (allS (Or.inr s_ta1894) (allS (Or.inr s_va1894) all0)))
          dsimp only [oD1, oD2, oD3, oD4]
          refine w_iload X1968 hx (2 : Int32) (dB at_130) 132 rfl rfl ?_
          refine w_iconst X1968 hx (dB at_132) 133 rfl (1 : Int32) (by decide) ?_
          refine w_icmp_le X1968 hx 2 1 (by decide) (by decide) (dB at_133) 145 136 (fun c1971 => ?_) (fun c1971 => ?_)
          ·exfalso; omega
          ·refine w_aload X1968 hx (.ref a1889) (dB at_136) 138 rfl rfl rfl ?_
           refine w_iload X1968 hx (0 : Int32) (dB at_138) 140 rfl rfl ?_
           refine w_aload X1968 hx (.ref a1884) (dB at_140) 142 rfl rfl rfl ?_
           refine w_virt X1968 hx hZ hown rfl (rm5t1i0 l Z a0 hw [] a1889 a1884 va1894 ta1894 kv1894 kt1894 T1968.heap n0 Z1968 F1970 G1968_0 G1968_1 G1968_2 G1968_3 G1968_4 F1969 g_a1889 g_ta1894 g_va1894 (by exact nq1894_0) (by exact ov1894_0)) (tw_31 hw) (tw_32 hw) (notFace_of_selects (args := #[]) (mvT hZ (tw_34 hw))) (tw_34 hw) (tw_33 hw) (tw_19 hw) (tw_35 hw) (by decide) a1889 F1970 (by rw [hml]; rfl) [(.int (0 : Int32)), (.ref a1884)] [] (lenOf pd_6 rfl) rfl rfl (by decide) 0 rfl (by decide) (by decide) (by decide) (dB at_142) 145 rfl (fun r1972 T1972 L1972 X1972 q1972 => ?_)
           obtain ⟨rfl, Nq1972, Kq1972, G1972_0, G1972_1, G1972_2, G1972_3, G1972_4⟩ := q1972
           have N1972 := Fr.app N1968 Nq1972
           have F1973 : Exa Z T1972.heap a1884 cN_1 := F1969.keep Kq1972
           have F1974 : Exa Z T1972.heap a1889 cN_2 := F1970.keep Kq1972
           have Z1972 : n0 ≤ T1972.heap.size := Nat.le_trans Z1968 Kq1972.1
           have K1972 : Keep h0 T1972.heap [] := K1968.trans Kq1972 (allS (Or.inr s_a1889) (allS (Or.inr s_ta1894) (allS (Or.inr s_va1894) all0)))
           dsimp only [oD1, oD2, oD3, oD4]
           refine w_iload X1972 hx (2 : Int32) (dB at_145) 147 rfl rfl ?_
           refine w_iconst X1972 hx (dB at_147) 148 rfl (2 : Int32) (by decide) ?_
           refine w_icmp_le X1972 hx 2 2 (by decide) (by decide) (dB at_148) 160 151 (fun c1975 => ?_) (fun c1975 => ?_)
           ·have s1976 : v1883.toInt = 0 ∨ v1883.toInt = 1 ∨ 2 ≤ v1883.toInt := by omega
            rcases s1976 with s1976 | s1976 | s1976
            ·obtain rfl : v1883 = (0 : Int32) := eqI (s1976.trans (by decide))
             have z1976 : (0 : Int32).toInt = 0 := by decide
             refine w_aload X1972 hx (.ref a1889) (dB at_160) 162 rfl rfl rfl ?_
             refine w_iload X1972 hx (0 : Int32) (dB at_162) 164 rfl rfl ?_
             refine w_virt X1972 hx hZ hown rfl (rm6t10m0 l Z a0 hw [] a1889 va1894 ta1894 kv1894 kt1894 a1884 T1972.heap n0 Z1972 F1974 G1972_0 G1972_1 G1972_2 G1972_3 G1972_4 g_a1889 g_va1894 (by exact nq1894_0) (by exact ov1894_0)) (tw_39 hw) (tw_40 hw) (notFace_of_selects (args := #[]) (mvT hZ (tw_42 hw))) (tw_42 hw) (tw_41 hw) (tw_19 hw) (tw_43 hw) (by decide) a1889 F1974 (by rw [hml]; rfl) [(.int (0 : Int32))] [] (lenOf pd_2 rfl) rfl rfl (by decide) 0 rfl (by decide) (by decide) (by decide) (dB at_164) 167 rfl (fun r1977 T1977 L1977 X1977 q1977 => ?_)
             obtain ⟨rfl, Nq1977, Kq1977, G1977_0, G1977_1, G1977_2, G1977_3, G1977_4⟩ := q1977
             have N1977 := Fr.app N1972 Nq1977
             have F1978 : Exa Z T1977.heap a1884 cN_1 := F1973.keep Kq1977
             have F1979 : Exa Z T1977.heap a1889 cN_2 := F1974.keep Kq1977
             have F1980 : Arv Z T1977.heap ta1894 kt1894 .int (3 : Int32) [(.int (1 : Int32)), (.int (0 : Int32)), (.int (0 : Int32))] (.int (0 : Int32)) := G1972_4.keep Kq1977 (ninS (Ne.symm ne_a1889_ta1894) (ninS (Ne.symm nq1894_0) nin0))
             have Z1977 : n0 ≤ T1977.heap.size := Nat.le_trans Z1972 Kq1977.1
             have K1977 : Keep h0 T1977.heap [] := K1972.trans Kq1977 (allS (Or.inr s_a1889) (allS (Or.inr s_va1894) all0))
             dsimp only [oD1, oD2, oD3, oD4]
             exact J1897 _ _ _ (X1977.more (by decide) (by decide)) rfl N1977 Z1977 K1977 (2 : Int32) (0 : Int32)  F1979 G1977_0 G1977_2 G1977_3 (by have hz1 : (2 : Int32).toInt = 2 := (by decide); have hz2 : (0 : Int32).toInt = 0 := (by decide); omega)
            ·obtain rfl : v1883 = (1 : Int32) := eqI (s1976.trans (by decide))
             have z1976 : (1 : Int32).toInt = 1 := by decide
             refine w_aload X1972 hx (.ref a1889) (dB at_160) 162 rfl rfl rfl ?_
             refine w_iload X1972 hx (1 : Int32) (dB at_162) 164 rfl rfl ?_
             refine w_virt X1972 hx hZ hown rfl (rm6t10m1 l Z a0 hw [] a1889 va1894 ta1894 kv1894 kt1894 a1884 T1972.heap n0 Z1972 F1974 G1972_0 G1972_1 G1972_2 G1972_3 G1972_4 g_a1889 g_va1894 (by exact nq1894_0) (by exact ov1894_0)) (tw_39 hw) (tw_40 hw) (notFace_of_selects (args := #[]) (mvT hZ (tw_42 hw))) (tw_42 hw) (tw_41 hw) (tw_19 hw) (tw_43 hw) (by decide) a1889 F1974 (by rw [hml]; rfl) [(.int (1 : Int32))] [] (lenOf pd_2 rfl) rfl rfl (by decide) 0 rfl (by decide) (by decide) (by decide) (dB at_164) 167 rfl (fun r1981 T1981 L1981 X1981 q1981 => ?_)
             obtain ⟨rfl, Nq1981, Kq1981, G1981_0, G1981_1, G1981_2, G1981_3, G1981_4⟩ := q1981
             have N1981 := Fr.app N1972 Nq1981
             have F1982 : Exa Z T1981.heap a1884 cN_1 := F1973.keep Kq1981
             have F1983 : Exa Z T1981.heap a1889 cN_2 := F1974.keep Kq1981
             have F1984 : Arv Z T1981.heap ta1894 kt1894 .int (3 : Int32) [(.int (1 : Int32)), (.int (0 : Int32)), (.int (0 : Int32))] (.int (0 : Int32)) := G1972_4.keep Kq1981 (ninS (Ne.symm ne_a1889_ta1894) (ninS (Ne.symm nq1894_0) nin0))
             have Z1981 : n0 ≤ T1981.heap.size := Nat.le_trans Z1972 Kq1981.1
             have K1981 : Keep h0 T1981.heap [] := K1972.trans Kq1981 (allS (Or.inr s_a1889) (allS (Or.inr s_va1894) all0))
             dsimp only [oD1, oD2, oD3, oD4]
             exact J1910 _ _ _ (X1981.more (by decide) (by decide)) rfl N1981 Z1981 K1981 (2 : Int32) (1 : Int32)  F1983 G1981_0 G1981_2 G1981_3 (by have hz1 : (2 : Int32).toInt = 2 := (by decide); have hz2 : (1 : Int32).toInt = 1 := (by decide); omega)
            ·have z1976 := s1976
             refine w_aload X1972 hx (.ref a1889) (dB at_160) 162 rfl rfl rfl ?_
             refine w_iload X1972 hx v1883 (dB at_162) 164 rfl rfl ?_
             refine w_virt X1972 hx hZ hown rfl (rm6ge2 l Z a0 hw [] a1889 v1883 T1972.heap n0 Z1972 G1972_2 (by omega)) (tw_39 hw) (tw_40 hw) (notFace_of_selects (args := #[]) (mvT hZ (tw_42 hw))) (tw_42 hw) (tw_41 hw) (tw_19 hw) (tw_43 hw) (by decide) a1889 F1974 (by rw [hml]; rfl) [(.int v1883)] [] (lenOf pd_2 rfl) rfl rfl (by decide) 0 rfl (by decide) (by decide) (by decide) (dB at_164) 167 rfl (fun r1985 T1985 L1985 X1985 q1985 => ?_)
             obtain ⟨rfl, Nq1985, eq1985⟩ := q1985
             have N1985 := Fr.app N1972 Nq1985
             dsimp only [oD1, oD2, oD3, oD4]
             exact J1923 _ _ _ (X1985.more (by decide) (by decide)) eq1985 N1985 Z1972 K1972 (2 : Int32) v1883  F1974 G1972_0 G1972_2 G1972_3 (by have hz1 : (2 : Int32).toInt = 2 := (by decide); omega)
           ·exfalso; omega
        ·obtain rfl : v1881 = (3 : Int32) := eqI (s1949.trans (by decide))
         have z1949 : (3 : Int32).toInt = 3 := by decide
         refine w_iload X1894 hx (3 : Int32) (dB at_116) 118 rfl rfl ?_
         refine w_if_le X1894 hx 3 (by decide) (dB at_118) 130 121 (fun c1986 => ?_) (fun c1986 => ?_)
         ·exfalso; omega
         ·refine w_aload X1894 hx (.ref a1889) (dB at_121) 123 rfl rfl rfl ?_
          refine w_iload X1894 hx (1 : Int32) (dB at_123) 125 rfl rfl ?_
          refine w_aload X1894 hx (.ref a1884) (dB at_125) 127 rfl rfl rfl ?_
          refine w_virt X1894 hx hZ hown rfl (rm5ti1 l Z a0 hw [] a1889 a1884 va1894 ta1894 kv1894 kt1894 T1894.heap n0 Z1894 F1896 G1894_0 G1894_1 G1894_2 G1894_3 G1894_4 F1895 g_a1889 g_ta1894 g_va1894 (by exact nq1894_0) (by exact ov1894_0)) (tw_31 hw) (tw_32 hw) (notFace_of_selects (args := #[]) (mvT hZ (tw_34 hw))) (tw_34 hw) (tw_33 hw) (tw_19 hw) (tw_35 hw) (by decide) a1889 F1896 (by rw [hml]; rfl) [(.int (1 : Int32)), (.ref a1884)] [] (lenOf pd_6 rfl) rfl rfl (by decide) 0 rfl (by decide) (by decide) (by decide) (dB at_127) 130 rfl (fun r1987 T1987 L1987 X1987 q1987 => ?_)
          obtain ⟨rfl, Nq1987, Kq1987, G1987_0, G1987_1, G1987_2, G1987_3, G1987_4⟩ := q1987
          have N1987 := Fr.app N1894 Nq1987
          have F1988 : Exa Z T1987.heap a1884 cN_1 := F1895.keep Kq1987
          have F1989 : Exa Z T1987.heap a1889 cN_2 := F1896.keep Kq1987
          have Z1987 : n0 ≤ T1987.heap.size := Nat.le_trans Z1894 Kq1987.1
          have K1987 : Keep h0 T1987.heap [] := K1894.trans Kq1987 (allS (Or.inr s_a1889) (allS (Or.inr s_ta1894) (allS (Or.inr s_va1894) all0)))
          dsimp only [oD1, oD2, oD3, oD4]
          refine w_iload X1987 hx (3 : Int32) (dB at_130) 132 rfl rfl ?_
          refine w_iconst X1987 hx (dB at_132) 133 rfl (1 : Int32) (by decide) ?_
          refine w_icmp_le X1987 hx 3 1 (by decide) (by decide) (dB at_133) 145 136 (fun c1990 => ?_) (fun c1990 => ?_)
          ·exfalso; omega
          ·refine w_aload X1987 hx (.ref a1889) (dB at_136) 138 rfl rfl rfl ?_
           refine w_iload X1987 hx (0 : Int32) (dB at_138) 140 rfl rfl ?_
           refine w_aload X1987 hx (.ref a1884) (dB at_140) 142 rfl rfl rfl ?_
           refine w_virt X1987 hx hZ hown rfl (rm5t1i0 l Z a0 hw [] a1889 a1884 va1894 ta1894 kv1894 kt1894 T1987.heap n0 Z1987 F1989 G1987_0 G1987_1 G1987_2 G1987_3 G1987_4 F1988 g_a1889 g_ta1894 g_va1894 (by exact nq1894_0) (by exact ov1894_0)) (tw_31 hw) (tw_32 hw) (notFace_of_selects (args := #[]) (mvT hZ (tw_34 hw))) (tw_34 hw) (tw_33 hw) (tw_19 hw) (tw_35 hw) (by decide) a1889 F1989 (by rw [hml]; rfl) [(.int (0 : Int32)), (.ref a1884)] [] (lenOf pd_6 rfl) rfl rfl (by decide) 0 rfl (by decide) (by decide) (by decide) (dB at_142) 145 rfl (fun r1991 T1991 L1991 X1991 q1991 => ?_)
           obtain ⟨rfl, Nq1991, Kq1991, G1991_0, G1991_1, G1991_2, G1991_3, G1991_4⟩ := q1991
           have N1991 := Fr.app N1987 Nq1991
           have F1992 : Exa Z T1991.heap a1884 cN_1 := F1988.keep Kq1991
           have F1993 : Exa Z T1991.heap a1889 cN_2 := F1989.keep Kq1991
           have Z1991 : n0 ≤ T1991.heap.size := Nat.le_trans Z1987 Kq1991.1
           have K1991 : Keep h0 T1991.heap [] := K1987.trans Kq1991 (allS (Or.inr s_a1889) (allS (Or.inr s_ta1894) (allS (Or.inr s_va1894) all0)))
           dsimp only [oD1, oD2, oD3, oD4]
           refine w_iload X1991 hx (3 : Int32) (dB at_145) 147 rfl rfl ?_
           refine w_iconst X1991 hx (dB at_147) 148 rfl (2 : Int32) (by decide) ?_
           refine w_icmp_le X1991 hx 3 2 (by decide) (by decide) (dB at_148) 160 151 (fun c1994 => ?_) (fun c1994 => ?_)
           ·exfalso; omega
           ·refine w_aload X1991 hx (.ref a1889) (dB at_151) 153 rfl rfl rfl ?_
            refine w_iload X1991 hx (2 : Int32) (dB at_153) 155 rfl rfl ?_
            refine w_aload X1991 hx (.ref a1884) (dB at_155) 157 rfl rfl rfl ?_
            refine w_virt X1991 hx hZ hown rfl (rm5t10i2 l Z a0 hw [] a1889 a1884 va1894 ta1894 kv1894 kt1894 T1991.heap n0 Z1991 F1993 G1991_0 G1991_1 G1991_2 G1991_3 G1991_4 F1992 g_a1889 g_ta1894 g_va1894 (by exact nq1894_0) (by exact ov1894_0)) (tw_31 hw) (tw_32 hw) (notFace_of_selects (args := #[]) (mvT hZ (tw_34 hw))) (tw_34 hw) (tw_33 hw) (tw_19 hw) (tw_35 hw) (by decide) a1889 F1993 (by rw [hml]; rfl) [(.int (2 : Int32)), (.ref a1884)] [] (lenOf pd_6 rfl) rfl rfl (by decide) 0 rfl (by decide) (by decide) (by decide) (dB at_157) 160 rfl (fun r1995 T1995 L1995 X1995 q1995 => ?_)
            obtain ⟨rfl, Nq1995, Kq1995, G1995_0, G1995_1, G1995_2, G1995_3, G1995_4⟩ := q1995
            have N1995 := Fr.app N1991 Nq1995
            have F1996 : Exa Z T1995.heap a1884 cN_1 := F1992.keep Kq1995
            have F1997 : Exa Z T1995.heap a1889 cN_2 := F1993.keep Kq1995
            have Z1995 : n0 ≤ T1995.heap.size := Nat.le_trans Z1991 Kq1995.1
            have K1995 : Keep h0 T1995.heap [] := K1991.trans Kq1995 (allS (Or.inr s_a1889) (allS (Or.inr s_ta1894) (allS (Or.inr s_va1894) all0)))
            dsimp only [oD1, oD2, oD3, oD4]
            have s1998 : v1883.toInt = 0 ∨ v1883.toInt = 1 ∨ v1883.toInt = 2 ∨ 3 ≤ v1883.toInt := by omega
            rcases s1998 with s1998 | s1998 | s1998 | s1998
            ·obtain rfl : v1883 = (0 : Int32) := eqI (s1998.trans (by decide))
             have z1998 : (0 : Int32).toInt = 0 := by decide
             refine w_aload X1995 hx (.ref a1889) (dB at_160) 162 rfl rfl rfl ?_
             refine w_iload X1995 hx (0 : Int32) (dB at_162) 164 rfl rfl ?_
             refine w_virt X1995 hx hZ hown rfl (rm6t102m0 l Z a0 hw [] a1889 va1894 ta1894 kv1894 kt1894 a1884 T1995.heap n0 Z1995 F1997 G1995_0 G1995_1 G1995_2 G1995_3 G1995_4 g_a1889 g_va1894 (by exact nq1894_0) (by exact ov1894_0)) (tw_39 hw) (tw_40 hw) (notFace_of_selects (args := #[]) (mvT hZ (tw_42 hw))) (tw_42 hw) (tw_41 hw) (tw_19 hw) (tw_43 hw) (by decide) a1889 F1997 (by rw [hml]; rfl) [(.int (0 : Int32))] [] (lenOf pd_2 rfl) rfl rfl (by decide) 0 rfl (by decide) (by decide) (by decide) (dB at_164) 167 rfl (fun r1999 T1999 L1999 X1999 q1999 => ?_)
             obtain ⟨rfl, Nq1999, Kq1999, G1999_0, G1999_1, G1999_2, G1999_3, G1999_4⟩ := q1999
             have N1999 := Fr.app N1995 Nq1999
             have F2000 : Exa Z T1999.heap a1884 cN_1 := F1996.keep Kq1999
             have F2001 : Exa Z T1999.heap a1889 cN_2 := F1997.keep Kq1999
             have F2002 : Arv Z T1999.heap ta1894 kt1894 .int (3 : Int32) [(.int (1 : Int32)), (.int (0 : Int32)), (.int (2 : Int32))] (.int (0 : Int32)) := G1995_4.keep Kq1999 (ninS (Ne.symm ne_a1889_ta1894) (ninS (Ne.symm nq1894_0) nin0))
             have Z1999 : n0 ≤ T1999.heap.size := Nat.le_trans Z1995 Kq1999.1
             have K1999 : Keep h0 T1999.heap [] := K1995.trans Kq1999 (allS (Or.inr s_a1889) (allS (Or.inr s_va1894) all0))
             dsimp only [oD1, oD2, oD3, oD4]
             exact J1897 _ _ _ (X1999.more (by decide) (by decide)) rfl N1999 Z1999 K1999 (3 : Int32) (0 : Int32)  F2001 G1999_0 G1999_2 G1999_3 (by have hz1 : (3 : Int32).toInt = 3 := (by decide); have hz2 : (0 : Int32).toInt = 0 := (by decide); omega)
            ·obtain rfl : v1883 = (1 : Int32) := eqI (s1998.trans (by decide))
             have z1998 : (1 : Int32).toInt = 1 := by decide
             refine w_aload X1995 hx (.ref a1889) (dB at_160) 162 rfl rfl rfl ?_
             refine w_iload X1995 hx (1 : Int32) (dB at_162) 164 rfl rfl ?_
             refine w_virt X1995 hx hZ hown rfl (rm6t102m1 l Z a0 hw [] a1889 va1894 ta1894 kv1894 kt1894 a1884 T1995.heap n0 Z1995 F1997 G1995_0 G1995_1 G1995_2 G1995_3 G1995_4 g_a1889 g_va1894 (by exact nq1894_0) (by exact ov1894_0)) (tw_39 hw) (tw_40 hw) (notFace_of_selects (args := #[]) (mvT hZ (tw_42 hw))) (tw_42 hw) (tw_41 hw) (tw_19 hw) (tw_43 hw) (by decide) a1889 F1997 (by rw [hml]; rfl) [(.int (1 : Int32))] [] (lenOf pd_2 rfl) rfl rfl (by decide) 0 rfl (by decide) (by decide) (by decide) (dB at_164) 167 rfl (fun r2003 T2003 L2003 X2003 q2003 => ?_)
             obtain ⟨rfl, Nq2003, Kq2003, G2003_0, G2003_1, G2003_2, G2003_3, G2003_4⟩ := q2003
             have N2003 := Fr.app N1995 Nq2003
             have F2004 : Exa Z T2003.heap a1884 cN_1 := F1996.keep Kq2003
             have F2005 : Exa Z T2003.heap a1889 cN_2 := F1997.keep Kq2003
             have F2006 : Arv Z T2003.heap ta1894 kt1894 .int (3 : Int32) [(.int (1 : Int32)), (.int (0 : Int32)), (.int (2 : Int32))] (.int (0 : Int32)) := G1995_4.keep Kq2003 (ninS (Ne.symm ne_a1889_ta1894) (ninS (Ne.symm nq1894_0) nin0))
             have Z2003 : n0 ≤ T2003.heap.size := Nat.le_trans Z1995 Kq2003.1
             have K2003 : Keep h0 T2003.heap [] := K1995.trans Kq2003 (allS (Or.inr s_a1889) (allS (Or.inr s_va1894) all0))
             dsimp only [oD1, oD2, oD3, oD4]
             exact J1910 _ _ _ (X2003.more (by decide) (by decide)) rfl N2003 Z2003 K2003 (3 : Int32) (1 : Int32)  F2005 G2003_0 G2003_2 G2003_3 (by have hz1 : (3 : Int32).toInt = 3 := (by decide); have hz2 : (1 : Int32).toInt = 1 := (by decide); omega)
            ·obtain rfl : v1883 = (2 : Int32) := eqI (s1998.trans (by decide))
             have z1998 : (2 : Int32).toInt = 2 := by decide
             refine w_aload X1995 hx (.ref a1889) (dB at_160) 162 rfl rfl rfl ?_
             refine w_iload X1995 hx (2 : Int32) (dB at_162) 164 rfl rfl ?_
             refine w_virt X1995 hx hZ hown rfl (rm6t102m2 l Z a0 hw [] a1889 va1894 ta1894 kv1894 kt1894 a1884 T1995.heap n0 Z1995 F1997 G1995_0 G1995_1 G1995_2 G1995_3 G1995_4 g_a1889 g_va1894 (by exact nq1894_0) (by exact ov1894_0)) (tw_39 hw) (tw_40 hw) (notFace_of_selects (args := #[]) (mvT hZ (tw_42 hw))) (tw_42 hw) (tw_41 hw) (tw_19 hw) (tw_43 hw) (by decide) a1889 F1997 (by rw [hml]; rfl) [(.int (2 : Int32))] [] (lenOf pd_2 rfl) rfl rfl (by decide) 0 rfl (by decide) (by decide) (by decide) (dB at_164) 167 rfl (fun r2007 T2007 L2007 X2007 q2007 => ?_)
             obtain ⟨rfl, Nq2007, Kq2007, G2007_0, G2007_1, G2007_2, G2007_3, G2007_4⟩ := q2007
             have N2007 := Fr.app N1995 Nq2007
             have F2008 : Exa Z T2007.heap a1884 cN_1 := F1996.keep Kq2007
             have F2009 : Exa Z T2007.heap a1889 cN_2 := F1997.keep Kq2007
             have F2010 : Arv Z T2007.heap ta1894 kt1894 .int (3 : Int32) [(.int (1 : Int32)), (.int (0 : Int32)), (.int (2 : Int32))] (.int (0 : Int32)) := G1995_4.keep Kq2007 (ninS (Ne.symm ne_a1889_ta1894) (ninS (Ne.symm nq1894_0) nin0))
             have Z2007 : n0 ≤ T2007.heap.size := Nat.le_trans Z1995 Kq2007.1
             have K2007 : Keep h0 T2007.heap [] := K1995.trans Kq2007 (allS (Or.inr s_a1889) (allS (Or.inr s_va1894) all0))
             dsimp only [oD1, oD2, oD3, oD4]
             exact J1923 _ _ _ (X2007.more (by decide) (by decide)) rfl N2007 Z2007 K2007 (3 : Int32) (2 : Int32)  F2009 G2007_0 G2007_2 G2007_3 (by have hz1 : (3 : Int32).toInt = 3 := (by decide); have hz2 : (2 : Int32).toInt = 2 := (by decide); omega)
            ·have z1998 := s1998
             refine w_aload X1995 hx (.ref a1889) (dB at_160) 162 rfl rfl rfl ?_
             refine w_iload X1995 hx v1883 (dB at_162) 164 rfl rfl ?_
             refine w_virt X1995 hx hZ hown rfl (rm6ge3 l Z a0 hw [] a1889 v1883 T1995.heap n0 Z1995 G1995_2 (by omega)) (tw_39 hw) (tw_40 hw) (notFace_of_selects (args := #[]) (mvT hZ (tw_42 hw))) (tw_42 hw) (tw_41 hw) (tw_19 hw) (tw_43 hw) (by decide) a1889 F1997 (by rw [hml]; rfl) [(.int v1883)] [] (lenOf pd_2 rfl) rfl rfl (by decide) 0 rfl (by decide) (by decide) (by decide) (dB at_164) 167 rfl (fun r2011 T2011 L2011 X2011 q2011 => ?_)
             obtain ⟨rfl, Nq2011, eq2011⟩ := q2011
             have N2011 := Fr.app N1995 Nq2011
             dsimp only [oD1, oD2, oD3, oD4]
             exact J1936 _ _ _ (X2011.more (by decide) (by decide)) eq2011 N2011 Z1995 K1995 (3 : Int32) v1883  F1997 G1995_0 G1995_2 G1995_3 (by have hz1 : (3 : Int32).toInt = 3 := (by decide); omega)
       ·exfalso; omega
      ·exfalso; omega
     ·exfalso; omega
    ·exfalso; omega
   ·exfalso; omega
  ·obtain rfl : v1599 = (3 : Int32) := eqI (s1600.trans (by decide))
   have z1600 : (3 : Int32).toInt = 3 := by decide
   refine w_iloadN X0 hx (3 : Int32) (dB at_8) 9 rfl rfl ?_
   refine w_iconst X0 hx (dB at_9) 10 rfl (2 : Int32) (by decide) ?_
   refine w_idiv X0 hx (dB at_10) 11 rfl (by decide) (show (1 : Int32) = (3 : Int32) / (2 : Int32) from by decide) ?_
   refine w_istore X0 hx (dB at_11) 13 rfl #[.val (.int xp), .val (.int xq), .val (.int xr), .val (.int (3 : Int32)), .val (.int (1 : Int32)), .unset, .unset, .unset, .unset, .unset, .unset, .unset, .unset, .unset, .unset] rfl ?_
   refine w_iload X0 hx (1 : Int32) (dB at_13) 15 rfl rfl ?_
   refine w_if_ne X0 hx 1 (by decide) (dB at_15) 22 18 (fun c2012 => ?_) (fun c2012 => ?_)
   ·refine w_iconst X0 hx (dB at_22) 23 rfl (0 : Int32) (by decide) ?_
    refine w_istore X0 hx (dB at_23) 25 rfl #[.val (.int xp), .val (.int xq), .val (.int xr), .val (.int (3 : Int32)), .val (.int (1 : Int32)), .val (.int (0 : Int32)), .unset, .unset, .unset, .unset, .unset, .unset, .unset, .unset, .unset] rfl ?_
    refine w_iload X0 hx (1 : Int32) (dB at_25) 27 rfl rfl ?_
    refine w_iconst X0 hx (dB at_27) 28 rfl (2 : Int32) (by decide) ?_
    refine w_icmp_ne X0 hx 1 2 (by decide) (by decide) (dB at_28) 35 31 (fun c2013 => ?_) (fun c2013 => ?_)
    ·refine w_iconst X0 hx (dB at_35) 36 rfl (2 : Int32) (by decide) ?_
     refine w_istore X0 hx (dB at_36) 38 rfl #[.val (.int xp), .val (.int xq), .val (.int xr), .val (.int (3 : Int32)), .val (.int (1 : Int32)), .val (.int (0 : Int32)), .val (.int (2 : Int32)), .unset, .unset, .unset, .unset, .unset, .unset, .unset, .unset] rfl ?_
     refine w_iloadN X0 hx (3 : Int32) (dB at_38) 39 rfl rfl ?_
     refine w_iconst X0 hx (dB at_39) 40 rfl (1 : Int32) (by decide) ?_
     refine w_iand X0 hx (dB at_40) 41 rfl (show (1 : Int32) = (3 : Int32) &&& (1 : Int32) from by decide) ?_
     refine w_if_eq X0 hx 1 (by decide) (dB at_41) 48 44 (fun c2014 => ?_) (fun c2014 => ?_)
     ·exfalso; omega
     ·refine w_iconst X0 hx (dB at_44) 45 rfl (1 : Int32) (by decide) ?_
      refine w_goto X0 hx (dB at_45) 49 ?_
      refine w_istore X0 hx (dB at_49) 51 rfl #[.val (.int xp), .val (.int xq), .val (.int xr), .val (.int (3 : Int32)), .val (.int (1 : Int32)), .val (.int (0 : Int32)), .val (.int (2 : Int32)), .val (.int (1 : Int32)), .unset, .unset, .unset, .unset, .unset, .unset, .unset] rfl ?_
      refine w_iload X0 hx (1 : Int32) (dB at_51) 53 rfl rfl ?_
      refine w_if_eq X0 hx 1 (by decide) (dB at_53) 61 56 (fun c2015 => ?_) (fun c2015 => ?_)
      ·exfalso; omega
      ·refine w_iload X0 hx (2 : Int32) (dB at_56) 58 rfl rfl ?_
       refine w_goto X0 hx (dB at_58) 63 ?_
       refine w_istore X0 hx (dB at_63) 65 rfl #[.val (.int xp), .val (.int xq), .val (.int xr), .val (.int (3 : Int32)), .val (.int (1 : Int32)), .val (.int (0 : Int32)), .val (.int (2 : Int32)), .val (.int (1 : Int32)), .val (.int (2 : Int32)), .unset, .unset, .unset, .unset, .unset, .unset] rfl ?_
       refine w_iload X0 hx (1 : Int32) (dB at_65) 67 rfl rfl ?_
       refine w_if_eq X0 hx 1 (by decide) (dB at_67) 75 70 (fun c2016 => ?_) (fun c2016 => ?_)
       ·exfalso; omega
       ·refine w_iload X0 hx (0 : Int32) (dB at_70) 72 rfl rfl ?_
        refine w_goto X0 hx (dB at_72) 77 ?_
        refine w_istore X0 hx (dB at_77) 79 rfl #[.val (.int xp), .val (.int xq), .val (.int xr), .val (.int (3 : Int32)), .val (.int (1 : Int32)), .val (.int (0 : Int32)), .val (.int (2 : Int32)), .val (.int (1 : Int32)), .val (.int (2 : Int32)), .val (.int (0 : Int32)), .unset, .unset, .unset, .unset, .unset] rfl ?_
        refine w_iloadN X0 hx xq (dB at_79) 80 rfl rfl ?_
        refine w_ldc X0 hx hZ hown (tw_0 hw) (dB at_80) 82 rfl ?_
        obtain ⟨v2017, e2017⟩ : ∃ z : Int32, z = xq &&& (2147483647 : Int32) := ⟨_, rfl⟩
        have n2017 : v2017.toInt = xq.toInt % 2147483648 := by rw [e2017]; exact maskX 31 rfl (by decide) (by decide)
        refine w_iand X0 hx (dB at_82) 83 rfl e2017 ?_
        refine w_iconst X0 hx (dB at_83) 84 rfl (4 : Int32) (by decide) ?_
        obtain ⟨v2018, e2018⟩ : ∃ z : Int32, z = v2017 % (4 : Int32) := ⟨_, rfl⟩
        have n2018 : v2018.toInt = v2017.toInt % 4 := by rw [e2018]; exact iremX rfl (by decide) (by omega)
        refine w_irem X0 hx (dB at_84) 85 rfl (by decide) e2018 ?_
        refine w_istore X0 hx (dB at_85) 87 rfl #[.val (.int xp), .val (.int xq), .val (.int xr), .val (.int (3 : Int32)), .val (.int (1 : Int32)), .val (.int (0 : Int32)), .val (.int (2 : Int32)), .val (.int (1 : Int32)), .val (.int (2 : Int32)), .val (.int (0 : Int32)), .val (.int v2018), .unset, .unset, .unset, .unset] rfl ?_
        refine w_iloadN X0 hx xr (dB at_87) 88 rfl rfl ?_
        refine w_ldc X0 hx hZ hown (tw_0 hw) (dB at_88) 90 rfl ?_
        obtain ⟨v2019, e2019⟩ : ∃ z : Int32, z = xr &&& (2147483647 : Int32) := ⟨_, rfl⟩
        have n2019 : v2019.toInt = xr.toInt % 2147483648 := by rw [e2019]; exact maskX 31 rfl (by decide) (by decide)
        refine w_iand X0 hx (dB at_90) 91 rfl e2019 ?_
        refine w_iconst X0 hx (dB at_91) 92 rfl (5 : Int32) (by decide) ?_
        obtain ⟨v2020, e2020⟩ : ∃ z : Int32, z = v2019 % (5 : Int32) := ⟨_, rfl⟩
        have n2020 : v2020.toInt = v2019.toInt % 5 := by rw [e2020]; exact iremX rfl (by decide) (by omega)
        refine w_irem X0 hx (dB at_92) 93 rfl (by decide) e2020 ?_
        refine w_istore X0 hx (dB at_93) 95 rfl #[.val (.int xp), .val (.int xq), .val (.int xr), .val (.int (3 : Int32)), .val (.int (1 : Int32)), .val (.int (0 : Int32)), .val (.int (2 : Int32)), .val (.int (1 : Int32)), .val (.int (2 : Int32)), .val (.int (0 : Int32)), .val (.int v2018), .val (.int v2020), .unset, .unset, .unset] rfl ?_
        refine w_new X0 hx hZ hown e0 (tw_1 hw) (tw_2 hw) (tw_3 hw) (by decide) (by decide) (dB at_95) 98 rfl (fun T2021 h2021 a2021 X2021 e2021 g2021 E2021 A2021 D2021 => ?_)
        have g_a2021 : n0 ≤ a2021 := Nat.le_trans Z0 (Nat.le_of_eq g2021.symm)
        have s_a2021 : h0.size ≤ a2021 := Nat.le_trans (Keep.refl h0 []).1 (Nat.le_of_eq g2021.symm)
        have Z2021 : n0 ≤ h2021.size := Nat.le_trans Z0 E2021.1
        have K2021 : Keep h0 h2021 [] := (Keep.refl h0 []).ext E2021
        have F2022 : Fld Z h2021 a2021 cN_1 "value" "J" (.long (0 : Int64)) := D2021 (Or.inr (tw_16 hw)) (ty := .long) (by decide)
        refine w_dup X2021 hx (dB at_98) 99 rfl rfl ?_
        refine w_iloadN X2021 hx xq (dB at_99) 100 rfl rfl ?_
        obtain ⟨v2023, e2023⟩ : ∃ z : Int64, z = xq.toInt64 := ⟨_, rfl⟩
        have n2023 : v2023.toInt = xq.toInt := by rw [e2023]; exact i2lX rfl
        refine w_i2l X2021 hx (dB at_100) 101 rfl e2023 ?_
        refine w_init X2021 hx hZ rfl hown e2021 (rm1 l Z a0 hw [] a2021 v2023 h2021 n0 Z2021 A2021 F2022 g_a2021) (tw_4 hw) (tw_5 hw) (tw_3 hw) (tw_6 hw) (by decide) (by rw [hml]; rfl) a2021 [(.long v2023)] [(.ref a2021)] (lenOf pd_1 rfl) rfl rfl (by decide) 1 rfl (by decide) (by decide) (by decide) (dB at_101) 104 rfl (fun r2024 T2024 L2024 X2024 q2024 => ?_)
        obtain ⟨rfl, Nq2024, Kq2024⟩ := q2024
        have N2024 := Fr.app N0 Nq2024
        have F2025 : Exa Z T2024.heap a2021 cN_1 := A2021.keep Kq2024
        have Z2024 : n0 ≤ T2024.heap.size := Nat.le_trans Z2021 Kq2024.1
        have K2024 : Keep h0 T2024.heap [] := K2021.trans Kq2024 (allS (Or.inr s_a2021) all0)
        dsimp only [oD1, oD2, oD3, oD4]
        refine w_astore X2024 hx (dB at_104) 106 rfl rfl #[.val (.int xp), .val (.int xq), .val (.int xr), .val (.int (3 : Int32)), .val (.int (1 : Int32)), .val (.int (0 : Int32)), .val (.int (2 : Int32)), .val (.int (1 : Int32)), .val (.int (2 : Int32)), .val (.int (0 : Int32)), .val (.int v2018), .val (.int v2020), .val (.ref a2021), .unset, .unset] rfl ?_
        refine w_new X2024 hx hZ hown rfl (tw_17 hw) (tw_18 hw) (tw_19 hw) (by decide) (by decide) (dB at_106) 109 rfl (fun T2026 h2026 a2026 X2026 e2026 g2026 E2026 A2026 D2026 => ?_)
        have ne_a2021_a2026 : a2021 ≠ a2026 := Nat.ne_of_lt (Nat.lt_of_lt_of_le F2025.lt (Nat.le_of_eq g2026.symm))
        have g_a2026 : n0 ≤ a2026 := Nat.le_trans Z2024 (Nat.le_of_eq g2026.symm)
        have s_a2026 : h0.size ≤ a2026 := Nat.le_trans K2024.1 (Nat.le_of_eq g2026.symm)
        have F2027 : Exa Z h2026 a2021 cN_1 := F2025.ext E2026
        have Z2026 : n0 ≤ h2026.size := Nat.le_trans Z2024 E2026.1
        have K2026 : Keep h0 h2026 [] := K2024.ext E2026
        have F2028 : Fld Z h2026 a2026 cN_2 "values" cN_3 .null := D2026 (Or.inr (tw_27 hw)) (ty := (.array (.object "com/example/simpagation/simpagation/Term"))) (by decide)
        have F2029 : Fld Z h2026 a2026 cN_2 "trail" "[I" .null := D2026 (Or.inr (tw_30 hw)) (ty := (.array .int)) (by decide)
        have F2030 : Fld Z h2026 a2026 cN_2 "trailSize" "I" (.int (0 : Int32)) := D2026 (Or.inl (tw_37 hw)) (ty := .int) (by decide)
        refine w_dup X2026 hx (dB at_109) 110 rfl rfl ?_
        refine w_iconst X2026 hx (dB at_110) 111 rfl (3 : Int32) (by decide) ?_
        refine w_init X2026 hx hZ rfl hown e2026 (rm4 l Z a0 hw [] a2026 h2026 n0 Z2026 A2026 F2028 F2029 F2030 g_a2026) (tw_20 hw) (tw_21 hw) (tw_19 hw) (tw_22 hw) (by decide) (by rw [hml]; rfl) a2026 [(.int (3 : Int32))] [(.ref a2026)] (lenOf pd_2 rfl) rfl rfl (by decide) 1 rfl (by decide) (by decide) (by decide) (dB at_111) 114 rfl (fun r2031 T2031 L2031 X2031 q2031 => ?_)
        obtain ⟨va2031, ta2031, kv2031, kt2031, rfl, Nq2031, Kq2031, sq2031_0, sq2031_1, nq2031_0, ov2031_0, G2031_0, G2031_1, G2031_2, G2031_3, G2031_4⟩ := q2031
        have N2031 := Fr.app N2024 Nq2031
        have ne_a2021_va2031 : a2021 ≠ va2031 := Nat.ne_of_lt (Nat.lt_of_lt_of_le F2027.lt sq2031_0)
        have ne_a2026_va2031 : a2026 ≠ va2031 := Nat.ne_of_lt (Nat.lt_of_lt_of_le A2026.lt sq2031_0)
        have g_va2031 : n0 ≤ va2031 := Nat.le_trans Z2026 sq2031_0
        have s_va2031 : h0.size ≤ va2031 := Nat.le_trans K2026.1 sq2031_0
        have ne_a2021_ta2031 : a2021 ≠ ta2031 := Nat.ne_of_lt (Nat.lt_of_lt_of_le F2027.lt sq2031_1)
        have ne_a2026_ta2031 : a2026 ≠ ta2031 := Nat.ne_of_lt (Nat.lt_of_lt_of_le A2026.lt sq2031_1)
        have g_ta2031 : n0 ≤ ta2031 := Nat.le_trans Z2026 sq2031_1
        have s_ta2031 : h0.size ≤ ta2031 := Nat.le_trans K2026.1 sq2031_1
        have F2032 : Exa Z T2031.heap a2021 cN_1 := F2027.keep Kq2031
        have F2033 : Exa Z T2031.heap a2026 cN_2 := A2026.keep Kq2031
        have Z2031 : n0 ≤ T2031.heap.size := Nat.le_trans Z2026 Kq2031.1
        have K2031 : Keep h0 T2031.heap [] := K2026.trans Kq2031 (allS (Or.inr s_a2026) all0)
        dsimp only [oD1, oD2, oD3, oD4]
        refine w_astore X2031 hx (dB at_114) 116 rfl rfl #[.val (.int xp), .val (.int xq), .val (.int xr), .val (.int (3 : Int32)), .val (.int (1 : Int32)), .val (.int (0 : Int32)), .val (.int (2 : Int32)), .val (.int (1 : Int32)), .val (.int (2 : Int32)), .val (.int (0 : Int32)), .val (.int v2018), .val (.int v2020), .val (.ref a2021), .val (.ref a2026), .unset] rfl ?_
        have J2034 : ∀ (T' : State) (h' : Heap) (L' : List Loc) (_ : Stand p l e room_1 s m #[(.int xp), (.int xq), (.int xr)] below meth c T' L' 4 10) (_ : T'.heap = h') (_ : Fr n0 L') (_ : n0 ≤ h'.size) (_ : Keep h0 h' []) (j2034_0 : Int32) (j2034_1 : Int32) , (Exa Z h' a2026 cN_2) → (Fld Z h' a2026 cN_2 "values" cN_3 (.ref va2031)) → (Fld Z h' a2026 cN_2 "trailSize" "I" (.int (0 : Int32))) → (Arv Z h' va2031 kv2031 (.object cN_4) (3 : Int32) [.null, .null, .null] .null) → (0 ≤ j2034_0.toInt ∧ j2034_0.toInt ≤ 3 ∧ 0 ≤ j2034_1.toInt ∧ j2034_1.toInt ≤ 4 ∧ ((j2034_0.toInt ≤ j2034_1.toInt ∧ j2034_0.toInt = 0) ∨ (j2034_1.toInt < j2034_0.toInt ∧ j2034_1.toInt = 0))) → Wk p e below (FN s (Q0 Z xp xq xr h0 n0) 4 10) T' (mkF m 167 #[.val (.int xp), .val (.int xq), .val (.int xr), .val (.int (3 : Int32)), .val (.int (1 : Int32)), .val (.int (0 : Int32)), .val (.int (2 : Int32)), .val (.int (1 : Int32)), .val (.int (2 : Int32)), .val (.int (0 : Int32)), .val (.int j2034_0), .val (.int j2034_1), .val (.ref a2021), .val (.ref a2026), .unset] []) := by
         intro T2034 h2034 L2034 X2034 e2034_ N2034 Z2034 K2034 j2034_0 j2034_1  jf2034_0 jf2034_1 jf2034_2 jf2034_3 f2034
         refine w_iload X2034 hx j2034_0 (dB at_167) 169 rfl rfl ?_
         refine w_iload X2034 hx j2034_1 (dB at_169) 171 rfl rfl ?_
         refine w_callS X2034 hx hZ hown e2034_ (rm7 l Z a0 hw [] j2034_0 j2034_1 h2034 n0 Z2034 ) (tw_44 hw) (tw_45 hw) (tw_46 hw) (tw_47 hw) (by decide) (by rw [hml]; rfl) [(.int j2034_0), (.int j2034_1)] [] (lenOf pd_3 rfl) rfl rfl (by decide) 0 rfl (by decide) (by decide) (by decide) (dB at_171) 174 rfl (fun r2035 T2035 L2035 X2035 q2035 => ?_)
         obtain ⟨z2035, rfl, f2035, Nq2035, eq2035⟩ := q2035
         have N2035 := Fr.app N2034 Nq2035
         dsimp only [oD1, oD2, oD3, oD4]
         refine w_istore X2035 hx (dB at_174) 176 rfl #[.val (.int xp), .val (.int xq), .val (.int xr), .val (.int (3 : Int32)), .val (.int (1 : Int32)), .val (.int (0 : Int32)), .val (.int (2 : Int32)), .val (.int (1 : Int32)), .val (.int (2 : Int32)), .val (.int (0 : Int32)), .val (.int j2034_0), .val (.int j2034_1), .val (.ref a2021), .val (.ref a2026), .val (.int z2035)] rfl ?_
         refine w_aload X2035 hx (.ref a2026) (dB at_176) 178 rfl rfl rfl ?_
         refine w_virt X2035 hx hZ hown eq2035 (rm8 l Z a0 hw [] a2026 (0 : Int32) h2034 n0 Z2034 jf2034_2) (tw_48 hw) (tw_49 hw) (notFace_of_selects (args := #[]) (mvT hZ (tw_51 hw))) (tw_51 hw) (tw_50 hw) (tw_19 hw) (tw_52 hw) (by decide) a2026 jf2034_0 (by rw [hml]; rfl) [] [] (lenOf pd_4 rfl) rfl rfl (by decide) 0 rfl (by decide) (by decide) (by decide) (dB at_178) 181 rfl (fun r2036 T2036 L2036 X2036 q2036 => ?_)
         obtain ⟨rfl, Nq2036, eq2036⟩ := q2036
         have N2036 := Fr.app N2035 Nq2036
         dsimp only [oD1, oD2, oD3, oD4]
         refine w_iload X2036 hx z2035 (dB at_181) 183 rfl rfl ?_
         refine w_icmp_ne X2036 hx 0 z2035.toInt (by decide) rfl (dB at_183) 283 186 (fun c2037 => ?_) (fun c2037 => ?_)
         ·exfalso; omega
         ·refine w_aload X2036 hx (.ref a2026) (dB at_186) 188 rfl rfl rfl ?_
          refine w_iload X2036 hx (1 : Int32) (dB at_188) 190 rfl rfl ?_
          refine w_virt X2036 hx hZ hown eq2036 (rm9i1 l Z a0 hw [] a2026 va2031 kv2031 [.null, .null, .null] .null h2034 n0 Z2034 jf2034_1 jf2034_3 (by rfl) (by rfl)) (tw_53 hw) (tw_54 hw) (notFace_of_selects (args := #[]) (mvT hZ (tw_56 hw))) (tw_56 hw) (tw_55 hw) (tw_19 hw) (tw_57 hw) (by decide) a2026 jf2034_0 (by rw [hml]; rfl) [(.int (1 : Int32))] [] (lenOf pd_5 rfl) rfl rfl (by decide) 0 rfl (by decide) (by decide) (by decide) (dB at_190) 193 rfl (fun r2038 T2038 L2038 X2038 q2038 => ?_)
          obtain ⟨rfl, Nq2038, eq2038⟩ := q2038
          have N2038 := Fr.app N2036 Nq2038
          dsimp only [oD1, oD2, oD3, oD4]
          refine w_aload X2038 hx (.ref a2021) (dB at_193) 195 rfl rfl rfl ?_
          refine w_acmp X2038 hx rfl rfl (dB at_195) false (decide_eq_false nofun) 202 (by decide) (by decide) ?_
          refine w_iconst X2038 hx (dB at_202) 203 rfl (0 : Int32) (by decide) ?_
          refine w_iconst X2038 hx (dB at_203) 204 rfl (0 : Int32) (by decide) ?_
          refine w_iload X2038 hx z2035 (dB at_204) 206 rfl rfl ?_
          refine w_icmp_ge X2038 hx 0 z2035.toInt (by decide) rfl (dB at_206) 213 209 (fun c2039 => ?_) (fun c2039 => ?_)
          ·refine w_iconst X2038 hx (dB at_213) 214 rfl (0 : Int32) (by decide) ?_
           refine w_icmp_ne X2038 hx 0 0 (by decide) (by decide) (dB at_214) 283 217 (fun c2040 => ?_) (fun c2040 => ?_)
           ·exfalso; omega
           ·refine w_aload X2038 hx (.ref a2026) (dB at_217) 219 rfl rfl rfl ?_
            refine w_iload X2038 hx (2 : Int32) (dB at_219) 221 rfl rfl ?_
            refine w_virt X2038 hx hZ hown eq2038 (rm9i2 l Z a0 hw [] a2026 va2031 kv2031 [.null, .null, .null] .null h2034 n0 Z2034 jf2034_1 jf2034_3 (by rfl) (by rfl)) (tw_53 hw) (tw_54 hw) (notFace_of_selects (args := #[]) (mvT hZ (tw_56 hw))) (tw_56 hw) (tw_55 hw) (tw_19 hw) (tw_57 hw) (by decide) a2026 jf2034_0 (by rw [hml]; rfl) [(.int (2 : Int32))] [] (lenOf pd_5 rfl) rfl rfl (by decide) 0 rfl (by decide) (by decide) (by decide) (dB at_221) 224 rfl (fun r2041 T2041 L2041 X2041 q2041 => ?_)
            obtain ⟨rfl, Nq2041, eq2041⟩ := q2041
            have N2041 := Fr.app N2038 Nq2041
            dsimp only [oD1, oD2, oD3, oD4]
            refine w_aload X2041 hx (.ref a2021) (dB at_224) 226 rfl rfl rfl ?_
            refine w_acmp X2041 hx rfl rfl (dB at_226) false (decide_eq_false nofun) 233 (by decide) (by decide) ?_
            refine w_iconst X2041 hx (dB at_233) 234 rfl (0 : Int32) (by decide) ?_
            refine w_iconst X2041 hx (dB at_234) 235 rfl (1 : Int32) (by decide) ?_
            refine w_iload X2041 hx z2035 (dB at_235) 237 rfl rfl ?_
            refine w_icmp_ge X2041 hx 1 z2035.toInt (by decide) rfl (dB at_237) 244 240 (fun c2042 => ?_) (fun c2042 => ?_)
            ·refine w_iconst X2041 hx (dB at_244) 245 rfl (0 : Int32) (by decide) ?_
             refine w_icmp_ne X2041 hx 0 0 (by decide) (by decide) (dB at_245) 283 248 (fun c2043 => ?_) (fun c2043 => ?_)
             ·exfalso; omega
             ·refine w_aload X2041 hx (.ref a2026) (dB at_248) 250 rfl rfl rfl ?_
              refine w_iload X2041 hx (0 : Int32) (dB at_250) 252 rfl rfl ?_
              refine w_virt X2041 hx hZ hown eq2041 (rm9i0 l Z a0 hw [] a2026 va2031 kv2031 [.null, .null, .null] .null h2034 n0 Z2034 jf2034_1 jf2034_3 (by rfl) (by rfl)) (tw_53 hw) (tw_54 hw) (notFace_of_selects (args := #[]) (mvT hZ (tw_56 hw))) (tw_56 hw) (tw_55 hw) (tw_19 hw) (tw_57 hw) (by decide) a2026 jf2034_0 (by rw [hml]; rfl) [(.int (0 : Int32))] [] (lenOf pd_5 rfl) rfl rfl (by decide) 0 rfl (by decide) (by decide) (by decide) (dB at_252) 255 rfl (fun r2044 T2044 L2044 X2044 q2044 => ?_)
              obtain ⟨rfl, Nq2044, eq2044⟩ := q2044
              have N2044 := Fr.app N2041 Nq2044
              dsimp only [oD1, oD2, oD3, oD4]
              refine w_aload X2044 hx (.ref a2021) (dB at_255) 257 rfl rfl rfl ?_
              refine w_acmp X2044 hx rfl rfl (dB at_257) false (decide_eq_false nofun) 264 (by decide) (by decide) ?_
              refine w_iconst X2044 hx (dB at_264) 265 rfl (0 : Int32) (by decide) ?_
              refine w_iconst X2044 hx (dB at_265) 266 rfl (2 : Int32) (by decide) ?_
              refine w_iload X2044 hx z2035 (dB at_266) 268 rfl rfl ?_
              refine w_icmp_ge X2044 hx 2 z2035.toInt (by decide) rfl (dB at_268) 275 271 (fun c2045 => ?_) (fun c2045 => ?_)
              ·refine w_iconst X2044 hx (dB at_275) 276 rfl (0 : Int32) (by decide) ?_
               refine w_icmp_ne X2044 hx 0 0 (by decide) (by decide) (dB at_276) 283 279 (fun c2046 => ?_) (fun c2046 => ?_)
               ·exfalso; omega
               ·refine w_iconst X2044 hx (dB at_279) 280 rfl (1 : Int32) (by decide) ?_
                refine w_goto X2044 hx (dB at_280) 284 ?_
                refine w_retN X2044 hx hlk (t := .boolean) hret (by simp) (dB at_284) (by decide) (by decide) ?_
                rw [eq2044]
                exact ⟨rfl, N2044⟩
              ·exfalso; omega
            ·exfalso; omega
          ·exfalso; omega
        have J2047 : ∀ (T' : State) (h' : Heap) (L' : List Loc) (_ : Stand p l e room_1 s m #[(.int xp), (.int xq), (.int xr)] below meth c T' L' 4 10) (_ : T'.heap = h') (_ : Fr n0 L') (_ : n0 ≤ h'.size) (_ : Keep h0 h' []) (j2047_0 : Int32) (j2047_1 : Int32) , (Exa Z h' a2026 cN_2) → (Fld Z h' a2026 cN_2 "values" cN_3 (.ref va2031)) → (Fld Z h' a2026 cN_2 "trailSize" "I" (.int (1 : Int32))) → (Arv Z h' va2031 kv2031 (.object cN_4) (3 : Int32) [.null, (.ref a2021), .null] .null) → (0 ≤ j2047_0.toInt ∧ j2047_0.toInt ≤ 3 ∧ 0 ≤ j2047_1.toInt ∧ j2047_1.toInt ≤ 4 ∧ ((j2047_0.toInt ≤ j2047_1.toInt ∧ j2047_0.toInt = 1) ∨ (j2047_1.toInt < j2047_0.toInt ∧ j2047_1.toInt = 1))) → Wk p e below (FN s (Q0 Z xp xq xr h0 n0) 4 10) T' (mkF m 167 #[.val (.int xp), .val (.int xq), .val (.int xr), .val (.int (3 : Int32)), .val (.int (1 : Int32)), .val (.int (0 : Int32)), .val (.int (2 : Int32)), .val (.int (1 : Int32)), .val (.int (2 : Int32)), .val (.int (0 : Int32)), .val (.int j2047_0), .val (.int j2047_1), .val (.ref a2021), .val (.ref a2026), .unset] []) := by
         intro T2047 h2047 L2047 X2047 e2047_ N2047 Z2047 K2047 j2047_0 j2047_1  jf2047_0 jf2047_1 jf2047_2 jf2047_3 f2047
         refine w_iload X2047 hx j2047_0 (dB at_167) 169 rfl rfl ?_
         refine w_iload X2047 hx j2047_1 (dB at_169) 171 rfl rfl ?_
         refine w_callS X2047 hx hZ hown e2047_ (rm7 l Z a0 hw [] j2047_0 j2047_1 h2047 n0 Z2047 ) (tw_44 hw) (tw_45 hw) (tw_46 hw) (tw_47 hw) (by decide) (by rw [hml]; rfl) [(.int j2047_0), (.int j2047_1)] [] (lenOf pd_3 rfl) rfl rfl (by decide) 0 rfl (by decide) (by decide) (by decide) (dB at_171) 174 rfl (fun r2048 T2048 L2048 X2048 q2048 => ?_)
         obtain ⟨z2048, rfl, f2048, Nq2048, eq2048⟩ := q2048
         have N2048 := Fr.app N2047 Nq2048
         dsimp only [oD1, oD2, oD3, oD4]
         refine w_istore X2048 hx (dB at_174) 176 rfl #[.val (.int xp), .val (.int xq), .val (.int xr), .val (.int (3 : Int32)), .val (.int (1 : Int32)), .val (.int (0 : Int32)), .val (.int (2 : Int32)), .val (.int (1 : Int32)), .val (.int (2 : Int32)), .val (.int (0 : Int32)), .val (.int j2047_0), .val (.int j2047_1), .val (.ref a2021), .val (.ref a2026), .val (.int z2048)] rfl ?_
         refine w_aload X2048 hx (.ref a2026) (dB at_176) 178 rfl rfl rfl ?_
         refine w_virt X2048 hx hZ hown eq2048 (rm8 l Z a0 hw [] a2026 (1 : Int32) h2047 n0 Z2047 jf2047_2) (tw_48 hw) (tw_49 hw) (notFace_of_selects (args := #[]) (mvT hZ (tw_51 hw))) (tw_51 hw) (tw_50 hw) (tw_19 hw) (tw_52 hw) (by decide) a2026 jf2047_0 (by rw [hml]; rfl) [] [] (lenOf pd_4 rfl) rfl rfl (by decide) 0 rfl (by decide) (by decide) (by decide) (dB at_178) 181 rfl (fun r2049 T2049 L2049 X2049 q2049 => ?_)
         obtain ⟨rfl, Nq2049, eq2049⟩ := q2049
         have N2049 := Fr.app N2048 Nq2049
         dsimp only [oD1, oD2, oD3, oD4]
         refine w_iload X2049 hx z2048 (dB at_181) 183 rfl rfl ?_
         refine w_icmp_ne X2049 hx 1 z2048.toInt (by decide) rfl (dB at_183) 283 186 (fun c2050 => ?_) (fun c2050 => ?_)
         ·exfalso; omega
         ·refine w_aload X2049 hx (.ref a2026) (dB at_186) 188 rfl rfl rfl ?_
          refine w_iload X2049 hx (1 : Int32) (dB at_188) 190 rfl rfl ?_
          refine w_virt X2049 hx hZ hown eq2049 (rm9i1 l Z a0 hw [] a2026 va2031 kv2031 [.null, (.ref a2021), .null] (.ref a2021) h2047 n0 Z2047 jf2047_1 jf2047_3 (by rfl) (by rfl)) (tw_53 hw) (tw_54 hw) (notFace_of_selects (args := #[]) (mvT hZ (tw_56 hw))) (tw_56 hw) (tw_55 hw) (tw_19 hw) (tw_57 hw) (by decide) a2026 jf2047_0 (by rw [hml]; rfl) [(.int (1 : Int32))] [] (lenOf pd_5 rfl) rfl rfl (by decide) 0 rfl (by decide) (by decide) (by decide) (dB at_190) 193 rfl (fun r2051 T2051 L2051 X2051 q2051 => ?_)
          obtain ⟨rfl, Nq2051, eq2051⟩ := q2051
          have N2051 := Fr.app N2049 Nq2051
          dsimp only [oD1, oD2, oD3, oD4]
          refine w_aload X2051 hx (.ref a2021) (dB at_193) 195 rfl rfl rfl ?_
          refine w_acmp X2051 hx rfl rfl (dB at_195) true (decide_eq_true rfl) 198 (by decide) (by decide) ?_
          refine w_iconst X2051 hx (dB at_198) 199 rfl (1 : Int32) (by decide) ?_
          refine w_goto X2051 hx (dB at_199) 203 ?_
          refine w_iconst X2051 hx (dB at_203) 204 rfl (0 : Int32) (by decide) ?_
          refine w_iload X2051 hx z2048 (dB at_204) 206 rfl rfl ?_
          refine w_icmp_ge X2051 hx 0 z2048.toInt (by decide) rfl (dB at_206) 213 209 (fun c2052 => ?_) (fun c2052 => ?_)
          ·exfalso; omega
          ·refine w_iconst X2051 hx (dB at_209) 210 rfl (1 : Int32) (by decide) ?_
           refine w_goto X2051 hx (dB at_210) 214 ?_
           refine w_icmp_ne X2051 hx 1 1 (by decide) (by decide) (dB at_214) 283 217 (fun c2053 => ?_) (fun c2053 => ?_)
           ·exfalso; omega
           ·refine w_aload X2051 hx (.ref a2026) (dB at_217) 219 rfl rfl rfl ?_
            refine w_iload X2051 hx (2 : Int32) (dB at_219) 221 rfl rfl ?_
            refine w_virt X2051 hx hZ hown eq2051 (rm9i2 l Z a0 hw [] a2026 va2031 kv2031 [.null, (.ref a2021), .null] .null h2047 n0 Z2047 jf2047_1 jf2047_3 (by rfl) (by rfl)) (tw_53 hw) (tw_54 hw) (notFace_of_selects (args := #[]) (mvT hZ (tw_56 hw))) (tw_56 hw) (tw_55 hw) (tw_19 hw) (tw_57 hw) (by decide) a2026 jf2047_0 (by rw [hml]; rfl) [(.int (2 : Int32))] [] (lenOf pd_5 rfl) rfl rfl (by decide) 0 rfl (by decide) (by decide) (by decide) (dB at_221) 224 rfl (fun r2054 T2054 L2054 X2054 q2054 => ?_)
            obtain ⟨rfl, Nq2054, eq2054⟩ := q2054
            have N2054 := Fr.app N2051 Nq2054
            dsimp only [oD1, oD2, oD3, oD4]
            refine w_aload X2054 hx (.ref a2021) (dB at_224) 226 rfl rfl rfl ?_
            refine w_acmp X2054 hx rfl rfl (dB at_226) false (decide_eq_false nofun) 233 (by decide) (by decide) ?_
            refine w_iconst X2054 hx (dB at_233) 234 rfl (0 : Int32) (by decide) ?_
            refine w_iconst X2054 hx (dB at_234) 235 rfl (1 : Int32) (by decide) ?_
            refine w_iload X2054 hx z2048 (dB at_235) 237 rfl rfl ?_
            refine w_icmp_ge X2054 hx 1 z2048.toInt (by decide) rfl (dB at_237) 244 240 (fun c2055 => ?_) (fun c2055 => ?_)
            ·refine w_iconst X2054 hx (dB at_244) 245 rfl (0 : Int32) (by decide) ?_
             refine w_icmp_ne X2054 hx 0 0 (by decide) (by decide) (dB at_245) 283 248 (fun c2056 => ?_) (fun c2056 => ?_)
             ·exfalso; omega
             ·refine w_aload X2054 hx (.ref a2026) (dB at_248) 250 rfl rfl rfl ?_
              refine w_iload X2054 hx (0 : Int32) (dB at_250) 252 rfl rfl ?_
              refine w_virt X2054 hx hZ hown eq2054 (rm9i0 l Z a0 hw [] a2026 va2031 kv2031 [.null, (.ref a2021), .null] .null h2047 n0 Z2047 jf2047_1 jf2047_3 (by rfl) (by rfl)) (tw_53 hw) (tw_54 hw) (notFace_of_selects (args := #[]) (mvT hZ (tw_56 hw))) (tw_56 hw) (tw_55 hw) (tw_19 hw) (tw_57 hw) (by decide) a2026 jf2047_0 (by rw [hml]; rfl) [(.int (0 : Int32))] [] (lenOf pd_5 rfl) rfl rfl (by decide) 0 rfl (by decide) (by decide) (by decide) (dB at_252) 255 rfl (fun r2057 T2057 L2057 X2057 q2057 => ?_)
              obtain ⟨rfl, Nq2057, eq2057⟩ := q2057
              have N2057 := Fr.app N2054 Nq2057
              dsimp only [oD1, oD2, oD3, oD4]
              refine w_aload X2057 hx (.ref a2021) (dB at_255) 257 rfl rfl rfl ?_
              refine w_acmp X2057 hx rfl rfl (dB at_257) false (decide_eq_false nofun) 264 (by decide) (by decide) ?_
              refine w_iconst X2057 hx (dB at_264) 265 rfl (0 : Int32) (by decide) ?_
              refine w_iconst X2057 hx (dB at_265) 266 rfl (2 : Int32) (by decide) ?_
              refine w_iload X2057 hx z2048 (dB at_266) 268 rfl rfl ?_
              refine w_icmp_ge X2057 hx 2 z2048.toInt (by decide) rfl (dB at_268) 275 271 (fun c2058 => ?_) (fun c2058 => ?_)
              ·refine w_iconst X2057 hx (dB at_275) 276 rfl (0 : Int32) (by decide) ?_
               refine w_icmp_ne X2057 hx 0 0 (by decide) (by decide) (dB at_276) 283 279 (fun c2059 => ?_) (fun c2059 => ?_)
               ·exfalso; omega
               ·refine w_iconst X2057 hx (dB at_279) 280 rfl (1 : Int32) (by decide) ?_
                refine w_goto X2057 hx (dB at_280) 284 ?_
                refine w_retN X2057 hx hlk (t := .boolean) hret (by simp) (dB at_284) (by decide) (by decide) ?_
                rw [eq2057]
                exact ⟨rfl, N2057⟩
              ·exfalso; omega
            ·exfalso; omega
        have J2060 : ∀ (T' : State) (h' : Heap) (L' : List Loc) (_ : Stand p l e room_1 s m #[(.int xp), (.int xq), (.int xr)] below meth c T' L' 4 10) (_ : T'.heap = h') (_ : Fr n0 L') (_ : n0 ≤ h'.size) (_ : Keep h0 h' []) (j2060_0 : Int32) (j2060_1 : Int32) , (Exa Z h' a2026 cN_2) → (Fld Z h' a2026 cN_2 "values" cN_3 (.ref va2031)) → (Fld Z h' a2026 cN_2 "trailSize" "I" (.int (2 : Int32))) → (Arv Z h' va2031 kv2031 (.object cN_4) (3 : Int32) [.null, (.ref a2021), (.ref a2021)] .null) → (0 ≤ j2060_0.toInt ∧ j2060_0.toInt ≤ 3 ∧ 0 ≤ j2060_1.toInt ∧ j2060_1.toInt ≤ 4 ∧ ((j2060_0.toInt ≤ j2060_1.toInt ∧ j2060_0.toInt = 2) ∨ (j2060_1.toInt < j2060_0.toInt ∧ j2060_1.toInt = 2))) → Wk p e below (FN s (Q0 Z xp xq xr h0 n0) 4 10) T' (mkF m 167 #[.val (.int xp), .val (.int xq), .val (.int xr), .val (.int (3 : Int32)), .val (.int (1 : Int32)), .val (.int (0 : Int32)), .val (.int (2 : Int32)), .val (.int (1 : Int32)), .val (.int (2 : Int32)), .val (.int (0 : Int32)), .val (.int j2060_0), .val (.int j2060_1), .val (.ref a2021), .val (.ref a2026), .unset] []) := by
         intro T2060 h2060 L2060 X2060 e2060_ N2060 Z2060 K2060 j2060_0 j2060_1  jf2060_0 jf2060_1 jf2060_2 jf2060_3 f2060
         refine w_iload X2060 hx j2060_0 (dB at_167) 169 rfl rfl ?_
         refine w_iload X2060 hx j2060_1 (dB at_169) 171 rfl rfl ?_
         refine w_callS X2060 hx hZ hown e2060_ (rm7 l Z a0 hw [] j2060_0 j2060_1 h2060 n0 Z2060 ) (tw_44 hw) (tw_45 hw) (tw_46 hw) (tw_47 hw) (by decide) (by rw [hml]; rfl) [(.int j2060_0), (.int j2060_1)] [] (lenOf pd_3 rfl) rfl rfl (by decide) 0 rfl (by decide) (by decide) (by decide) (dB at_171) 174 rfl (fun r2061 T2061 L2061 X2061 q2061 => ?_)
         obtain ⟨z2061, rfl, f2061, Nq2061, eq2061⟩ := q2061
         have N2061 := Fr.app N2060 Nq2061
         dsimp only [oD1, oD2, oD3, oD4]
         refine w_istore X2061 hx (dB at_174) 176 rfl #[.val (.int xp), .val (.int xq), .val (.int xr), .val (.int (3 : Int32)), .val (.int (1 : Int32)), .val (.int (0 : Int32)), .val (.int (2 : Int32)), .val (.int (1 : Int32)), .val (.int (2 : Int32)), .val (.int (0 : Int32)), .val (.int j2060_0), .val (.int j2060_1), .val (.ref a2021), .val (.ref a2026), .val (.int z2061)] rfl ?_
         refine w_aload X2061 hx (.ref a2026) (dB at_176) 178 rfl rfl rfl ?_
         refine w_virt X2061 hx hZ hown eq2061 (rm8 l Z a0 hw [] a2026 (2 : Int32) h2060 n0 Z2060 jf2060_2) (tw_48 hw) (tw_49 hw) (notFace_of_selects (args := #[]) (mvT hZ (tw_51 hw))) (tw_51 hw) (tw_50 hw) (tw_19 hw) (tw_52 hw) (by decide) a2026 jf2060_0 (by rw [hml]; rfl) [] [] (lenOf pd_4 rfl) rfl rfl (by decide) 0 rfl (by decide) (by decide) (by decide) (dB at_178) 181 rfl (fun r2062 T2062 L2062 X2062 q2062 => ?_)
         obtain ⟨rfl, Nq2062, eq2062⟩ := q2062
         have N2062 := Fr.app N2061 Nq2062
         dsimp only [oD1, oD2, oD3, oD4]
         refine w_iload X2062 hx z2061 (dB at_181) 183 rfl rfl ?_
         refine w_icmp_ne X2062 hx 2 z2061.toInt (by decide) rfl (dB at_183) 283 186 (fun c2063 => ?_) (fun c2063 => ?_)
         ·exfalso; omega
         ·refine w_aload X2062 hx (.ref a2026) (dB at_186) 188 rfl rfl rfl ?_
          refine w_iload X2062 hx (1 : Int32) (dB at_188) 190 rfl rfl ?_
          refine w_virt X2062 hx hZ hown eq2062 (rm9i1 l Z a0 hw [] a2026 va2031 kv2031 [.null, (.ref a2021), (.ref a2021)] (.ref a2021) h2060 n0 Z2060 jf2060_1 jf2060_3 (by rfl) (by rfl)) (tw_53 hw) (tw_54 hw) (notFace_of_selects (args := #[]) (mvT hZ (tw_56 hw))) (tw_56 hw) (tw_55 hw) (tw_19 hw) (tw_57 hw) (by decide) a2026 jf2060_0 (by rw [hml]; rfl) [(.int (1 : Int32))] [] (lenOf pd_5 rfl) rfl rfl (by decide) 0 rfl (by decide) (by decide) (by decide) (dB at_190) 193 rfl (fun r2064 T2064 L2064 X2064 q2064 => ?_)
          obtain ⟨rfl, Nq2064, eq2064⟩ := q2064
          have N2064 := Fr.app N2062 Nq2064
          dsimp only [oD1, oD2, oD3, oD4]
          refine w_aload X2064 hx (.ref a2021) (dB at_193) 195 rfl rfl rfl ?_
          refine w_acmp X2064 hx rfl rfl (dB at_195) true (decide_eq_true rfl) 198 (by decide) (by decide) ?_
          refine w_iconst X2064 hx (dB at_198) 199 rfl (1 : Int32) (by decide) ?_
          refine w_goto X2064 hx (dB at_199) 203 ?_
          refine w_iconst X2064 hx (dB at_203) 204 rfl (0 : Int32) (by decide) ?_
          refine w_iload X2064 hx z2061 (dB at_204) 206 rfl rfl ?_
          refine w_icmp_ge X2064 hx 0 z2061.toInt (by decide) rfl (dB at_206) 213 209 (fun c2065 => ?_) (fun c2065 => ?_)
          ·exfalso; omega
          ·refine w_iconst X2064 hx (dB at_209) 210 rfl (1 : Int32) (by decide) ?_
           refine w_goto X2064 hx (dB at_210) 214 ?_
           refine w_icmp_ne X2064 hx 1 1 (by decide) (by decide) (dB at_214) 283 217 (fun c2066 => ?_) (fun c2066 => ?_)
           ·exfalso; omega
           ·refine w_aload X2064 hx (.ref a2026) (dB at_217) 219 rfl rfl rfl ?_
            refine w_iload X2064 hx (2 : Int32) (dB at_219) 221 rfl rfl ?_
            refine w_virt X2064 hx hZ hown eq2064 (rm9i2 l Z a0 hw [] a2026 va2031 kv2031 [.null, (.ref a2021), (.ref a2021)] (.ref a2021) h2060 n0 Z2060 jf2060_1 jf2060_3 (by rfl) (by rfl)) (tw_53 hw) (tw_54 hw) (notFace_of_selects (args := #[]) (mvT hZ (tw_56 hw))) (tw_56 hw) (tw_55 hw) (tw_19 hw) (tw_57 hw) (by decide) a2026 jf2060_0 (by rw [hml]; rfl) [(.int (2 : Int32))] [] (lenOf pd_5 rfl) rfl rfl (by decide) 0 rfl (by decide) (by decide) (by decide) (dB at_221) 224 rfl (fun r2067 T2067 L2067 X2067 q2067 => ?_)
            obtain ⟨rfl, Nq2067, eq2067⟩ := q2067
            have N2067 := Fr.app N2064 Nq2067
            dsimp only [oD1, oD2, oD3, oD4]
            refine w_aload X2067 hx (.ref a2021) (dB at_224) 226 rfl rfl rfl ?_
            refine w_acmp X2067 hx rfl rfl (dB at_226) true (decide_eq_true rfl) 229 (by decide) (by decide) ?_
            refine w_iconst X2067 hx (dB at_229) 230 rfl (1 : Int32) (by decide) ?_
            refine w_goto X2067 hx (dB at_230) 234 ?_
            refine w_iconst X2067 hx (dB at_234) 235 rfl (1 : Int32) (by decide) ?_
            refine w_iload X2067 hx z2061 (dB at_235) 237 rfl rfl ?_
            refine w_icmp_ge X2067 hx 1 z2061.toInt (by decide) rfl (dB at_237) 244 240 (fun c2068 => ?_) (fun c2068 => ?_)
            ·exfalso; omega
            ·refine w_iconst X2067 hx (dB at_240) 241 rfl (1 : Int32) (by decide) ?_
             refine w_goto X2067 hx (dB at_241) 245 ?_
             refine w_icmp_ne X2067 hx 1 1 (by decide) (by decide) (dB at_245) 283 248 (fun c2069 => ?_) (fun c2069 => ?_)
             ·exfalso; omega
             ·refine w_aload X2067 hx (.ref a2026) (dB at_248) 250 rfl rfl rfl ?_
              refine w_iload X2067 hx (0 : Int32) (dB at_250) 252 rfl rfl ?_
              refine w_virt X2067 hx hZ hown eq2067 (rm9i0 l Z a0 hw [] a2026 va2031 kv2031 [.null, (.ref a2021), (.ref a2021)] .null h2060 n0 Z2060 jf2060_1 jf2060_3 (by rfl) (by rfl)) (tw_53 hw) (tw_54 hw) (notFace_of_selects (args := #[]) (mvT hZ (tw_56 hw))) (tw_56 hw) (tw_55 hw) (tw_19 hw) (tw_57 hw) (by decide) a2026 jf2060_0 (by rw [hml]; rfl) [(.int (0 : Int32))] [] (lenOf pd_5 rfl) rfl rfl (by decide) 0 rfl (by decide) (by decide) (by decide) (dB at_252) 255 rfl (fun r2070 T2070 L2070 X2070 q2070 => ?_)
              obtain ⟨rfl, Nq2070, eq2070⟩ := q2070
              have N2070 := Fr.app N2067 Nq2070
              dsimp only [oD1, oD2, oD3, oD4]
              refine w_aload X2070 hx (.ref a2021) (dB at_255) 257 rfl rfl rfl ?_
              refine w_acmp X2070 hx rfl rfl (dB at_257) false (decide_eq_false nofun) 264 (by decide) (by decide) ?_
              refine w_iconst X2070 hx (dB at_264) 265 rfl (0 : Int32) (by decide) ?_
              refine w_iconst X2070 hx (dB at_265) 266 rfl (2 : Int32) (by decide) ?_
              refine w_iload X2070 hx z2061 (dB at_266) 268 rfl rfl ?_
              refine w_icmp_ge X2070 hx 2 z2061.toInt (by decide) rfl (dB at_268) 275 271 (fun c2071 => ?_) (fun c2071 => ?_)
              ·refine w_iconst X2070 hx (dB at_275) 276 rfl (0 : Int32) (by decide) ?_
               refine w_icmp_ne X2070 hx 0 0 (by decide) (by decide) (dB at_276) 283 279 (fun c2072 => ?_) (fun c2072 => ?_)
               ·exfalso; omega
               ·refine w_iconst X2070 hx (dB at_279) 280 rfl (1 : Int32) (by decide) ?_
                refine w_goto X2070 hx (dB at_280) 284 ?_
                refine w_retN X2070 hx hlk (t := .boolean) hret (by simp) (dB at_284) (by decide) (by decide) ?_
                rw [eq2070]
                exact ⟨rfl, N2070⟩
              ·exfalso; omega
        have J2073 : ∀ (T' : State) (h' : Heap) (L' : List Loc) (_ : Stand p l e room_1 s m #[(.int xp), (.int xq), (.int xr)] below meth c T' L' 4 10) (_ : T'.heap = h') (_ : Fr n0 L') (_ : n0 ≤ h'.size) (_ : Keep h0 h' []) (j2073_0 : Int32) (j2073_1 : Int32) , (Exa Z h' a2026 cN_2) → (Fld Z h' a2026 cN_2 "values" cN_3 (.ref va2031)) → (Fld Z h' a2026 cN_2 "trailSize" "I" (.int (3 : Int32))) → (Arv Z h' va2031 kv2031 (.object cN_4) (3 : Int32) [(.ref a2021), (.ref a2021), (.ref a2021)] .null) → (0 ≤ j2073_0.toInt ∧ j2073_0.toInt ≤ 3 ∧ 0 ≤ j2073_1.toInt ∧ j2073_1.toInt ≤ 4 ∧ ((j2073_0.toInt ≤ j2073_1.toInt ∧ j2073_0.toInt = 3) ∨ (j2073_1.toInt < j2073_0.toInt ∧ j2073_1.toInt = 3))) → Wk p e below (FN s (Q0 Z xp xq xr h0 n0) 4 10) T' (mkF m 167 #[.val (.int xp), .val (.int xq), .val (.int xr), .val (.int (3 : Int32)), .val (.int (1 : Int32)), .val (.int (0 : Int32)), .val (.int (2 : Int32)), .val (.int (1 : Int32)), .val (.int (2 : Int32)), .val (.int (0 : Int32)), .val (.int j2073_0), .val (.int j2073_1), .val (.ref a2021), .val (.ref a2026), .unset] []) := by
         intro T2073 h2073 L2073 X2073 e2073_ N2073 Z2073 K2073 j2073_0 j2073_1  jf2073_0 jf2073_1 jf2073_2 jf2073_3 f2073
         refine w_iload X2073 hx j2073_0 (dB at_167) 169 rfl rfl ?_
         refine w_iload X2073 hx j2073_1 (dB at_169) 171 rfl rfl ?_
         refine w_callS X2073 hx hZ hown e2073_ (rm7 l Z a0 hw [] j2073_0 j2073_1 h2073 n0 Z2073 ) (tw_44 hw) (tw_45 hw) (tw_46 hw) (tw_47 hw) (by decide) (by rw [hml]; rfl) [(.int j2073_0), (.int j2073_1)] [] (lenOf pd_3 rfl) rfl rfl (by decide) 0 rfl (by decide) (by decide) (by decide) (dB at_171) 174 rfl (fun r2074 T2074 L2074 X2074 q2074 => ?_)
         obtain ⟨z2074, rfl, f2074, Nq2074, eq2074⟩ := q2074
         have N2074 := Fr.app N2073 Nq2074
         dsimp only [oD1, oD2, oD3, oD4]
         refine w_istore X2074 hx (dB at_174) 176 rfl #[.val (.int xp), .val (.int xq), .val (.int xr), .val (.int (3 : Int32)), .val (.int (1 : Int32)), .val (.int (0 : Int32)), .val (.int (2 : Int32)), .val (.int (1 : Int32)), .val (.int (2 : Int32)), .val (.int (0 : Int32)), .val (.int j2073_0), .val (.int j2073_1), .val (.ref a2021), .val (.ref a2026), .val (.int z2074)] rfl ?_
         refine w_aload X2074 hx (.ref a2026) (dB at_176) 178 rfl rfl rfl ?_
         refine w_virt X2074 hx hZ hown eq2074 (rm8 l Z a0 hw [] a2026 (3 : Int32) h2073 n0 Z2073 jf2073_2) (tw_48 hw) (tw_49 hw) (notFace_of_selects (args := #[]) (mvT hZ (tw_51 hw))) (tw_51 hw) (tw_50 hw) (tw_19 hw) (tw_52 hw) (by decide) a2026 jf2073_0 (by rw [hml]; rfl) [] [] (lenOf pd_4 rfl) rfl rfl (by decide) 0 rfl (by decide) (by decide) (by decide) (dB at_178) 181 rfl (fun r2075 T2075 L2075 X2075 q2075 => ?_)
         obtain ⟨rfl, Nq2075, eq2075⟩ := q2075
         have N2075 := Fr.app N2074 Nq2075
         dsimp only [oD1, oD2, oD3, oD4]
         refine w_iload X2075 hx z2074 (dB at_181) 183 rfl rfl ?_
         refine w_icmp_ne X2075 hx 3 z2074.toInt (by decide) rfl (dB at_183) 283 186 (fun c2076 => ?_) (fun c2076 => ?_)
         ·exfalso; omega
         ·refine w_aload X2075 hx (.ref a2026) (dB at_186) 188 rfl rfl rfl ?_
          refine w_iload X2075 hx (1 : Int32) (dB at_188) 190 rfl rfl ?_
          refine w_virt X2075 hx hZ hown eq2075 (rm9i1 l Z a0 hw [] a2026 va2031 kv2031 [(.ref a2021), (.ref a2021), (.ref a2021)] (.ref a2021) h2073 n0 Z2073 jf2073_1 jf2073_3 (by rfl) (by rfl)) (tw_53 hw) (tw_54 hw) (notFace_of_selects (args := #[]) (mvT hZ (tw_56 hw))) (tw_56 hw) (tw_55 hw) (tw_19 hw) (tw_57 hw) (by decide) a2026 jf2073_0 (by rw [hml]; rfl) [(.int (1 : Int32))] [] (lenOf pd_5 rfl) rfl rfl (by decide) 0 rfl (by decide) (by decide) (by decide) (dB at_190) 193 rfl (fun r2077 T2077 L2077 X2077 q2077 => ?_)
          obtain ⟨rfl, Nq2077, eq2077⟩ := q2077
          have N2077 := Fr.app N2075 Nq2077
          dsimp only [oD1, oD2, oD3, oD4]
          refine w_aload X2077 hx (.ref a2021) (dB at_193) 195 rfl rfl rfl ?_
          refine w_acmp X2077 hx rfl rfl (dB at_195) true (decide_eq_true rfl) 198 (by decide) (by decide) ?_
          refine w_iconst X2077 hx (dB at_198) 199 rfl (1 : Int32) (by decide) ?_
          refine w_goto X2077 hx (dB at_199) 203 ?_
          refine w_iconst X2077 hx (dB at_203) 204 rfl (0 : Int32) (by decide) ?_
          refine w_iload X2077 hx z2074 (dB at_204) 206 rfl rfl ?_
          refine w_icmp_ge X2077 hx 0 z2074.toInt (by decide) rfl (dB at_206) 213 209 (fun c2078 => ?_) (fun c2078 => ?_)
          ·exfalso; omega
          ·refine w_iconst X2077 hx (dB at_209) 210 rfl (1 : Int32) (by decide) ?_
           refine w_goto X2077 hx (dB at_210) 214 ?_
           refine w_icmp_ne X2077 hx 1 1 (by decide) (by decide) (dB at_214) 283 217 (fun c2079 => ?_) (fun c2079 => ?_)
           ·exfalso; omega
           ·refine w_aload X2077 hx (.ref a2026) (dB at_217) 219 rfl rfl rfl ?_
            refine w_iload X2077 hx (2 : Int32) (dB at_219) 221 rfl rfl ?_
            refine w_virt X2077 hx hZ hown eq2077 (rm9i2 l Z a0 hw [] a2026 va2031 kv2031 [(.ref a2021), (.ref a2021), (.ref a2021)] (.ref a2021) h2073 n0 Z2073 jf2073_1 jf2073_3 (by rfl) (by rfl)) (tw_53 hw) (tw_54 hw) (notFace_of_selects (args := #[]) (mvT hZ (tw_56 hw))) (tw_56 hw) (tw_55 hw) (tw_19 hw) (tw_57 hw) (by decide) a2026 jf2073_0 (by rw [hml]; rfl) [(.int (2 : Int32))] [] (lenOf pd_5 rfl) rfl rfl (by decide) 0 rfl (by decide) (by decide) (by decide) (dB at_221) 224 rfl (fun r2080 T2080 L2080 X2080 q2080 => ?_)
            obtain ⟨rfl, Nq2080, eq2080⟩ := q2080
            have N2080 := Fr.app N2077 Nq2080
            dsimp only [oD1, oD2, oD3, oD4]
            refine w_aload X2080 hx (.ref a2021) (dB at_224) 226 rfl rfl rfl ?_
            refine w_acmp X2080 hx rfl rfl (dB at_226) true (decide_eq_true rfl) 229 (by decide) (by decide) ?_
            refine w_iconst X2080 hx (dB at_229) 230 rfl (1 : Int32) (by decide) ?_
            refine w_goto X2080 hx (dB at_230) 234 ?_
            refine w_iconst X2080 hx (dB at_234) 235 rfl (1 : Int32) (by decide) ?_
            refine w_iload X2080 hx z2074 (dB at_235) 237 rfl rfl ?_
            refine w_icmp_ge X2080 hx 1 z2074.toInt (by decide) rfl (dB at_237) 244 240 (fun c2081 => ?_) (fun c2081 => ?_)
            ·exfalso; omega
            ·refine w_iconst X2080 hx (dB at_240) 241 rfl (1 : Int32) (by decide) ?_
             refine w_goto X2080 hx (dB at_241) 245 ?_
             refine w_icmp_ne X2080 hx 1 1 (by decide) (by decide) (dB at_245) 283 248 (fun c2082 => ?_) (fun c2082 => ?_)
             ·exfalso; omega
             ·refine w_aload X2080 hx (.ref a2026) (dB at_248) 250 rfl rfl rfl ?_
              refine w_iload X2080 hx (0 : Int32) (dB at_250) 252 rfl rfl ?_
              refine w_virt X2080 hx hZ hown eq2080 (rm9i0 l Z a0 hw [] a2026 va2031 kv2031 [(.ref a2021), (.ref a2021), (.ref a2021)] (.ref a2021) h2073 n0 Z2073 jf2073_1 jf2073_3 (by rfl) (by rfl)) (tw_53 hw) (tw_54 hw) (notFace_of_selects (args := #[]) (mvT hZ (tw_56 hw))) (tw_56 hw) (tw_55 hw) (tw_19 hw) (tw_57 hw) (by decide) a2026 jf2073_0 (by rw [hml]; rfl) [(.int (0 : Int32))] [] (lenOf pd_5 rfl) rfl rfl (by decide) 0 rfl (by decide) (by decide) (by decide) (dB at_252) 255 rfl (fun r2083 T2083 L2083 X2083 q2083 => ?_)
              obtain ⟨rfl, Nq2083, eq2083⟩ := q2083
              have N2083 := Fr.app N2080 Nq2083
              dsimp only [oD1, oD2, oD3, oD4]
              refine w_aload X2083 hx (.ref a2021) (dB at_255) 257 rfl rfl rfl ?_
              refine w_acmp X2083 hx rfl rfl (dB at_257) true (decide_eq_true rfl) 260 (by decide) (by decide) ?_
              refine w_iconst X2083 hx (dB at_260) 261 rfl (1 : Int32) (by decide) ?_
              refine w_goto X2083 hx (dB at_261) 265 ?_
              refine w_iconst X2083 hx (dB at_265) 266 rfl (2 : Int32) (by decide) ?_
              refine w_iload X2083 hx z2074 (dB at_266) 268 rfl rfl ?_
              refine w_icmp_ge X2083 hx 2 z2074.toInt (by decide) rfl (dB at_268) 275 271 (fun c2084 => ?_) (fun c2084 => ?_)
              ·exfalso; omega
              ·refine w_iconst X2083 hx (dB at_271) 272 rfl (1 : Int32) (by decide) ?_
               refine w_goto X2083 hx (dB at_272) 276 ?_
               refine w_icmp_ne X2083 hx 1 1 (by decide) (by decide) (dB at_276) 283 279 (fun c2085 => ?_) (fun c2085 => ?_)
               ·exfalso; omega
               ·refine w_iconst X2083 hx (dB at_279) 280 rfl (1 : Int32) (by decide) ?_
                refine w_goto X2083 hx (dB at_280) 284 ?_
                refine w_retN X2083 hx hlk (t := .boolean) hret (by simp) (dB at_284) (by decide) (by decide) ?_
                rw [eq2083]
                exact ⟨rfl, N2083⟩
        have s2086 : v2018.toInt = 0 ∨ v2018.toInt = 1 ∨ v2018.toInt = 2 ∨ v2018.toInt = 3 := by omega
        rcases s2086 with s2086 | s2086 | s2086 | s2086
        ·obtain rfl : v2018 = (0 : Int32) := eqI (s2086.trans (by decide))
         have z2086 : (0 : Int32).toInt = 0 := by decide
         refine w_iload X2031 hx (0 : Int32) (dB at_116) 118 rfl rfl ?_
         refine w_if_le X2031 hx 0 (by decide) (dB at_118) 130 121 (fun c2087 => ?_) (fun c2087 => ?_)
         ·refine w_iload X2031 hx (0 : Int32) (dB at_130) 132 rfl rfl ?_
          refine w_iconst X2031 hx (dB at_132) 133 rfl (1 : Int32) (by decide) ?_
          refine w_icmp_le X2031 hx 0 1 (by decide) (by decide) (dB at_133) 145 136 (fun c2088 => ?_) (fun c2088 => ?_)
          ·refine w_iload X2031 hx (0 : Int32) (dB at_145) 147 rfl rfl ?_
           refine w_iconst X2031 hx (dB at_147) 148 rfl (2 : Int32) (by decide) ?_
           refine w_icmp_le X2031 hx 0 2 (by decide) (by decide) (dB at_148) 160 151 (fun c2089 => ?_) (fun c2089 => ?_)
           ·refine w_aload X2031 hx (.ref a2026) (dB at_160) 162 rfl rfl rfl ?_
            refine w_iload X2031 hx v2020 (dB at_162) 164 rfl rfl ?_
            refine w_virt X2031 hx hZ hown rfl (rm6ge0 l Z a0 hw [] a2026 v2020 T2031.heap n0 Z2031 G2031_2 (by omega)) (tw_39 hw) (tw_40 hw) (notFace_of_selects (args := #[]) (mvT hZ (tw_42 hw))) (tw_42 hw) (tw_41 hw) (tw_19 hw) (tw_43 hw) (by decide) a2026 F2033 (by rw [hml]; rfl) [(.int v2020)] [] (lenOf pd_2 rfl) rfl rfl (by decide) 0 rfl (by decide) (by decide) (by decide) (dB at_164) 167 rfl (fun r2091 T2091 L2091 X2091 q2091 => ?_)
            obtain ⟨rfl, Nq2091, eq2091⟩ := q2091
            have N2091 := Fr.app N2031 Nq2091
            dsimp only [oD1, oD2, oD3, oD4]
            exact J2034 _ _ _ (X2091.more (by decide) (by decide)) eq2091 N2091 Z2031 K2031 (0 : Int32) v2020  F2033 G2031_0 G2031_2 G2031_3 (by have hz1 : (0 : Int32).toInt = 0 := (by decide); omega)
           ·exfalso; omega
          ·exfalso; omega
         ·exfalso; omega
        ·obtain rfl : v2018 = (1 : Int32) := eqI (s2086.trans (by decide))
         have z2086 : (1 : Int32).toInt = 1 := by decide
         refine w_iload X2031 hx (1 : Int32) (dB at_116) 118 rfl rfl ?_
         refine w_if_le X2031 hx 1 (by decide) (dB at_118) 130 121 (fun c2092 => ?_) (fun c2092 => ?_)
         ·exfalso; omega
         ·refine w_aload X2031 hx (.ref a2026) (dB at_121) 123 rfl rfl rfl ?_
          refine w_iload X2031 hx (1 : Int32) (dB at_123) 125 rfl rfl ?_
          refine w_aload X2031 hx (.ref a2021) (dB at_125) 127 rfl rfl rfl ?_
          refine w_virt X2031 hx hZ hown rfl (rm5ti1 l Z a0 hw [] a2026 a2021 va2031 ta2031 kv2031 kt2031 T2031.heap n0 Z2031 F2033 G2031_0 G2031_1 G2031_2 G2031_3 G2031_4 F2032 g_a2026 g_ta2031 g_va2031 (by exact nq2031_0) (by exact ov2031_0)) (tw_31 hw) (tw_32 hw) (notFace_of_selects (args := #[]) (mvT hZ (tw_34 hw))) (tw_34 hw) (tw_33 hw) (tw_19 hw) (tw_35 hw) (by decide) a2026 F2033 (by rw [hml]; rfl) [(.int (1 : Int32)), (.ref a2021)] [] (lenOf pd_6 rfl) rfl rfl (by decide) 0 rfl (by decide) (by decide) (by decide) (dB at_127) 130 rfl (fun r2093 T2093 L2093 X2093 q2093 => ?_)
          obtain ⟨rfl, Nq2093, Kq2093, G2093_0, G2093_1, G2093_2, G2093_3, G2093_4⟩ := q2093
          have N2093 := Fr.app N2031 Nq2093
          have F2094 : Exa Z T2093.heap a2021 cN_1 := F2032.keep Kq2093
          have F2095 : Exa Z T2093.heap a2026 cN_2 := F2033.keep Kq2093
          have Z2093 : n0 ≤ T2093.heap.size := Nat.le_trans Z2031 Kq2093.1
          have K2093 : Keep h0 T2093.heap [] := K2031.trans Kq2093 (allS (Or.inr s_a2026) (allS (Or.inr s_ta2031) (allS (Or.inr s_va2031) all0)))
          dsimp only [oD1, oD2, oD3, oD4]
          refine w_iload X2093 hx (1 : Int32) (dB at_130) 132 rfl rfl ?_
          refine w_iconst X2093 hx (dB at_132) 133 rfl (1 : Int32) (by decide) ?_
          refine w_icmp_le X2093 hx 1 1 (by decide) (by decide) (dB at_133) 145 136 (fun c2096 => ?_) (fun c2096 => ?_)
          ·refine w_iload X2093 hx (1 : Int32) (dB at_145) 147 rfl rfl ?_
           refine w_iconst X2093 hx (dB at_147) 148 rfl (2 : Int32) (by decide) ?_
           refine w_icmp_le X2093 hx 1 2 (by decide) (by decide) (dB at_148) 160 151 (fun c2097 => ?_) (fun c2097 => ?_)
           ·have s2098 : v2020.toInt = 0 ∨ 1 ≤ v2020.toInt := by omega
            rcases s2098 with s2098 | s2098
            ·obtain rfl : v2020 = (0 : Int32) := eqI (s2098.trans (by decide))
             have z2098 : (0 : Int32).toInt = 0 := by decide
             refine w_aload X2093 hx (.ref a2026) (dB at_160) 162 rfl rfl rfl ?_
             refine w_iload X2093 hx (0 : Int32) (dB at_162) 164 rfl rfl ?_
             refine w_virt X2093 hx hZ hown rfl (rm6t1m0 l Z a0 hw [] a2026 va2031 ta2031 kv2031 kt2031 a2021 T2093.heap n0 Z2093 F2095 G2093_0 G2093_1 G2093_2 G2093_3 G2093_4 g_a2026 g_va2031 (by exact nq2031_0) (by exact ov2031_0)) (tw_39 hw) (tw_40 hw) (notFace_of_selects (args := #[]) (mvT hZ (tw_42 hw))) (tw_42 hw) (tw_41 hw) (tw_19 hw) (tw_43 hw) (by decide) a2026 F2095 (by rw [hml]; rfl) [(.int (0 : Int32))] [] (lenOf pd_2 rfl) rfl rfl (by decide) 0 rfl (by decide) (by decide) (by decide) (dB at_164) 167 rfl (fun r2099 T2099 L2099 X2099 q2099 => ?_)
             obtain ⟨rfl, Nq2099, Kq2099, G2099_0, G2099_1, G2099_2, G2099_3, G2099_4⟩ := q2099
             have N2099 := Fr.app N2093 Nq2099
             have F2100 : Exa Z T2099.heap a2021 cN_1 := F2094.keep Kq2099
             have F2101 : Exa Z T2099.heap a2026 cN_2 := F2095.keep Kq2099
             have F2102 : Arv Z T2099.heap ta2031 kt2031 .int (3 : Int32) [(.int (1 : Int32)), (.int (0 : Int32)), (.int (0 : Int32))] (.int (0 : Int32)) := G2093_4.keep Kq2099 (ninS (Ne.symm ne_a2026_ta2031) (ninS (Ne.symm nq2031_0) nin0))
             have Z2099 : n0 ≤ T2099.heap.size := Nat.le_trans Z2093 Kq2099.1
             have K2099 : Keep h0 T2099.heap [] := K2093.trans Kq2099 (allS (Or.inr s_a2026) (allS (Or.inr s_va2031) all0))
             dsimp only [oD1, oD2, oD3, oD4]
             exact J2034 _ _ _ (X2099.more (by decide) (by decide)) rfl N2099 Z2099 K2099 (1 : Int32) (0 : Int32)  F2101 G2099_0 G2099_2 G2099_3 (by have hz1 : (1 : Int32).toInt = 1 := (by decide); have hz2 : (0 : Int32).toInt = 0 := (by decide); omega)
            ·have z2098 := s2098
             refine w_aload X2093 hx (.ref a2026) (dB at_160) 162 rfl rfl rfl ?_
             refine w_iload X2093 hx v2020 (dB at_162) 164 rfl rfl ?_
             refine w_virt X2093 hx hZ hown rfl (rm6ge1 l Z a0 hw [] a2026 v2020 T2093.heap n0 Z2093 G2093_2 (by omega)) (tw_39 hw) (tw_40 hw) (notFace_of_selects (args := #[]) (mvT hZ (tw_42 hw))) (tw_42 hw) (tw_41 hw) (tw_19 hw) (tw_43 hw) (by decide) a2026 F2095 (by rw [hml]; rfl) [(.int v2020)] [] (lenOf pd_2 rfl) rfl rfl (by decide) 0 rfl (by decide) (by decide) (by decide) (dB at_164) 167 rfl (fun r2103 T2103 L2103 X2103 q2103 => ?_)
             obtain ⟨rfl, Nq2103, eq2103⟩ := q2103
             have N2103 := Fr.app N2093 Nq2103
             dsimp only [oD1, oD2, oD3, oD4]
             exact J2047 _ _ _ (X2103.more (by decide) (by decide)) eq2103 N2103 Z2093 K2093 (1 : Int32) v2020  F2095 G2093_0 G2093_2 G2093_3 (by have hz1 : (1 : Int32).toInt = 1 := (by decide); omega)
           ·exfalso; omega
          ·exfalso; omega
        ·obtain rfl : v2018 = (2 : Int32) := eqI (s2086.trans (by decide))
         have z2086 : (2 : Int32).toInt = 2 := by decide
         refine w_iload X2031 hx (2 : Int32) (dB at_116) 118 rfl rfl ?_
         refine w_if_le X2031 hx 2 (by decide) (dB at_118) 130 121 (fun c2104 => ?_) (fun c2104 => ?_)
         ·exfalso; omega
         ·refine w_aload X2031 hx (.ref a2026) (dB at_121) 123 rfl rfl rfl ?_
          refine w_iload X2031 hx (1 : Int32) (dB at_123) 125 rfl rfl ?_
          refine w_aload X2031 hx (.ref a2021) (dB at_125) 127 rfl rfl rfl ?_
          refine w_virt X2031 hx hZ hown rfl (rm5ti1 l Z a0 hw [] a2026 a2021 va2031 ta2031 kv2031 kt2031 T2031.heap n0 Z2031 F2033 G2031_0 G2031_1 G2031_2 G2031_3 G2031_4 F2032 g_a2026 g_ta2031 g_va2031 (by exact nq2031_0) (by exact ov2031_0)) (tw_31 hw) (tw_32 hw) (notFace_of_selects (args := #[]) (mvT hZ (tw_34 hw))) (tw_34 hw) (tw_33 hw) (tw_19 hw) (tw_35 hw) (by decide) a2026 F2033 (by rw [hml]; rfl) [(.int (1 : Int32)), (.ref a2021)] [] (lenOf pd_6 rfl) rfl rfl (by decide) 0 rfl (by decide) (by decide) (by decide) (dB at_127) 130 rfl (fun r2105 T2105 L2105 X2105 q2105 => ?_)
          obtain ⟨rfl, Nq2105, Kq2105, G2105_0, G2105_1, G2105_2, G2105_3, G2105_4⟩ := q2105
          have N2105 := Fr.app N2031 Nq2105
          have F2106 : Exa Z T2105.heap a2021 cN_1 := F2032.keep Kq2105
          have F2107 : Exa Z T2105.heap a2026 cN_2 := F2033.keep Kq2105
          have Z2105 : n0 ≤ T2105.heap.size := Nat.le_trans Z2031 Kq2105.1
          have K2105 : Keep h0 T2105.heap [] := K2031.trans Kq2105 (allS (Or.inr s_a2026) (allS (Or.inr s_ta2031) (allS (Or.inr s_va2031) all0)))
          dsimp only [oD1, oD2, oD3, oD4]
          refine w_iload X2105 hx (2 : Int32) (dB at_130) 132 rfl rfl ?_
          refine w_iconst X2105 hx (dB at_132) 133 rfl (1 : Int32) (by decide) ?_
          refine w_icmp_le X2105 hx 2 1 (by decide) (by decide) (dB at_133) 145 136 (fun c2108 => ?_) (fun c2108 => ?_)
          ·exfalso; omega
          ·refine w_aload X2105 hx (.ref a2026) (dB at_136) 138 rfl rfl rfl ?_
           refine w_iload X2105 hx (2 : Int32) (dB at_138) 140 rfl rfl ?_
           refine w_aload X2105 hx (.ref a2021) (dB at_140) 142 rfl rfl rfl ?_
           refine w_virt X2105 hx hZ hown rfl (rm5t1i2 l Z a0 hw [] a2026 a2021 va2031 ta2031 kv2031 kt2031 T2105.heap n0 Z2105 F2107 G2105_0 G2105_1 G2105_2 G2105_3 G2105_4 F2106 g_a2026 g_ta2031 g_va2031 (by exact nq2031_0) (by exact ov2031_0)) (tw_31 hw) (tw_32 hw) (notFace_of_selects (args := #[]) (mvT hZ (tw_34 hw))) (tw_34 hw) (tw_33 hw) (tw_19 hw) (tw_35 hw) (by decide) a2026 F2107 (by rw [hml]; rfl) [(.int (2 : Int32)), (.ref a2021)] [] (lenOf pd_6 rfl) rfl rfl (by decide) 0 rfl (by decide) (by decide) (by decide) (dB at_142) 145 rfl (fun r2109 T2109 L2109 X2109 q2109 => ?_)
           obtain ⟨rfl, Nq2109, Kq2109, G2109_0, G2109_1, G2109_2, G2109_3, G2109_4⟩ := q2109
           have N2109 := Fr.app N2105 Nq2109
           have F2110 : Exa Z T2109.heap a2021 cN_1 := F2106.keep Kq2109
           have F2111 : Exa Z T2109.heap a2026 cN_2 := F2107.keep Kq2109
           have Z2109 : n0 ≤ T2109.heap.size := Nat.le_trans Z2105 Kq2109.1
           have K2109 : Keep h0 T2109.heap [] := K2105.trans Kq2109 (allS (Or.inr s_a2026) (allS (Or.inr s_ta2031) (allS (Or.inr s_va2031) all0)))
           dsimp only [oD1, oD2, oD3, oD4]
           refine w_iload X2109 hx (2 : Int32) (dB at_145) 147 rfl rfl ?_
           refine w_iconst X2109 hx (dB at_147) 148 rfl (2 : Int32) (by decide) ?_
           refine w_icmp_le X2109 hx 2 2 (by decide) (by decide) (dB at_148) 160 151 (fun c2112 => ?_) (fun c2112 => ?_)
           ·have s2113 : v2020.toInt = 0 ∨ v2020.toInt = 1 ∨ 2 ≤ v2020.toInt := by omega
            rcases s2113 with s2113 | s2113 | s2113
            ·obtain rfl : v2020 = (0 : Int32) := eqI (s2113.trans (by decide))
             have z2113 : (0 : Int32).toInt = 0 := by decide
             refine w_aload X2109 hx (.ref a2026) (dB at_160) 162 rfl rfl rfl ?_
             refine w_iload X2109 hx (0 : Int32) (dB at_162) 164 rfl rfl ?_
             refine w_virt X2109 hx hZ hown rfl (rm6t12m0 l Z a0 hw [] a2026 va2031 ta2031 kv2031 kt2031 a2021 T2109.heap n0 Z2109 F2111 G2109_0 G2109_1 G2109_2 G2109_3 G2109_4 g_a2026 g_va2031 (by exact nq2031_0) (by exact ov2031_0)) (tw_39 hw) (tw_40 hw) (notFace_of_selects (args := #[]) (mvT hZ (tw_42 hw))) (tw_42 hw) (tw_41 hw) (tw_19 hw) (tw_43 hw) (by decide) a2026 F2111 (by rw [hml]; rfl) [(.int (0 : Int32))] [] (lenOf pd_2 rfl) rfl rfl (by decide) 0 rfl (by decide) (by decide) (by decide) (dB at_164) 167 rfl (fun r2114 T2114 L2114 X2114 q2114 => ?_)
             obtain ⟨rfl, Nq2114, Kq2114, G2114_0, G2114_1, G2114_2, G2114_3, G2114_4⟩ := q2114
             have N2114 := Fr.app N2109 Nq2114
             have F2115 : Exa Z T2114.heap a2021 cN_1 := F2110.keep Kq2114
             have F2116 : Exa Z T2114.heap a2026 cN_2 := F2111.keep Kq2114
             have F2117 : Arv Z T2114.heap ta2031 kt2031 .int (3 : Int32) [(.int (1 : Int32)), (.int (2 : Int32)), (.int (0 : Int32))] (.int (0 : Int32)) := G2109_4.keep Kq2114 (ninS (Ne.symm ne_a2026_ta2031) (ninS (Ne.symm nq2031_0) nin0))
             have Z2114 : n0 ≤ T2114.heap.size := Nat.le_trans Z2109 Kq2114.1
             have K2114 : Keep h0 T2114.heap [] := K2109.trans Kq2114 (allS (Or.inr s_a2026) (allS (Or.inr s_va2031) all0))
             dsimp only [oD1, oD2, oD3, oD4]
             exact J2034 _ _ _ (X2114.more (by decide) (by decide)) rfl N2114 Z2114 K2114 (2 : Int32) (0 : Int32)  F2116 G2114_0 G2114_2 G2114_3 (by have hz1 : (2 : Int32).toInt = 2 := (by decide); have hz2 : (0 : Int32).toInt = 0 := (by decide); omega)
            ·obtain rfl : v2020 = (1 : Int32) := eqI (s2113.trans (by decide))
             have z2113 : (1 : Int32).toInt = 1 := by decide
             refine w_aload X2109 hx (.ref a2026) (dB at_160) 162 rfl rfl rfl ?_
             refine w_iload X2109 hx (1 : Int32) (dB at_162) 164 rfl rfl ?_
             refine w_virt X2109 hx hZ hown rfl (rm6t12m1 l Z a0 hw [] a2026 va2031 ta2031 kv2031 kt2031 a2021 T2109.heap n0 Z2109 F2111 G2109_0 G2109_1 G2109_2 G2109_3 G2109_4 g_a2026 g_va2031 (by exact nq2031_0) (by exact ov2031_0)) (tw_39 hw) (tw_40 hw) (notFace_of_selects (args := #[]) (mvT hZ (tw_42 hw))) (tw_42 hw) (tw_41 hw) (tw_19 hw) (tw_43 hw) (by decide) a2026 F2111 (by rw [hml]; rfl) [(.int (1 : Int32))] [] (lenOf pd_2 rfl) rfl rfl (by decide) 0 rfl (by decide) (by decide) (by decide) (dB at_164) 167 rfl (fun r2118 T2118 L2118 X2118 q2118 => ?_)
             obtain ⟨rfl, Nq2118, Kq2118, G2118_0, G2118_1, G2118_2, G2118_3, G2118_4⟩ := q2118
             have N2118 := Fr.app N2109 Nq2118
             have F2119 : Exa Z T2118.heap a2021 cN_1 := F2110.keep Kq2118
             have F2120 : Exa Z T2118.heap a2026 cN_2 := F2111.keep Kq2118
             have F2121 : Arv Z T2118.heap ta2031 kt2031 .int (3 : Int32) [(.int (1 : Int32)), (.int (2 : Int32)), (.int (0 : Int32))] (.int (0 : Int32)) := G2109_4.keep Kq2118 (ninS (Ne.symm ne_a2026_ta2031) (ninS (Ne.symm nq2031_0) nin0))
             have Z2118 : n0 ≤ T2118.heap.size := Nat.le_trans Z2109 Kq2118.1
             have K2118 : Keep h0 T2118.heap [] := K2109.trans Kq2118 (allS (Or.inr s_a2026) (allS (Or.inr s_va2031) all0))
             dsimp only [oD1, oD2, oD3, oD4]
             exact J2047 _ _ _ (X2118.more (by decide) (by decide)) rfl N2118 Z2118 K2118 (2 : Int32) (1 : Int32)  F2120 G2118_0 G2118_2 G2118_3 (by have hz1 : (2 : Int32).toInt = 2 := (by decide); have hz2 : (1 : Int32).toInt = 1 := (by decide); omega)
            ·have z2113 := s2113
             refine w_aload X2109 hx (.ref a2026) (dB at_160) 162 rfl rfl rfl ?_
             refine w_iload X2109 hx v2020 (dB at_162) 164 rfl rfl ?_
             refine w_virt X2109 hx hZ hown rfl (rm6ge2 l Z a0 hw [] a2026 v2020 T2109.heap n0 Z2109 G2109_2 (by omega)) (tw_39 hw) (tw_40 hw) (notFace_of_selects (args := #[]) (mvT hZ (tw_42 hw))) (tw_42 hw) (tw_41 hw) (tw_19 hw) (tw_43 hw) (by decide) a2026 F2111 (by rw [hml]; rfl) [(.int v2020)] [] (lenOf pd_2 rfl) rfl rfl (by decide) 0 rfl (by decide) (by decide) (by decide) (dB at_164) 167 rfl (fun r2122 T2122 L2122 X2122 q2122 => ?_)
             obtain ⟨rfl, Nq2122, eq2122⟩ := q2122
             have N2122 := Fr.app N2109 Nq2122
             dsimp only [oD1, oD2, oD3, oD4]
             exact J2060 _ _ _ (X2122.more (by decide) (by decide)) eq2122 N2122 Z2109 K2109 (2 : Int32) v2020  F2111 G2109_0 G2109_2 G2109_3 (by have hz1 : (2 : Int32).toInt = 2 := (by decide); omega)
           ·exfalso; omega
        ·obtain rfl : v2018 = (3 : Int32) := eqI (s2086.trans (by decide))
         have z2086 : (3 : Int32).toInt = 3 := by decide
         refine w_iload X2031 hx (3 : Int32) (dB at_116) 118 rfl rfl ?_
         refine w_if_le X2031 hx 3 (by decide) (dB at_118) 130 121 (fun c2123 => ?_) (fun c2123 => ?_)
         ·exfalso; omega
         ·refine w_aload X2031 hx (.ref a2026) (dB at_121) 123 rfl rfl rfl ?_
          refine w_iload X2031 hx (1 : Int32) (dB at_123) 125 rfl rfl ?_
          refine w_aload X2031 hx (.ref a2021) (dB at_125) 127 rfl rfl rfl ?_
          refine w_virt X2031 hx hZ hown rfl (rm5ti1 l Z a0 hw [] a2026 a2021 va2031 ta2031 kv2031 kt2031 T2031.heap n0 Z2031 F2033 G2031_0 G2031_1 G2031_2 G2031_3 G2031_4 F2032 g_a2026 g_ta2031 g_va2031 (by exact nq2031_0) (by exact ov2031_0)) (tw_31 hw) (tw_32 hw) (notFace_of_selects (args := #[]) (mvT hZ (tw_34 hw))) (tw_34 hw) (tw_33 hw) (tw_19 hw) (tw_35 hw) (by decide) a2026 F2033 (by rw [hml]; rfl) [(.int (1 : Int32)), (.ref a2021)] [] (lenOf pd_6 rfl) rfl rfl (by decide) 0 rfl (by decide) (by decide) (by decide) (dB at_127) 130 rfl (fun r2124 T2124 L2124 X2124 q2124 => ?_)
          obtain ⟨rfl, Nq2124, Kq2124, G2124_0, G2124_1, G2124_2, G2124_3, G2124_4⟩ := q2124
          have N2124 := Fr.app N2031 Nq2124
          have F2125 : Exa Z T2124.heap a2021 cN_1 := F2032.keep Kq2124
          have F2126 : Exa Z T2124.heap a2026 cN_2 := F2033.keep Kq2124
          have Z2124 : n0 ≤ T2124.heap.size := Nat.le_trans Z2031 Kq2124.1
          have K2124 : Keep h0 T2124.heap [] := K2031.trans Kq2124 (allS (Or.inr s_a2026) (allS (Or.inr s_ta2031) (allS (Or.inr s_va2031) all0)))
          dsimp only [oD1, oD2, oD3, oD4]
          refine w_iload X2124 hx (3 : Int32) (dB at_130) 132 rfl rfl ?_
          refine w_iconst X2124 hx (dB at_132) 133 rfl (1 : Int32) (by decide) ?_
          refine w_icmp_le X2124 hx 3 1 (by decide) (by decide) (dB at_133) 145 136 (fun c2127 => ?_) (fun c2127 => ?_)
          ·exfalso; omega
          ·refine w_aload X2124 hx (.ref a2026) (dB at_136) 138 rfl rfl rfl ?_
           refine w_iload X2124 hx (2 : Int32) (dB at_138) 140 rfl rfl ?_
           refine w_aload X2124 hx (.ref a2021) (dB at_140) 142 rfl rfl rfl ?_
           refine w_virt X2124 hx hZ hown rfl (rm5t1i2 l Z a0 hw [] a2026 a2021 va2031 ta2031 kv2031 kt2031 T2124.heap n0 Z2124 F2126 G2124_0 G2124_1 G2124_2 G2124_3 G2124_4 F2125 g_a2026 g_ta2031 g_va2031 (by exact nq2031_0) (by exact ov2031_0)) (tw_31 hw) (tw_32 hw) (notFace_of_selects (args := #[]) (mvT hZ (tw_34 hw))) (tw_34 hw) (tw_33 hw) (tw_19 hw) (tw_35 hw) (by decide) a2026 F2126 (by rw [hml]; rfl) [(.int (2 : Int32)), (.ref a2021)] [] (lenOf pd_6 rfl) rfl rfl (by decide) 0 rfl (by decide) (by decide) (by decide) (dB at_142) 145 rfl (fun r2128 T2128 L2128 X2128 q2128 => ?_)
           obtain ⟨rfl, Nq2128, Kq2128, G2128_0, G2128_1, G2128_2, G2128_3, G2128_4⟩ := q2128
           have N2128 := Fr.app N2124 Nq2128
           have F2129 : Exa Z T2128.heap a2021 cN_1 := F2125.keep Kq2128
           have F2130 : Exa Z T2128.heap a2026 cN_2 := F2126.keep Kq2128
           have Z2128 : n0 ≤ T2128.heap.size := Nat.le_trans Z2124 Kq2128.1
           have K2128 : Keep h0 T2128.heap [] := K2124.trans Kq2128 (allS (Or.inr s_a2026) (allS (Or.inr s_ta2031) (allS (Or.inr s_va2031) all0)))
           dsimp only [oD1, oD2, oD3, oD4]
           refine w_iload X2128 hx (3 : Int32) (dB at_145) 147 rfl rfl ?_
           refine w_iconst X2128 hx (dB at_147) 148 rfl (2 : Int32) (by decide) ?_
           refine w_icmp_le X2128 hx 3 2 (by decide) (by decide) (dB at_148) 160 151 (fun c2131 => ?_) (fun c2131 => ?_)
           ·exfalso; omega
           ·refine w_aload X2128 hx (.ref a2026) (dB at_151) 153 rfl rfl rfl ?_
            refine w_iload X2128 hx (0 : Int32) (dB at_153) 155 rfl rfl ?_
            refine w_aload X2128 hx (.ref a2021) (dB at_155) 157 rfl rfl rfl ?_
            refine w_virt X2128 hx hZ hown rfl (rm5t12i0 l Z a0 hw [] a2026 a2021 va2031 ta2031 kv2031 kt2031 T2128.heap n0 Z2128 F2130 G2128_0 G2128_1 G2128_2 G2128_3 G2128_4 F2129 g_a2026 g_ta2031 g_va2031 (by exact nq2031_0) (by exact ov2031_0)) (tw_31 hw) (tw_32 hw) (notFace_of_selects (args := #[]) (mvT hZ (tw_34 hw))) (tw_34 hw) (tw_33 hw) (tw_19 hw) (tw_35 hw) (by decide) a2026 F2130 (by rw [hml]; rfl) [(.int (0 : Int32)), (.ref a2021)] [] (lenOf pd_6 rfl) rfl rfl (by decide) 0 rfl (by decide) (by decide) (by decide) (dB at_157) 160 rfl (fun r2132 T2132 L2132 X2132 q2132 => ?_)
            obtain ⟨rfl, Nq2132, Kq2132, G2132_0, G2132_1, G2132_2, G2132_3, G2132_4⟩ := q2132
            have N2132 := Fr.app N2128 Nq2132
            have F2133 : Exa Z T2132.heap a2021 cN_1 := F2129.keep Kq2132
            have F2134 : Exa Z T2132.heap a2026 cN_2 := F2130.keep Kq2132
            have Z2132 : n0 ≤ T2132.heap.size := Nat.le_trans Z2128 Kq2132.1
            have K2132 : Keep h0 T2132.heap [] := K2128.trans Kq2132 (allS (Or.inr s_a2026) (allS (Or.inr s_ta2031) (allS (Or.inr s_va2031) all0)))
            dsimp only [oD1, oD2, oD3, oD4]
            have s2135 : v2020.toInt = 0 ∨ v2020.toInt = 1 ∨ v2020.toInt = 2 ∨ 3 ≤ v2020.toInt := by omega
            rcases s2135 with s2135 | s2135 | s2135 | s2135
            ·obtain rfl : v2020 = (0 : Int32) := eqI (s2135.trans (by decide))
             have z2135 : (0 : Int32).toInt = 0 := by decide
             refine w_aload X2132 hx (.ref a2026) (dB at_160) 162 rfl rfl rfl ?_
             refine w_iload X2132 hx (0 : Int32) (dB at_162) 164 rfl rfl ?_
             refine w_virt X2132 hx hZ hown rfl (rm6t120m0 l Z a0 hw [] a2026 va2031 ta2031 kv2031 kt2031 a2021 T2132.heap n0 Z2132 F2134 G2132_0 G2132_1 G2132_2 G2132_3 G2132_4 g_a2026 g_va2031 (by exact nq2031_0) (by exact ov2031_0)) (tw_39 hw) (tw_40 hw) (notFace_of_selects (args := #[]) (mvT hZ (tw_42 hw))) (tw_42 hw) (tw_41 hw) (tw_19 hw) (tw_43 hw) (by decide) a2026 F2134 (by rw [hml]; rfl) [(.int (0 : Int32))] [] (lenOf pd_2 rfl) rfl rfl (by decide) 0 rfl (by decide) (by decide) (by decide) (dB at_164) 167 rfl (fun r2136 T2136 L2136 X2136 q2136 => ?_)
             obtain ⟨rfl, Nq2136, Kq2136, G2136_0, G2136_1, G2136_2, G2136_3, G2136_4⟩ := q2136
             have N2136 := Fr.app N2132 Nq2136
             have F2137 : Exa Z T2136.heap a2021 cN_1 := F2133.keep Kq2136
             have F2138 : Exa Z T2136.heap a2026 cN_2 := F2134.keep Kq2136
             have F2139 : Arv Z T2136.heap ta2031 kt2031 .int (3 : Int32) [(.int (1 : Int32)), (.int (2 : Int32)), (.int (0 : Int32))] (.int (0 : Int32)) := G2132_4.keep Kq2136 (ninS (Ne.symm ne_a2026_ta2031) (ninS (Ne.symm nq2031_0) nin0))
             have Z2136 : n0 ≤ T2136.heap.size := Nat.le_trans Z2132 Kq2136.1
             have K2136 : Keep h0 T2136.heap [] := K2132.trans Kq2136 (allS (Or.inr s_a2026) (allS (Or.inr s_va2031) all0))
             dsimp only [oD1, oD2, oD3, oD4]
             exact J2034 _ _ _ (X2136.more (by decide) (by decide)) rfl N2136 Z2136 K2136 (3 : Int32) (0 : Int32)  F2138 G2136_0 G2136_2 G2136_3 (by have hz1 : (3 : Int32).toInt = 3 := (by decide); have hz2 : (0 : Int32).toInt = 0 := (by decide); omega)
            ·obtain rfl : v2020 = (1 : Int32) := eqI (s2135.trans (by decide))
             have z2135 : (1 : Int32).toInt = 1 := by decide
             refine w_aload X2132 hx (.ref a2026) (dB at_160) 162 rfl rfl rfl ?_
             refine w_iload X2132 hx (1 : Int32) (dB at_162) 164 rfl rfl ?_
             refine w_virt X2132 hx hZ hown rfl (rm6t120m1 l Z a0 hw [] a2026 va2031 ta2031 kv2031 kt2031 a2021 T2132.heap n0 Z2132 F2134 G2132_0 G2132_1 G2132_2 G2132_3 G2132_4 g_a2026 g_va2031 (by exact nq2031_0) (by exact ov2031_0)) (tw_39 hw) (tw_40 hw) (notFace_of_selects (args := #[]) (mvT hZ (tw_42 hw))) (tw_42 hw) (tw_41 hw) (tw_19 hw) (tw_43 hw) (by decide) a2026 F2134 (by rw [hml]; rfl) [(.int (1 : Int32))] [] (lenOf pd_2 rfl) rfl rfl (by decide) 0 rfl (by decide) (by decide) (by decide) (dB at_164) 167 rfl (fun r2140 T2140 L2140 X2140 q2140 => ?_)
             obtain ⟨rfl, Nq2140, Kq2140, G2140_0, G2140_1, G2140_2, G2140_3, G2140_4⟩ := q2140
             have N2140 := Fr.app N2132 Nq2140
             have F2141 : Exa Z T2140.heap a2021 cN_1 := F2133.keep Kq2140
             have F2142 : Exa Z T2140.heap a2026 cN_2 := F2134.keep Kq2140
             have F2143 : Arv Z T2140.heap ta2031 kt2031 .int (3 : Int32) [(.int (1 : Int32)), (.int (2 : Int32)), (.int (0 : Int32))] (.int (0 : Int32)) := G2132_4.keep Kq2140 (ninS (Ne.symm ne_a2026_ta2031) (ninS (Ne.symm nq2031_0) nin0))
             have Z2140 : n0 ≤ T2140.heap.size := Nat.le_trans Z2132 Kq2140.1
             have K2140 : Keep h0 T2140.heap [] := K2132.trans Kq2140 (allS (Or.inr s_a2026) (allS (Or.inr s_va2031) all0))
             dsimp only [oD1, oD2, oD3, oD4]
             exact J2047 _ _ _ (X2140.more (by decide) (by decide)) rfl N2140 Z2140 K2140 (3 : Int32) (1 : Int32)  F2142 G2140_0 G2140_2 G2140_3 (by have hz1 : (3 : Int32).toInt = 3 := (by decide); have hz2 : (1 : Int32).toInt = 1 := (by decide); omega)
            ·obtain rfl : v2020 = (2 : Int32) := eqI (s2135.trans (by decide))
             have z2135 : (2 : Int32).toInt = 2 := by decide
             refine w_aload X2132 hx (.ref a2026) (dB at_160) 162 rfl rfl rfl ?_
             refine w_iload X2132 hx (2 : Int32) (dB at_162) 164 rfl rfl ?_
             refine w_virt X2132 hx hZ hown rfl (rm6t120m2 l Z a0 hw [] a2026 va2031 ta2031 kv2031 kt2031 a2021 T2132.heap n0 Z2132 F2134 G2132_0 G2132_1 G2132_2 G2132_3 G2132_4 g_a2026 g_va2031 (by exact nq2031_0) (by exact ov2031_0)) (tw_39 hw) (tw_40 hw) (notFace_of_selects (args := #[]) (mvT hZ (tw_42 hw))) (tw_42 hw) (tw_41 hw) (tw_19 hw) (tw_43 hw) (by decide) a2026 F2134 (by rw [hml]; rfl) [(.int (2 : Int32))] [] (lenOf pd_2 rfl) rfl rfl (by decide) 0 rfl (by decide) (by decide) (by decide) (dB at_164) 167 rfl (fun r2144 T2144 L2144 X2144 q2144 => ?_)
             obtain ⟨rfl, Nq2144, Kq2144, G2144_0, G2144_1, G2144_2, G2144_3, G2144_4⟩ := q2144
             have N2144 := Fr.app N2132 Nq2144
             have F2145 : Exa Z T2144.heap a2021 cN_1 := F2133.keep Kq2144
             have F2146 : Exa Z T2144.heap a2026 cN_2 := F2134.keep Kq2144
             have F2147 : Arv Z T2144.heap ta2031 kt2031 .int (3 : Int32) [(.int (1 : Int32)), (.int (2 : Int32)), (.int (0 : Int32))] (.int (0 : Int32)) := G2132_4.keep Kq2144 (ninS (Ne.symm ne_a2026_ta2031) (ninS (Ne.symm nq2031_0) nin0))
             have Z2144 : n0 ≤ T2144.heap.size := Nat.le_trans Z2132 Kq2144.1
             have K2144 : Keep h0 T2144.heap [] := K2132.trans Kq2144 (allS (Or.inr s_a2026) (allS (Or.inr s_va2031) all0))
             dsimp only [oD1, oD2, oD3, oD4]
             exact J2060 _ _ _ (X2144.more (by decide) (by decide)) rfl N2144 Z2144 K2144 (3 : Int32) (2 : Int32)  F2146 G2144_0 G2144_2 G2144_3 (by have hz1 : (3 : Int32).toInt = 3 := (by decide); have hz2 : (2 : Int32).toInt = 2 := (by decide); omega)
            ·have z2135 := s2135
             refine w_aload X2132 hx (.ref a2026) (dB at_160) 162 rfl rfl rfl ?_
             refine w_iload X2132 hx v2020 (dB at_162) 164 rfl rfl ?_
             refine w_virt X2132 hx hZ hown rfl (rm6ge3 l Z a0 hw [] a2026 v2020 T2132.heap n0 Z2132 G2132_2 (by omega)) (tw_39 hw) (tw_40 hw) (notFace_of_selects (args := #[]) (mvT hZ (tw_42 hw))) (tw_42 hw) (tw_41 hw) (tw_19 hw) (tw_43 hw) (by decide) a2026 F2134 (by rw [hml]; rfl) [(.int v2020)] [] (lenOf pd_2 rfl) rfl rfl (by decide) 0 rfl (by decide) (by decide) (by decide) (dB at_164) 167 rfl (fun r2148 T2148 L2148 X2148 q2148 => ?_)
             obtain ⟨rfl, Nq2148, eq2148⟩ := q2148
             have N2148 := Fr.app N2132 Nq2148
             dsimp only [oD1, oD2, oD3, oD4]
             exact J2073 _ _ _ (X2148.more (by decide) (by decide)) eq2148 N2148 Z2132 K2132 (3 : Int32) v2020  F2134 G2132_0 G2132_2 G2132_3 (by have hz1 : (3 : Int32).toInt = 3 := (by decide); omega)
    ·exfalso; omega
   ·exfalso; omega
  ·obtain rfl : v1599 = (4 : Int32) := eqI (s1600.trans (by decide))
   have z1600 : (4 : Int32).toInt = 4 := by decide
   refine w_iloadN X0 hx (4 : Int32) (dB at_8) 9 rfl rfl ?_
   refine w_iconst X0 hx (dB at_9) 10 rfl (2 : Int32) (by decide) ?_
   refine w_idiv X0 hx (dB at_10) 11 rfl (by decide) (show (2 : Int32) = (4 : Int32) / (2 : Int32) from by decide) ?_
   refine w_istore X0 hx (dB at_11) 13 rfl #[.val (.int xp), .val (.int xq), .val (.int xr), .val (.int (4 : Int32)), .val (.int (2 : Int32)), .unset, .unset, .unset, .unset, .unset, .unset, .unset, .unset, .unset, .unset] rfl ?_
   refine w_iload X0 hx (2 : Int32) (dB at_13) 15 rfl rfl ?_
   refine w_if_ne X0 hx 2 (by decide) (dB at_15) 22 18 (fun c2149 => ?_) (fun c2149 => ?_)
   ·refine w_iconst X0 hx (dB at_22) 23 rfl (0 : Int32) (by decide) ?_
    refine w_istore X0 hx (dB at_23) 25 rfl #[.val (.int xp), .val (.int xq), .val (.int xr), .val (.int (4 : Int32)), .val (.int (2 : Int32)), .val (.int (0 : Int32)), .unset, .unset, .unset, .unset, .unset, .unset, .unset, .unset, .unset] rfl ?_
    refine w_iload X0 hx (2 : Int32) (dB at_25) 27 rfl rfl ?_
    refine w_iconst X0 hx (dB at_27) 28 rfl (2 : Int32) (by decide) ?_
    refine w_icmp_ne X0 hx 2 2 (by decide) (by decide) (dB at_28) 35 31 (fun c2150 => ?_) (fun c2150 => ?_)
    ·exfalso; omega
    ·refine w_iconst X0 hx (dB at_31) 32 rfl (1 : Int32) (by decide) ?_
     refine w_goto X0 hx (dB at_32) 36 ?_
     refine w_istore X0 hx (dB at_36) 38 rfl #[.val (.int xp), .val (.int xq), .val (.int xr), .val (.int (4 : Int32)), .val (.int (2 : Int32)), .val (.int (0 : Int32)), .val (.int (1 : Int32)), .unset, .unset, .unset, .unset, .unset, .unset, .unset, .unset] rfl ?_
     refine w_iloadN X0 hx (4 : Int32) (dB at_38) 39 rfl rfl ?_
     refine w_iconst X0 hx (dB at_39) 40 rfl (1 : Int32) (by decide) ?_
     refine w_iand X0 hx (dB at_40) 41 rfl (show (0 : Int32) = (4 : Int32) &&& (1 : Int32) from by decide) ?_
     refine w_if_eq X0 hx 0 (by decide) (dB at_41) 48 44 (fun c2151 => ?_) (fun c2151 => ?_)
     ·refine w_iconst X0 hx (dB at_48) 49 rfl (0 : Int32) (by decide) ?_
      refine w_istore X0 hx (dB at_49) 51 rfl #[.val (.int xp), .val (.int xq), .val (.int xr), .val (.int (4 : Int32)), .val (.int (2 : Int32)), .val (.int (0 : Int32)), .val (.int (1 : Int32)), .val (.int (0 : Int32)), .unset, .unset, .unset, .unset, .unset, .unset, .unset] rfl ?_
      refine w_iload X0 hx (0 : Int32) (dB at_51) 53 rfl rfl ?_
      refine w_if_eq X0 hx 0 (by decide) (dB at_53) 61 56 (fun c2152 => ?_) (fun c2152 => ?_)
      ·refine w_iload X0 hx (0 : Int32) (dB at_61) 63 rfl rfl ?_
       refine w_istore X0 hx (dB at_63) 65 rfl #[.val (.int xp), .val (.int xq), .val (.int xr), .val (.int (4 : Int32)), .val (.int (2 : Int32)), .val (.int (0 : Int32)), .val (.int (1 : Int32)), .val (.int (0 : Int32)), .val (.int (0 : Int32)), .unset, .unset, .unset, .unset, .unset, .unset] rfl ?_
       refine w_iload X0 hx (0 : Int32) (dB at_65) 67 rfl rfl ?_
       refine w_if_eq X0 hx 0 (by decide) (dB at_67) 75 70 (fun c2153 => ?_) (fun c2153 => ?_)
       ·refine w_iload X0 hx (1 : Int32) (dB at_75) 77 rfl rfl ?_
        refine w_istore X0 hx (dB at_77) 79 rfl #[.val (.int xp), .val (.int xq), .val (.int xr), .val (.int (4 : Int32)), .val (.int (2 : Int32)), .val (.int (0 : Int32)), .val (.int (1 : Int32)), .val (.int (0 : Int32)), .val (.int (0 : Int32)), .val (.int (1 : Int32)), .unset, .unset, .unset, .unset, .unset] rfl ?_
        refine w_iloadN X0 hx xq (dB at_79) 80 rfl rfl ?_
        refine w_ldc X0 hx hZ hown (tw_0 hw) (dB at_80) 82 rfl ?_
        obtain ⟨v2154, e2154⟩ : ∃ z : Int32, z = xq &&& (2147483647 : Int32) := ⟨_, rfl⟩
        have n2154 : v2154.toInt = xq.toInt % 2147483648 := by rw [e2154]; exact maskX 31 rfl (by decide) (by decide)
        refine w_iand X0 hx (dB at_82) 83 rfl e2154 ?_
        refine w_iconst X0 hx (dB at_83) 84 rfl (4 : Int32) (by decide) ?_
        obtain ⟨v2155, e2155⟩ : ∃ z : Int32, z = v2154 % (4 : Int32) := ⟨_, rfl⟩
        have n2155 : v2155.toInt = v2154.toInt % 4 := by rw [e2155]; exact iremX rfl (by decide) (by omega)
        refine w_irem X0 hx (dB at_84) 85 rfl (by decide) e2155 ?_
        refine w_istore X0 hx (dB at_85) 87 rfl #[.val (.int xp), .val (.int xq), .val (.int xr), .val (.int (4 : Int32)), .val (.int (2 : Int32)), .val (.int (0 : Int32)), .val (.int (1 : Int32)), .val (.int (0 : Int32)), .val (.int (0 : Int32)), .val (.int (1 : Int32)), .val (.int v2155), .unset, .unset, .unset, .unset] rfl ?_
        refine w_iloadN X0 hx xr (dB at_87) 88 rfl rfl ?_
        refine w_ldc X0 hx hZ hown (tw_0 hw) (dB at_88) 90 rfl ?_
        obtain ⟨v2156, e2156⟩ : ∃ z : Int32, z = xr &&& (2147483647 : Int32) := ⟨_, rfl⟩
        have n2156 : v2156.toInt = xr.toInt % 2147483648 := by rw [e2156]; exact maskX 31 rfl (by decide) (by decide)
        refine w_iand X0 hx (dB at_90) 91 rfl e2156 ?_
        refine w_iconst X0 hx (dB at_91) 92 rfl (5 : Int32) (by decide) ?_
        obtain ⟨v2157, e2157⟩ : ∃ z : Int32, z = v2156 % (5 : Int32) := ⟨_, rfl⟩
        have n2157 : v2157.toInt = v2156.toInt % 5 := by rw [e2157]; exact iremX rfl (by decide) (by omega)
        refine w_irem X0 hx (dB at_92) 93 rfl (by decide) e2157 ?_
        refine w_istore X0 hx (dB at_93) 95 rfl #[.val (.int xp), .val (.int xq), .val (.int xr), .val (.int (4 : Int32)), .val (.int (2 : Int32)), .val (.int (0 : Int32)), .val (.int (1 : Int32)), .val (.int (0 : Int32)), .val (.int (0 : Int32)), .val (.int (1 : Int32)), .val (.int v2155), .val (.int v2157), .unset, .unset, .unset] rfl ?_
        refine w_new X0 hx hZ hown e0 (tw_1 hw) (tw_2 hw) (tw_3 hw) (by decide) (by decide) (dB at_95) 98 rfl (fun T2158 h2158 a2158 X2158 e2158 g2158 E2158 A2158 D2158 => ?_)
        have g_a2158 : n0 ≤ a2158 := Nat.le_trans Z0 (Nat.le_of_eq g2158.symm)
        have s_a2158 : h0.size ≤ a2158 := Nat.le_trans (Keep.refl h0 []).1 (Nat.le_of_eq g2158.symm)
        have Z2158 : n0 ≤ h2158.size := Nat.le_trans Z0 E2158.1
        have K2158 : Keep h0 h2158 [] := (Keep.refl h0 []).ext E2158
        have F2159 : Fld Z h2158 a2158 cN_1 "value" "J" (.long (0 : Int64)) := D2158 (Or.inr (tw_16 hw)) (ty := .long) (by decide)
        refine w_dup X2158 hx (dB at_98) 99 rfl rfl ?_
        refine w_iloadN X2158 hx xq (dB at_99) 100 rfl rfl ?_
        obtain ⟨v2160, e2160⟩ : ∃ z : Int64, z = xq.toInt64 := ⟨_, rfl⟩
        have n2160 : v2160.toInt = xq.toInt := by rw [e2160]; exact i2lX rfl
        refine w_i2l X2158 hx (dB at_100) 101 rfl e2160 ?_
        refine w_init X2158 hx hZ rfl hown e2158 (rm1 l Z a0 hw [] a2158 v2160 h2158 n0 Z2158 A2158 F2159 g_a2158) (tw_4 hw) (tw_5 hw) (tw_3 hw) (tw_6 hw) (by decide) (by rw [hml]; rfl) a2158 [(.long v2160)] [(.ref a2158)] (lenOf pd_1 rfl) rfl rfl (by decide) 1 rfl (by decide) (by decide) (by decide) (dB at_101) 104 rfl (fun r2161 T2161 L2161 X2161 q2161 => ?_)
        obtain ⟨rfl, Nq2161, Kq2161⟩ := q2161
        have N2161 := Fr.app N0 Nq2161
        have F2162 : Exa Z T2161.heap a2158 cN_1 := A2158.keep Kq2161
        have Z2161 : n0 ≤ T2161.heap.size := Nat.le_trans Z2158 Kq2161.1
        have K2161 : Keep h0 T2161.heap [] := K2158.trans Kq2161 (allS (Or.inr s_a2158) all0)
        dsimp only [oD1, oD2, oD3, oD4]
        refine w_astore X2161 hx (dB at_104) 106 rfl rfl #[.val (.int xp), .val (.int xq), .val (.int xr), .val (.int (4 : Int32)), .val (.int (2 : Int32)), .val (.int (0 : Int32)), .val (.int (1 : Int32)), .val (.int (0 : Int32)), .val (.int (0 : Int32)), .val (.int (1 : Int32)), .val (.int v2155), .val (.int v2157), .val (.ref a2158), .unset, .unset] rfl ?_
        refine w_new X2161 hx hZ hown rfl (tw_17 hw) (tw_18 hw) (tw_19 hw) (by decide) (by decide) (dB at_106) 109 rfl (fun T2163 h2163 a2163 X2163 e2163 g2163 E2163 A2163 D2163 => ?_)
        have ne_a2158_a2163 : a2158 ≠ a2163 := Nat.ne_of_lt (Nat.lt_of_lt_of_le F2162.lt (Nat.le_of_eq g2163.symm))
        have g_a2163 : n0 ≤ a2163 := Nat.le_trans Z2161 (Nat.le_of_eq g2163.symm)
        have s_a2163 : h0.size ≤ a2163 := Nat.le_trans K2161.1 (Nat.le_of_eq g2163.symm)
        have F2164 : Exa Z h2163 a2158 cN_1 := F2162.ext E2163
        have Z2163 : n0 ≤ h2163.size := Nat.le_trans Z2161 E2163.1
        have K2163 : Keep h0 h2163 [] := K2161.ext E2163
        have F2165 : Fld Z h2163 a2163 cN_2 "values" cN_3 .null := D2163 (Or.inr (tw_27 hw)) (ty := (.array (.object "com/example/simpagation/simpagation/Term"))) (by decide)
        have F2166 : Fld Z h2163 a2163 cN_2 "trail" "[I" .null := D2163 (Or.inr (tw_30 hw)) (ty := (.array .int)) (by decide)
        have F2167 : Fld Z h2163 a2163 cN_2 "trailSize" "I" (.int (0 : Int32)) := D2163 (Or.inl (tw_37 hw)) (ty := .int) (by decide)
        refine w_dup X2163 hx (dB at_109) 110 rfl rfl ?_
        refine w_iconst X2163 hx (dB at_110) 111 rfl (3 : Int32) (by decide) ?_
        refine w_init X2163 hx hZ rfl hown e2163 (rm4 l Z a0 hw [] a2163 h2163 n0 Z2163 A2163 F2165 F2166 F2167 g_a2163) (tw_20 hw) (tw_21 hw) (tw_19 hw) (tw_22 hw) (by decide) (by rw [hml]; rfl) a2163 [(.int (3 : Int32))] [(.ref a2163)] (lenOf pd_2 rfl) rfl rfl (by decide) 1 rfl (by decide) (by decide) (by decide) (dB at_111) 114 rfl (fun r2168 T2168 L2168 X2168 q2168 => ?_)
        obtain ⟨va2168, ta2168, kv2168, kt2168, rfl, Nq2168, Kq2168, sq2168_0, sq2168_1, nq2168_0, ov2168_0, G2168_0, G2168_1, G2168_2, G2168_3, G2168_4⟩ := q2168
        have N2168 := Fr.app N2161 Nq2168
        have ne_a2158_va2168 : a2158 ≠ va2168 := Nat.ne_of_lt (Nat.lt_of_lt_of_le F2164.lt sq2168_0)
        have ne_a2163_va2168 : a2163 ≠ va2168 := Nat.ne_of_lt (Nat.lt_of_lt_of_le A2163.lt sq2168_0)
        have g_va2168 : n0 ≤ va2168 := Nat.le_trans Z2163 sq2168_0
        have s_va2168 : h0.size ≤ va2168 := Nat.le_trans K2163.1 sq2168_0
        have ne_a2158_ta2168 : a2158 ≠ ta2168 := Nat.ne_of_lt (Nat.lt_of_lt_of_le F2164.lt sq2168_1)
        have ne_a2163_ta2168 : a2163 ≠ ta2168 := Nat.ne_of_lt (Nat.lt_of_lt_of_le A2163.lt sq2168_1)
        have g_ta2168 : n0 ≤ ta2168 := Nat.le_trans Z2163 sq2168_1
        have s_ta2168 : h0.size ≤ ta2168 := Nat.le_trans K2163.1 sq2168_1
        have F2169 : Exa Z T2168.heap a2158 cN_1 := F2164.keep Kq2168
        have F2170 : Exa Z T2168.heap a2163 cN_2 := A2163.keep Kq2168
        have Z2168 : n0 ≤ T2168.heap.size := Nat.le_trans Z2163 Kq2168.1
        have K2168 : Keep h0 T2168.heap [] := K2163.trans Kq2168 (allS (Or.inr s_a2163) all0)
        dsimp only [oD1, oD2, oD3, oD4]
        refine w_astore X2168 hx (dB at_114) 116 rfl rfl #[.val (.int xp), .val (.int xq), .val (.int xr), .val (.int (4 : Int32)), .val (.int (2 : Int32)), .val (.int (0 : Int32)), .val (.int (1 : Int32)), .val (.int (0 : Int32)), .val (.int (0 : Int32)), .val (.int (1 : Int32)), .val (.int v2155), .val (.int v2157), .val (.ref a2158), .val (.ref a2163), .unset] rfl ?_
        have J2171 : ∀ (T' : State) (h' : Heap) (L' : List Loc) (_ : Stand p l e room_1 s m #[(.int xp), (.int xq), (.int xr)] below meth c T' L' 4 10) (_ : T'.heap = h') (_ : Fr n0 L') (_ : n0 ≤ h'.size) (_ : Keep h0 h' []) (j2171_0 : Int32) (j2171_1 : Int32) , (Exa Z h' a2163 cN_2) → (Fld Z h' a2163 cN_2 "values" cN_3 (.ref va2168)) → (Fld Z h' a2163 cN_2 "trailSize" "I" (.int (0 : Int32))) → (Arv Z h' va2168 kv2168 (.object cN_4) (3 : Int32) [.null, .null, .null] .null) → (0 ≤ j2171_0.toInt ∧ j2171_0.toInt ≤ 3 ∧ 0 ≤ j2171_1.toInt ∧ j2171_1.toInt ≤ 4 ∧ ((j2171_0.toInt ≤ j2171_1.toInt ∧ j2171_0.toInt = 0) ∨ (j2171_1.toInt < j2171_0.toInt ∧ j2171_1.toInt = 0))) → Wk p e below (FN s (Q0 Z xp xq xr h0 n0) 4 10) T' (mkF m 167 #[.val (.int xp), .val (.int xq), .val (.int xr), .val (.int (4 : Int32)), .val (.int (2 : Int32)), .val (.int (0 : Int32)), .val (.int (1 : Int32)), .val (.int (0 : Int32)), .val (.int (0 : Int32)), .val (.int (1 : Int32)), .val (.int j2171_0), .val (.int j2171_1), .val (.ref a2158), .val (.ref a2163), .unset] []) := by
         intro T2171 h2171 L2171 X2171 e2171_ N2171 Z2171 K2171 j2171_0 j2171_1  jf2171_0 jf2171_1 jf2171_2 jf2171_3 f2171
         refine w_iload X2171 hx j2171_0 (dB at_167) 169 rfl rfl ?_
         refine w_iload X2171 hx j2171_1 (dB at_169) 171 rfl rfl ?_
         refine w_callS X2171 hx hZ hown e2171_ (rm7 l Z a0 hw [] j2171_0 j2171_1 h2171 n0 Z2171 ) (tw_44 hw) (tw_45 hw) (tw_46 hw) (tw_47 hw) (by decide) (by rw [hml]; rfl) [(.int j2171_0), (.int j2171_1)] [] (lenOf pd_3 rfl) rfl rfl (by decide) 0 rfl (by decide) (by decide) (by decide) (dB at_171) 174 rfl (fun r2172 T2172 L2172 X2172 q2172 => ?_)
         obtain ⟨z2172, rfl, f2172, Nq2172, eq2172⟩ := q2172
         have N2172 := Fr.app N2171 Nq2172
         dsimp only [oD1, oD2, oD3, oD4]
         refine w_istore X2172 hx (dB at_174) 176 rfl #[.val (.int xp), .val (.int xq), .val (.int xr), .val (.int (4 : Int32)), .val (.int (2 : Int32)), .val (.int (0 : Int32)), .val (.int (1 : Int32)), .val (.int (0 : Int32)), .val (.int (0 : Int32)), .val (.int (1 : Int32)), .val (.int j2171_0), .val (.int j2171_1), .val (.ref a2158), .val (.ref a2163), .val (.int z2172)] rfl ?_
         refine w_aload X2172 hx (.ref a2163) (dB at_176) 178 rfl rfl rfl ?_
         refine w_virt X2172 hx hZ hown eq2172 (rm8 l Z a0 hw [] a2163 (0 : Int32) h2171 n0 Z2171 jf2171_2) (tw_48 hw) (tw_49 hw) (notFace_of_selects (args := #[]) (mvT hZ (tw_51 hw))) (tw_51 hw) (tw_50 hw) (tw_19 hw) (tw_52 hw) (by decide) a2163 jf2171_0 (by rw [hml]; rfl) [] [] (lenOf pd_4 rfl) rfl rfl (by decide) 0 rfl (by decide) (by decide) (by decide) (dB at_178) 181 rfl (fun r2173 T2173 L2173 X2173 q2173 => ?_)
         obtain ⟨rfl, Nq2173, eq2173⟩ := q2173
         have N2173 := Fr.app N2172 Nq2173
         dsimp only [oD1, oD2, oD3, oD4]
         refine w_iload X2173 hx z2172 (dB at_181) 183 rfl rfl ?_
         refine w_icmp_ne X2173 hx 0 z2172.toInt (by decide) rfl (dB at_183) 283 186 (fun c2174 => ?_) (fun c2174 => ?_)
         ·exfalso; omega
         ·refine w_aload X2173 hx (.ref a2163) (dB at_186) 188 rfl rfl rfl ?_
          refine w_iload X2173 hx (2 : Int32) (dB at_188) 190 rfl rfl ?_
          refine w_virt X2173 hx hZ hown eq2173 (rm9i2 l Z a0 hw [] a2163 va2168 kv2168 [.null, .null, .null] .null h2171 n0 Z2171 jf2171_1 jf2171_3 (by rfl) (by rfl)) (tw_53 hw) (tw_54 hw) (notFace_of_selects (args := #[]) (mvT hZ (tw_56 hw))) (tw_56 hw) (tw_55 hw) (tw_19 hw) (tw_57 hw) (by decide) a2163 jf2171_0 (by rw [hml]; rfl) [(.int (2 : Int32))] [] (lenOf pd_5 rfl) rfl rfl (by decide) 0 rfl (by decide) (by decide) (by decide) (dB at_190) 193 rfl (fun r2175 T2175 L2175 X2175 q2175 => ?_)
          obtain ⟨rfl, Nq2175, eq2175⟩ := q2175
          have N2175 := Fr.app N2173 Nq2175
          dsimp only [oD1, oD2, oD3, oD4]
          refine w_aload X2175 hx (.ref a2158) (dB at_193) 195 rfl rfl rfl ?_
          refine w_acmp X2175 hx rfl rfl (dB at_195) false (decide_eq_false nofun) 202 (by decide) (by decide) ?_
          refine w_iconst X2175 hx (dB at_202) 203 rfl (0 : Int32) (by decide) ?_
          refine w_iconst X2175 hx (dB at_203) 204 rfl (0 : Int32) (by decide) ?_
          refine w_iload X2175 hx z2172 (dB at_204) 206 rfl rfl ?_
          refine w_icmp_ge X2175 hx 0 z2172.toInt (by decide) rfl (dB at_206) 213 209 (fun c2176 => ?_) (fun c2176 => ?_)
          ·refine w_iconst X2175 hx (dB at_213) 214 rfl (0 : Int32) (by decide) ?_
           refine w_icmp_ne X2175 hx 0 0 (by decide) (by decide) (dB at_214) 283 217 (fun c2177 => ?_) (fun c2177 => ?_)
           ·exfalso; omega
           ·refine w_aload X2175 hx (.ref a2163) (dB at_217) 219 rfl rfl rfl ?_
            refine w_iload X2175 hx (0 : Int32) (dB at_219) 221 rfl rfl ?_
            refine w_virt X2175 hx hZ hown eq2175 (rm9i0 l Z a0 hw [] a2163 va2168 kv2168 [.null, .null, .null] .null h2171 n0 Z2171 jf2171_1 jf2171_3 (by rfl) (by rfl)) (tw_53 hw) (tw_54 hw) (notFace_of_selects (args := #[]) (mvT hZ (tw_56 hw))) (tw_56 hw) (tw_55 hw) (tw_19 hw) (tw_57 hw) (by decide) a2163 jf2171_0 (by rw [hml]; rfl) [(.int (0 : Int32))] [] (lenOf pd_5 rfl) rfl rfl (by decide) 0 rfl (by decide) (by decide) (by decide) (dB at_221) 224 rfl (fun r2178 T2178 L2178 X2178 q2178 => ?_)
            obtain ⟨rfl, Nq2178, eq2178⟩ := q2178
            have N2178 := Fr.app N2175 Nq2178
            dsimp only [oD1, oD2, oD3, oD4]
            refine w_aload X2178 hx (.ref a2158) (dB at_224) 226 rfl rfl rfl ?_
            refine w_acmp X2178 hx rfl rfl (dB at_226) false (decide_eq_false nofun) 233 (by decide) (by decide) ?_
            refine w_iconst X2178 hx (dB at_233) 234 rfl (0 : Int32) (by decide) ?_
            refine w_iconst X2178 hx (dB at_234) 235 rfl (1 : Int32) (by decide) ?_
            refine w_iload X2178 hx z2172 (dB at_235) 237 rfl rfl ?_
            refine w_icmp_ge X2178 hx 1 z2172.toInt (by decide) rfl (dB at_237) 244 240 (fun c2179 => ?_) (fun c2179 => ?_)
            ·refine w_iconst X2178 hx (dB at_244) 245 rfl (0 : Int32) (by decide) ?_
             refine w_icmp_ne X2178 hx 0 0 (by decide) (by decide) (dB at_245) 283 248 (fun c2180 => ?_) (fun c2180 => ?_)
             ·exfalso; omega
             ·refine w_aload X2178 hx (.ref a2163) (dB at_248) 250 rfl rfl rfl ?_
              refine w_iload X2178 hx (1 : Int32) (dB at_250) 252 rfl rfl ?_
              refine w_virt X2178 hx hZ hown eq2178 (rm9i1 l Z a0 hw [] a2163 va2168 kv2168 [.null, .null, .null] .null h2171 n0 Z2171 jf2171_1 jf2171_3 (by rfl) (by rfl)) (tw_53 hw) (tw_54 hw) (notFace_of_selects (args := #[]) (mvT hZ (tw_56 hw))) (tw_56 hw) (tw_55 hw) (tw_19 hw) (tw_57 hw) (by decide) a2163 jf2171_0 (by rw [hml]; rfl) [(.int (1 : Int32))] [] (lenOf pd_5 rfl) rfl rfl (by decide) 0 rfl (by decide) (by decide) (by decide) (dB at_252) 255 rfl (fun r2181 T2181 L2181 X2181 q2181 => ?_)
              obtain ⟨rfl, Nq2181, eq2181⟩ := q2181
              have N2181 := Fr.app N2178 Nq2181
              dsimp only [oD1, oD2, oD3, oD4]
              refine w_aload X2181 hx (.ref a2158) (dB at_255) 257 rfl rfl rfl ?_
              refine w_acmp X2181 hx rfl rfl (dB at_257) false (decide_eq_false nofun) 264 (by decide) (by decide) ?_
              refine w_iconst X2181 hx (dB at_264) 265 rfl (0 : Int32) (by decide) ?_
              refine w_iconst X2181 hx (dB at_265) 266 rfl (2 : Int32) (by decide) ?_
              refine w_iload X2181 hx z2172 (dB at_266) 268 rfl rfl ?_
              refine w_icmp_ge X2181 hx 2 z2172.toInt (by decide) rfl (dB at_268) 275 271 (fun c2182 => ?_) (fun c2182 => ?_)
              ·refine w_iconst X2181 hx (dB at_275) 276 rfl (0 : Int32) (by decide) ?_
               refine w_icmp_ne X2181 hx 0 0 (by decide) (by decide) (dB at_276) 283 279 (fun c2183 => ?_) (fun c2183 => ?_)
               ·exfalso; omega
               ·refine w_iconst X2181 hx (dB at_279) 280 rfl (1 : Int32) (by decide) ?_
                refine w_goto X2181 hx (dB at_280) 284 ?_
                refine w_retN X2181 hx hlk (t := .boolean) hret (by simp) (dB at_284) (by decide) (by decide) ?_
                rw [eq2181]
                exact ⟨rfl, N2181⟩
              ·exfalso; omega
            ·exfalso; omega
          ·exfalso; omega
        have J2184 : ∀ (T' : State) (h' : Heap) (L' : List Loc) (_ : Stand p l e room_1 s m #[(.int xp), (.int xq), (.int xr)] below meth c T' L' 4 10) (_ : T'.heap = h') (_ : Fr n0 L') (_ : n0 ≤ h'.size) (_ : Keep h0 h' []) (j2184_0 : Int32) (j2184_1 : Int32) , (Exa Z h' a2163 cN_2) → (Fld Z h' a2163 cN_2 "values" cN_3 (.ref va2168)) → (Fld Z h' a2163 cN_2 "trailSize" "I" (.int (1 : Int32))) → (Arv Z h' va2168 kv2168 (.object cN_4) (3 : Int32) [.null, .null, (.ref a2158)] .null) → (0 ≤ j2184_0.toInt ∧ j2184_0.toInt ≤ 3 ∧ 0 ≤ j2184_1.toInt ∧ j2184_1.toInt ≤ 4 ∧ ((j2184_0.toInt ≤ j2184_1.toInt ∧ j2184_0.toInt = 1) ∨ (j2184_1.toInt < j2184_0.toInt ∧ j2184_1.toInt = 1))) → Wk p e below (FN s (Q0 Z xp xq xr h0 n0) 4 10) T' (mkF m 167 #[.val (.int xp), .val (.int xq), .val (.int xr), .val (.int (4 : Int32)), .val (.int (2 : Int32)), .val (.int (0 : Int32)), .val (.int (1 : Int32)), .val (.int (0 : Int32)), .val (.int (0 : Int32)), .val (.int (1 : Int32)), .val (.int j2184_0), .val (.int j2184_1), .val (.ref a2158), .val (.ref a2163), .unset] []) := by
         intro T2184 h2184 L2184 X2184 e2184_ N2184 Z2184 K2184 j2184_0 j2184_1  jf2184_0 jf2184_1 jf2184_2 jf2184_3 f2184
         refine w_iload X2184 hx j2184_0 (dB at_167) 169 rfl rfl ?_
         refine w_iload X2184 hx j2184_1 (dB at_169) 171 rfl rfl ?_
         refine w_callS X2184 hx hZ hown e2184_ (rm7 l Z a0 hw [] j2184_0 j2184_1 h2184 n0 Z2184 ) (tw_44 hw) (tw_45 hw) (tw_46 hw) (tw_47 hw) (by decide) (by rw [hml]; rfl) [(.int j2184_0), (.int j2184_1)] [] (lenOf pd_3 rfl) rfl rfl (by decide) 0 rfl (by decide) (by decide) (by decide) (dB at_171) 174 rfl (fun r2185 T2185 L2185 X2185 q2185 => ?_)
         obtain ⟨z2185, rfl, f2185, Nq2185, eq2185⟩ := q2185
         have N2185 := Fr.app N2184 Nq2185
         dsimp only [oD1, oD2, oD3, oD4]
         refine w_istore X2185 hx (dB at_174) 176 rfl #[.val (.int xp), .val (.int xq), .val (.int xr), .val (.int (4 : Int32)), .val (.int (2 : Int32)), .val (.int (0 : Int32)), .val (.int (1 : Int32)), .val (.int (0 : Int32)), .val (.int (0 : Int32)), .val (.int (1 : Int32)), .val (.int j2184_0), .val (.int j2184_1), .val (.ref a2158), .val (.ref a2163), .val (.int z2185)] rfl ?_
         refine w_aload X2185 hx (.ref a2163) (dB at_176) 178 rfl rfl rfl ?_
         refine w_virt X2185 hx hZ hown eq2185 (rm8 l Z a0 hw [] a2163 (1 : Int32) h2184 n0 Z2184 jf2184_2) (tw_48 hw) (tw_49 hw) (notFace_of_selects (args := #[]) (mvT hZ (tw_51 hw))) (tw_51 hw) (tw_50 hw) (tw_19 hw) (tw_52 hw) (by decide) a2163 jf2184_0 (by rw [hml]; rfl) [] [] (lenOf pd_4 rfl) rfl rfl (by decide) 0 rfl (by decide) (by decide) (by decide) (dB at_178) 181 rfl (fun r2186 T2186 L2186 X2186 q2186 => ?_)
         obtain ⟨rfl, Nq2186, eq2186⟩ := q2186
         have N2186 := Fr.app N2185 Nq2186
         dsimp only [oD1, oD2, oD3, oD4]
         refine w_iload X2186 hx z2185 (dB at_181) 183 rfl rfl ?_
         refine w_icmp_ne X2186 hx 1 z2185.toInt (by decide) rfl (dB at_183) 283 186 (fun c2187 => ?_) (fun c2187 => ?_)
         ·exfalso; omega
         ·refine w_aload X2186 hx (.ref a2163) (dB at_186) 188 rfl rfl rfl ?_
          refine w_iload X2186 hx (2 : Int32) (dB at_188) 190 rfl rfl ?_
          refine w_virt X2186 hx hZ hown eq2186 (rm9i2 l Z a0 hw [] a2163 va2168 kv2168 [.null, .null, (.ref a2158)] (.ref a2158) h2184 n0 Z2184 jf2184_1 jf2184_3 (by rfl) (by rfl)) (tw_53 hw) (tw_54 hw) (notFace_of_selects (args := #[]) (mvT hZ (tw_56 hw))) (tw_56 hw) (tw_55 hw) (tw_19 hw) (tw_57 hw) (by decide) a2163 jf2184_0 (by rw [hml]; rfl) [(.int (2 : Int32))] [] (lenOf pd_5 rfl) rfl rfl (by decide) 0 rfl (by decide) (by decide) (by decide) (dB at_190) 193 rfl (fun r2188 T2188 L2188 X2188 q2188 => ?_)
          obtain ⟨rfl, Nq2188, eq2188⟩ := q2188
          have N2188 := Fr.app N2186 Nq2188
          dsimp only [oD1, oD2, oD3, oD4]
          refine w_aload X2188 hx (.ref a2158) (dB at_193) 195 rfl rfl rfl ?_
          refine w_acmp X2188 hx rfl rfl (dB at_195) true (decide_eq_true rfl) 198 (by decide) (by decide) ?_
          refine w_iconst X2188 hx (dB at_198) 199 rfl (1 : Int32) (by decide) ?_
          refine w_goto X2188 hx (dB at_199) 203 ?_
          refine w_iconst X2188 hx (dB at_203) 204 rfl (0 : Int32) (by decide) ?_
          refine w_iload X2188 hx z2185 (dB at_204) 206 rfl rfl ?_
          refine w_icmp_ge X2188 hx 0 z2185.toInt (by decide) rfl (dB at_206) 213 209 (fun c2189 => ?_) (fun c2189 => ?_)
          ·exfalso; omega
          ·refine w_iconst X2188 hx (dB at_209) 210 rfl (1 : Int32) (by decide) ?_
           refine w_goto X2188 hx (dB at_210) 214 ?_
           refine w_icmp_ne X2188 hx 1 1 (by decide) (by decide) (dB at_214) 283 217 (fun c2190 => ?_) (fun c2190 => ?_)
           ·exfalso; omega
           ·refine w_aload X2188 hx (.ref a2163) (dB at_217) 219 rfl rfl rfl ?_
            refine w_iload X2188 hx (0 : Int32) (dB at_219) 221 rfl rfl ?_
            refine w_virt X2188 hx hZ hown eq2188 (rm9i0 l Z a0 hw [] a2163 va2168 kv2168 [.null, .null, (.ref a2158)] .null h2184 n0 Z2184 jf2184_1 jf2184_3 (by rfl) (by rfl)) (tw_53 hw) (tw_54 hw) (notFace_of_selects (args := #[]) (mvT hZ (tw_56 hw))) (tw_56 hw) (tw_55 hw) (tw_19 hw) (tw_57 hw) (by decide) a2163 jf2184_0 (by rw [hml]; rfl) [(.int (0 : Int32))] [] (lenOf pd_5 rfl) rfl rfl (by decide) 0 rfl (by decide) (by decide) (by decide) (dB at_221) 224 rfl (fun r2191 T2191 L2191 X2191 q2191 => ?_)
            obtain ⟨rfl, Nq2191, eq2191⟩ := q2191
            have N2191 := Fr.app N2188 Nq2191
            dsimp only [oD1, oD2, oD3, oD4]
            refine w_aload X2191 hx (.ref a2158) (dB at_224) 226 rfl rfl rfl ?_
            refine w_acmp X2191 hx rfl rfl (dB at_226) false (decide_eq_false nofun) 233 (by decide) (by decide) ?_
            refine w_iconst X2191 hx (dB at_233) 234 rfl (0 : Int32) (by decide) ?_
            refine w_iconst X2191 hx (dB at_234) 235 rfl (1 : Int32) (by decide) ?_
            refine w_iload X2191 hx z2185 (dB at_235) 237 rfl rfl ?_
            refine w_icmp_ge X2191 hx 1 z2185.toInt (by decide) rfl (dB at_237) 244 240 (fun c2192 => ?_) (fun c2192 => ?_)
            ·refine w_iconst X2191 hx (dB at_244) 245 rfl (0 : Int32) (by decide) ?_
             refine w_icmp_ne X2191 hx 0 0 (by decide) (by decide) (dB at_245) 283 248 (fun c2193 => ?_) (fun c2193 => ?_)
             ·exfalso; omega
             ·refine w_aload X2191 hx (.ref a2163) (dB at_248) 250 rfl rfl rfl ?_
              refine w_iload X2191 hx (1 : Int32) (dB at_250) 252 rfl rfl ?_
              refine w_virt X2191 hx hZ hown eq2191 (rm9i1 l Z a0 hw [] a2163 va2168 kv2168 [.null, .null, (.ref a2158)] .null h2184 n0 Z2184 jf2184_1 jf2184_3 (by rfl) (by rfl)) (tw_53 hw) (tw_54 hw) (notFace_of_selects (args := #[]) (mvT hZ (tw_56 hw))) (tw_56 hw) (tw_55 hw) (tw_19 hw) (tw_57 hw) (by decide) a2163 jf2184_0 (by rw [hml]; rfl) [(.int (1 : Int32))] [] (lenOf pd_5 rfl) rfl rfl (by decide) 0 rfl (by decide) (by decide) (by decide) (dB at_252) 255 rfl (fun r2194 T2194 L2194 X2194 q2194 => ?_)
              obtain ⟨rfl, Nq2194, eq2194⟩ := q2194
              have N2194 := Fr.app N2191 Nq2194
              dsimp only [oD1, oD2, oD3, oD4]
              refine w_aload X2194 hx (.ref a2158) (dB at_255) 257 rfl rfl rfl ?_
              refine w_acmp X2194 hx rfl rfl (dB at_257) false (decide_eq_false nofun) 264 (by decide) (by decide) ?_
              refine w_iconst X2194 hx (dB at_264) 265 rfl (0 : Int32) (by decide) ?_
              refine w_iconst X2194 hx (dB at_265) 266 rfl (2 : Int32) (by decide) ?_
              refine w_iload X2194 hx z2185 (dB at_266) 268 rfl rfl ?_
              refine w_icmp_ge X2194 hx 2 z2185.toInt (by decide) rfl (dB at_268) 275 271 (fun c2195 => ?_) (fun c2195 => ?_)
              ·refine w_iconst X2194 hx (dB at_275) 276 rfl (0 : Int32) (by decide) ?_
               refine w_icmp_ne X2194 hx 0 0 (by decide) (by decide) (dB at_276) 283 279 (fun c2196 => ?_) (fun c2196 => ?_)
               ·exfalso; omega
               ·refine w_iconst X2194 hx (dB at_279) 280 rfl (1 : Int32) (by decide) ?_
                refine w_goto X2194 hx (dB at_280) 284 ?_
                refine w_retN X2194 hx hlk (t := .boolean) hret (by simp) (dB at_284) (by decide) (by decide) ?_
                rw [eq2194]
                exact ⟨rfl, N2194⟩
              ·exfalso; omega
            ·exfalso; omega
        have J2197 : ∀ (T' : State) (h' : Heap) (L' : List Loc) (_ : Stand p l e room_1 s m #[(.int xp), (.int xq), (.int xr)] below meth c T' L' 4 10) (_ : T'.heap = h') (_ : Fr n0 L') (_ : n0 ≤ h'.size) (_ : Keep h0 h' []) (j2197_0 : Int32) (j2197_1 : Int32) , (Exa Z h' a2163 cN_2) → (Fld Z h' a2163 cN_2 "values" cN_3 (.ref va2168)) → (Fld Z h' a2163 cN_2 "trailSize" "I" (.int (2 : Int32))) → (Arv Z h' va2168 kv2168 (.object cN_4) (3 : Int32) [(.ref a2158), .null, (.ref a2158)] .null) → (0 ≤ j2197_0.toInt ∧ j2197_0.toInt ≤ 3 ∧ 0 ≤ j2197_1.toInt ∧ j2197_1.toInt ≤ 4 ∧ ((j2197_0.toInt ≤ j2197_1.toInt ∧ j2197_0.toInt = 2) ∨ (j2197_1.toInt < j2197_0.toInt ∧ j2197_1.toInt = 2))) → Wk p e below (FN s (Q0 Z xp xq xr h0 n0) 4 10) T' (mkF m 167 #[.val (.int xp), .val (.int xq), .val (.int xr), .val (.int (4 : Int32)), .val (.int (2 : Int32)), .val (.int (0 : Int32)), .val (.int (1 : Int32)), .val (.int (0 : Int32)), .val (.int (0 : Int32)), .val (.int (1 : Int32)), .val (.int j2197_0), .val (.int j2197_1), .val (.ref a2158), .val (.ref a2163), .unset] []) := by
         intro T2197 h2197 L2197 X2197 e2197_ N2197 Z2197 K2197 j2197_0 j2197_1  jf2197_0 jf2197_1 jf2197_2 jf2197_3 f2197
         refine w_iload X2197 hx j2197_0 (dB at_167) 169 rfl rfl ?_
         refine w_iload X2197 hx j2197_1 (dB at_169) 171 rfl rfl ?_
         refine w_callS X2197 hx hZ hown e2197_ (rm7 l Z a0 hw [] j2197_0 j2197_1 h2197 n0 Z2197 ) (tw_44 hw) (tw_45 hw) (tw_46 hw) (tw_47 hw) (by decide) (by rw [hml]; rfl) [(.int j2197_0), (.int j2197_1)] [] (lenOf pd_3 rfl) rfl rfl (by decide) 0 rfl (by decide) (by decide) (by decide) (dB at_171) 174 rfl (fun r2198 T2198 L2198 X2198 q2198 => ?_)
         obtain ⟨z2198, rfl, f2198, Nq2198, eq2198⟩ := q2198
         have N2198 := Fr.app N2197 Nq2198
         dsimp only [oD1, oD2, oD3, oD4]
         refine w_istore X2198 hx (dB at_174) 176 rfl #[.val (.int xp), .val (.int xq), .val (.int xr), .val (.int (4 : Int32)), .val (.int (2 : Int32)), .val (.int (0 : Int32)), .val (.int (1 : Int32)), .val (.int (0 : Int32)), .val (.int (0 : Int32)), .val (.int (1 : Int32)), .val (.int j2197_0), .val (.int j2197_1), .val (.ref a2158), .val (.ref a2163), .val (.int z2198)] rfl ?_
         refine w_aload X2198 hx (.ref a2163) (dB at_176) 178 rfl rfl rfl ?_
         refine w_virt X2198 hx hZ hown eq2198 (rm8 l Z a0 hw [] a2163 (2 : Int32) h2197 n0 Z2197 jf2197_2) (tw_48 hw) (tw_49 hw) (notFace_of_selects (args := #[]) (mvT hZ (tw_51 hw))) (tw_51 hw) (tw_50 hw) (tw_19 hw) (tw_52 hw) (by decide) a2163 jf2197_0 (by rw [hml]; rfl) [] [] (lenOf pd_4 rfl) rfl rfl (by decide) 0 rfl (by decide) (by decide) (by decide) (dB at_178) 181 rfl (fun r2199 T2199 L2199 X2199 q2199 => ?_)
         obtain ⟨rfl, Nq2199, eq2199⟩ := q2199
         have N2199 := Fr.app N2198 Nq2199
         dsimp only [oD1, oD2, oD3, oD4]
         refine w_iload X2199 hx z2198 (dB at_181) 183 rfl rfl ?_
         refine w_icmp_ne X2199 hx 2 z2198.toInt (by decide) rfl (dB at_183) 283 186 (fun c2200 => ?_) (fun c2200 => ?_)
         ·exfalso; omega
         ·refine w_aload X2199 hx (.ref a2163) (dB at_186) 188 rfl rfl rfl ?_
          refine w_iload X2199 hx (2 : Int32) (dB at_188) 190 rfl rfl ?_
          refine w_virt X2199 hx hZ hown eq2199 (rm9i2 l Z a0 hw [] a2163 va2168 kv2168 [(.ref a2158), .null, (.ref a2158)] (.ref a2158) h2197 n0 Z2197 jf2197_1 jf2197_3 (by rfl) (by rfl)) (tw_53 hw) (tw_54 hw) (notFace_of_selects (args := #[]) (mvT hZ (tw_56 hw))) (tw_56 hw) (tw_55 hw) (tw_19 hw) (tw_57 hw) (by decide) a2163 jf2197_0 (by rw [hml]; rfl) [(.int (2 : Int32))] [] (lenOf pd_5 rfl) rfl rfl (by decide) 0 rfl (by decide) (by decide) (by decide) (dB at_190) 193 rfl (fun r2201 T2201 L2201 X2201 q2201 => ?_)
          obtain ⟨rfl, Nq2201, eq2201⟩ := q2201
          have N2201 := Fr.app N2199 Nq2201
          dsimp only [oD1, oD2, oD3, oD4]
          refine w_aload X2201 hx (.ref a2158) (dB at_193) 195 rfl rfl rfl ?_
          refine w_acmp X2201 hx rfl rfl (dB at_195) true (decide_eq_true rfl) 198 (by decide) (by decide) ?_
          refine w_iconst X2201 hx (dB at_198) 199 rfl (1 : Int32) (by decide) ?_
          refine w_goto X2201 hx (dB at_199) 203 ?_
          refine w_iconst X2201 hx (dB at_203) 204 rfl (0 : Int32) (by decide) ?_
          refine w_iload X2201 hx z2198 (dB at_204) 206 rfl rfl ?_
          refine w_icmp_ge X2201 hx 0 z2198.toInt (by decide) rfl (dB at_206) 213 209 (fun c2202 => ?_) (fun c2202 => ?_)
          ·exfalso; omega
          ·refine w_iconst X2201 hx (dB at_209) 210 rfl (1 : Int32) (by decide) ?_
           refine w_goto X2201 hx (dB at_210) 214 ?_
           refine w_icmp_ne X2201 hx 1 1 (by decide) (by decide) (dB at_214) 283 217 (fun c2203 => ?_) (fun c2203 => ?_)
           ·exfalso; omega
           ·refine w_aload X2201 hx (.ref a2163) (dB at_217) 219 rfl rfl rfl ?_
            refine w_iload X2201 hx (0 : Int32) (dB at_219) 221 rfl rfl ?_
            refine w_virt X2201 hx hZ hown eq2201 (rm9i0 l Z a0 hw [] a2163 va2168 kv2168 [(.ref a2158), .null, (.ref a2158)] (.ref a2158) h2197 n0 Z2197 jf2197_1 jf2197_3 (by rfl) (by rfl)) (tw_53 hw) (tw_54 hw) (notFace_of_selects (args := #[]) (mvT hZ (tw_56 hw))) (tw_56 hw) (tw_55 hw) (tw_19 hw) (tw_57 hw) (by decide) a2163 jf2197_0 (by rw [hml]; rfl) [(.int (0 : Int32))] [] (lenOf pd_5 rfl) rfl rfl (by decide) 0 rfl (by decide) (by decide) (by decide) (dB at_221) 224 rfl (fun r2204 T2204 L2204 X2204 q2204 => ?_)
            obtain ⟨rfl, Nq2204, eq2204⟩ := q2204
            have N2204 := Fr.app N2201 Nq2204
            dsimp only [oD1, oD2, oD3, oD4]
            refine w_aload X2204 hx (.ref a2158) (dB at_224) 226 rfl rfl rfl ?_
            refine w_acmp X2204 hx rfl rfl (dB at_226) true (decide_eq_true rfl) 229 (by decide) (by decide) ?_
            refine w_iconst X2204 hx (dB at_229) 230 rfl (1 : Int32) (by decide) ?_
            refine w_goto X2204 hx (dB at_230) 234 ?_
            refine w_iconst X2204 hx (dB at_234) 235 rfl (1 : Int32) (by decide) ?_
            refine w_iload X2204 hx z2198 (dB at_235) 237 rfl rfl ?_
            refine w_icmp_ge X2204 hx 1 z2198.toInt (by decide) rfl (dB at_237) 244 240 (fun c2205 => ?_) (fun c2205 => ?_)
            ·exfalso; omega
            ·refine w_iconst X2204 hx (dB at_240) 241 rfl (1 : Int32) (by decide) ?_
             refine w_goto X2204 hx (dB at_241) 245 ?_
             refine w_icmp_ne X2204 hx 1 1 (by decide) (by decide) (dB at_245) 283 248 (fun c2206 => ?_) (fun c2206 => ?_)
             ·exfalso; omega
             ·refine w_aload X2204 hx (.ref a2163) (dB at_248) 250 rfl rfl rfl ?_
              refine w_iload X2204 hx (1 : Int32) (dB at_250) 252 rfl rfl ?_
              refine w_virt X2204 hx hZ hown eq2204 (rm9i1 l Z a0 hw [] a2163 va2168 kv2168 [(.ref a2158), .null, (.ref a2158)] .null h2197 n0 Z2197 jf2197_1 jf2197_3 (by rfl) (by rfl)) (tw_53 hw) (tw_54 hw) (notFace_of_selects (args := #[]) (mvT hZ (tw_56 hw))) (tw_56 hw) (tw_55 hw) (tw_19 hw) (tw_57 hw) (by decide) a2163 jf2197_0 (by rw [hml]; rfl) [(.int (1 : Int32))] [] (lenOf pd_5 rfl) rfl rfl (by decide) 0 rfl (by decide) (by decide) (by decide) (dB at_252) 255 rfl (fun r2207 T2207 L2207 X2207 q2207 => ?_)
              obtain ⟨rfl, Nq2207, eq2207⟩ := q2207
              have N2207 := Fr.app N2204 Nq2207
              dsimp only [oD1, oD2, oD3, oD4]
              refine w_aload X2207 hx (.ref a2158) (dB at_255) 257 rfl rfl rfl ?_
              refine w_acmp X2207 hx rfl rfl (dB at_257) false (decide_eq_false nofun) 264 (by decide) (by decide) ?_
              refine w_iconst X2207 hx (dB at_264) 265 rfl (0 : Int32) (by decide) ?_
              refine w_iconst X2207 hx (dB at_265) 266 rfl (2 : Int32) (by decide) ?_
              refine w_iload X2207 hx z2198 (dB at_266) 268 rfl rfl ?_
              refine w_icmp_ge X2207 hx 2 z2198.toInt (by decide) rfl (dB at_268) 275 271 (fun c2208 => ?_) (fun c2208 => ?_)
              ·refine w_iconst X2207 hx (dB at_275) 276 rfl (0 : Int32) (by decide) ?_
               refine w_icmp_ne X2207 hx 0 0 (by decide) (by decide) (dB at_276) 283 279 (fun c2209 => ?_) (fun c2209 => ?_)
               ·exfalso; omega
               ·refine w_iconst X2207 hx (dB at_279) 280 rfl (1 : Int32) (by decide) ?_
                refine w_goto X2207 hx (dB at_280) 284 ?_
                refine w_retN X2207 hx hlk (t := .boolean) hret (by simp) (dB at_284) (by decide) (by decide) ?_
                rw [eq2207]
                exact ⟨rfl, N2207⟩
              ·exfalso; omega
        have J2210 : ∀ (T' : State) (h' : Heap) (L' : List Loc) (_ : Stand p l e room_1 s m #[(.int xp), (.int xq), (.int xr)] below meth c T' L' 4 10) (_ : T'.heap = h') (_ : Fr n0 L') (_ : n0 ≤ h'.size) (_ : Keep h0 h' []) (j2210_0 : Int32) (j2210_1 : Int32) , (Exa Z h' a2163 cN_2) → (Fld Z h' a2163 cN_2 "values" cN_3 (.ref va2168)) → (Fld Z h' a2163 cN_2 "trailSize" "I" (.int (3 : Int32))) → (Arv Z h' va2168 kv2168 (.object cN_4) (3 : Int32) [(.ref a2158), (.ref a2158), (.ref a2158)] .null) → (0 ≤ j2210_0.toInt ∧ j2210_0.toInt ≤ 3 ∧ 0 ≤ j2210_1.toInt ∧ j2210_1.toInt ≤ 4 ∧ ((j2210_0.toInt ≤ j2210_1.toInt ∧ j2210_0.toInt = 3) ∨ (j2210_1.toInt < j2210_0.toInt ∧ j2210_1.toInt = 3))) → Wk p e below (FN s (Q0 Z xp xq xr h0 n0) 4 10) T' (mkF m 167 #[.val (.int xp), .val (.int xq), .val (.int xr), .val (.int (4 : Int32)), .val (.int (2 : Int32)), .val (.int (0 : Int32)), .val (.int (1 : Int32)), .val (.int (0 : Int32)), .val (.int (0 : Int32)), .val (.int (1 : Int32)), .val (.int j2210_0), .val (.int j2210_1), .val (.ref a2158), .val (.ref a2163), .unset] []) := by
         intro T2210 h2210 L2210 X2210 e2210_ N2210 Z2210 K2210 j2210_0 j2210_1  jf2210_0 jf2210_1 jf2210_2 jf2210_3 f2210
         refine w_iload X2210 hx j2210_0 (dB at_167) 169 rfl rfl ?_
         refine w_iload X2210 hx j2210_1 (dB at_169) 171 rfl rfl ?_
         refine w_callS X2210 hx hZ hown e2210_ (rm7 l Z a0 hw [] j2210_0 j2210_1 h2210 n0 Z2210 ) (tw_44 hw) (tw_45 hw) (tw_46 hw) (tw_47 hw) (by decide) (by rw [hml]; rfl) [(.int j2210_0), (.int j2210_1)] [] (lenOf pd_3 rfl) rfl rfl (by decide) 0 rfl (by decide) (by decide) (by decide) (dB at_171) 174 rfl (fun r2211 T2211 L2211 X2211 q2211 => ?_)
         obtain ⟨z2211, rfl, f2211, Nq2211, eq2211⟩ := q2211
         have N2211 := Fr.app N2210 Nq2211
         dsimp only [oD1, oD2, oD3, oD4]
         refine w_istore X2211 hx (dB at_174) 176 rfl #[.val (.int xp), .val (.int xq), .val (.int xr), .val (.int (4 : Int32)), .val (.int (2 : Int32)), .val (.int (0 : Int32)), .val (.int (1 : Int32)), .val (.int (0 : Int32)), .val (.int (0 : Int32)), .val (.int (1 : Int32)), .val (.int j2210_0), .val (.int j2210_1), .val (.ref a2158), .val (.ref a2163), .val (.int z2211)] rfl ?_
         refine w_aload X2211 hx (.ref a2163) (dB at_176) 178 rfl rfl rfl ?_
         refine w_virt X2211 hx hZ hown eq2211 (rm8 l Z a0 hw [] a2163 (3 : Int32) h2210 n0 Z2210 jf2210_2) (tw_48 hw) (tw_49 hw) (notFace_of_selects (args := #[]) (mvT hZ (tw_51 hw))) (tw_51 hw) (tw_50 hw) (tw_19 hw) (tw_52 hw) (by decide) a2163 jf2210_0 (by rw [hml]; rfl) [] [] (lenOf pd_4 rfl) rfl rfl (by decide) 0 rfl (by decide) (by decide) (by decide) (dB at_178) 181 rfl (fun r2212 T2212 L2212 X2212 q2212 => ?_)
         obtain ⟨rfl, Nq2212, eq2212⟩ := q2212
         have N2212 := Fr.app N2211 Nq2212
         dsimp only [oD1, oD2, oD3, oD4]
         refine w_iload X2212 hx z2211 (dB at_181) 183 rfl rfl ?_
         refine w_icmp_ne X2212 hx 3 z2211.toInt (by decide) rfl (dB at_183) 283 186 (fun c2213 => ?_) (fun c2213 => ?_)
         ·exfalso; omega
         ·refine w_aload X2212 hx (.ref a2163) (dB at_186) 188 rfl rfl rfl ?_
          refine w_iload X2212 hx (2 : Int32) (dB at_188) 190 rfl rfl ?_
          refine w_virt X2212 hx hZ hown eq2212 (rm9i2 l Z a0 hw [] a2163 va2168 kv2168 [(.ref a2158), (.ref a2158), (.ref a2158)] (.ref a2158) h2210 n0 Z2210 jf2210_1 jf2210_3 (by rfl) (by rfl)) (tw_53 hw) (tw_54 hw) (notFace_of_selects (args := #[]) (mvT hZ (tw_56 hw))) (tw_56 hw) (tw_55 hw) (tw_19 hw) (tw_57 hw) (by decide) a2163 jf2210_0 (by rw [hml]; rfl) [(.int (2 : Int32))] [] (lenOf pd_5 rfl) rfl rfl (by decide) 0 rfl (by decide) (by decide) (by decide) (dB at_190) 193 rfl (fun r2214 T2214 L2214 X2214 q2214 => ?_)
          obtain ⟨rfl, Nq2214, eq2214⟩ := q2214
          have N2214 := Fr.app N2212 Nq2214
          dsimp only [oD1, oD2, oD3, oD4]
          refine w_aload X2214 hx (.ref a2158) (dB at_193) 195 rfl rfl rfl ?_
          refine w_acmp X2214 hx rfl rfl (dB at_195) true (decide_eq_true rfl) 198 (by decide) (by decide) ?_
          refine w_iconst X2214 hx (dB at_198) 199 rfl (1 : Int32) (by decide) ?_
          refine w_goto X2214 hx (dB at_199) 203 ?_
          refine w_iconst X2214 hx (dB at_203) 204 rfl (0 : Int32) (by decide) ?_
          refine w_iload X2214 hx z2211 (dB at_204) 206 rfl rfl ?_
          refine w_icmp_ge X2214 hx 0 z2211.toInt (by decide) rfl (dB at_206) 213 209 (fun c2215 => ?_) (fun c2215 => ?_)
          ·exfalso; omega
          ·refine w_iconst X2214 hx (dB at_209) 210 rfl (1 : Int32) (by decide) ?_
           refine w_goto X2214 hx (dB at_210) 214 ?_
           refine w_icmp_ne X2214 hx 1 1 (by decide) (by decide) (dB at_214) 283 217 (fun c2216 => ?_) (fun c2216 => ?_)
           ·exfalso; omega
           ·refine w_aload X2214 hx (.ref a2163) (dB at_217) 219 rfl rfl rfl ?_
            refine w_iload X2214 hx (0 : Int32) (dB at_219) 221 rfl rfl ?_
            refine w_virt X2214 hx hZ hown eq2214 (rm9i0 l Z a0 hw [] a2163 va2168 kv2168 [(.ref a2158), (.ref a2158), (.ref a2158)] (.ref a2158) h2210 n0 Z2210 jf2210_1 jf2210_3 (by rfl) (by rfl)) (tw_53 hw) (tw_54 hw) (notFace_of_selects (args := #[]) (mvT hZ (tw_56 hw))) (tw_56 hw) (tw_55 hw) (tw_19 hw) (tw_57 hw) (by decide) a2163 jf2210_0 (by rw [hml]; rfl) [(.int (0 : Int32))] [] (lenOf pd_5 rfl) rfl rfl (by decide) 0 rfl (by decide) (by decide) (by decide) (dB at_221) 224 rfl (fun r2217 T2217 L2217 X2217 q2217 => ?_)
            obtain ⟨rfl, Nq2217, eq2217⟩ := q2217
            have N2217 := Fr.app N2214 Nq2217
            dsimp only [oD1, oD2, oD3, oD4]
            refine w_aload X2217 hx (.ref a2158) (dB at_224) 226 rfl rfl rfl ?_
            refine w_acmp X2217 hx rfl rfl (dB at_226) true (decide_eq_true rfl) 229 (by decide) (by decide) ?_
            refine w_iconst X2217 hx (dB at_229) 230 rfl (1 : Int32) (by decide) ?_
            refine w_goto X2217 hx (dB at_230) 234 ?_
            refine w_iconst X2217 hx (dB at_234) 235 rfl (1 : Int32) (by decide) ?_
            refine w_iload X2217 hx z2211 (dB at_235) 237 rfl rfl ?_
            refine w_icmp_ge X2217 hx 1 z2211.toInt (by decide) rfl (dB at_237) 244 240 (fun c2218 => ?_) (fun c2218 => ?_)
            ·exfalso; omega
            ·refine w_iconst X2217 hx (dB at_240) 241 rfl (1 : Int32) (by decide) ?_
             refine w_goto X2217 hx (dB at_241) 245 ?_
             refine w_icmp_ne X2217 hx 1 1 (by decide) (by decide) (dB at_245) 283 248 (fun c2219 => ?_) (fun c2219 => ?_)
             ·exfalso; omega
             ·refine w_aload X2217 hx (.ref a2163) (dB at_248) 250 rfl rfl rfl ?_
              refine w_iload X2217 hx (1 : Int32) (dB at_250) 252 rfl rfl ?_
              refine w_virt X2217 hx hZ hown eq2217 (rm9i1 l Z a0 hw [] a2163 va2168 kv2168 [(.ref a2158), (.ref a2158), (.ref a2158)] (.ref a2158) h2210 n0 Z2210 jf2210_1 jf2210_3 (by rfl) (by rfl)) (tw_53 hw) (tw_54 hw) (notFace_of_selects (args := #[]) (mvT hZ (tw_56 hw))) (tw_56 hw) (tw_55 hw) (tw_19 hw) (tw_57 hw) (by decide) a2163 jf2210_0 (by rw [hml]; rfl) [(.int (1 : Int32))] [] (lenOf pd_5 rfl) rfl rfl (by decide) 0 rfl (by decide) (by decide) (by decide) (dB at_252) 255 rfl (fun r2220 T2220 L2220 X2220 q2220 => ?_)
              obtain ⟨rfl, Nq2220, eq2220⟩ := q2220
              have N2220 := Fr.app N2217 Nq2220
              dsimp only [oD1, oD2, oD3, oD4]
              refine w_aload X2220 hx (.ref a2158) (dB at_255) 257 rfl rfl rfl ?_
              refine w_acmp X2220 hx rfl rfl (dB at_257) true (decide_eq_true rfl) 260 (by decide) (by decide) ?_
              refine w_iconst X2220 hx (dB at_260) 261 rfl (1 : Int32) (by decide) ?_
              refine w_goto X2220 hx (dB at_261) 265 ?_
              refine w_iconst X2220 hx (dB at_265) 266 rfl (2 : Int32) (by decide) ?_
              refine w_iload X2220 hx z2211 (dB at_266) 268 rfl rfl ?_
              refine w_icmp_ge X2220 hx 2 z2211.toInt (by decide) rfl (dB at_268) 275 271 (fun c2221 => ?_) (fun c2221 => ?_)
              ·exfalso; omega
              ·refine w_iconst X2220 hx (dB at_271) 272 rfl (1 : Int32) (by decide) ?_
               refine w_goto X2220 hx (dB at_272) 276 ?_
               refine w_icmp_ne X2220 hx 1 1 (by decide) (by decide) (dB at_276) 283 279 (fun c2222 => ?_) (fun c2222 => ?_)
               ·exfalso; omega
               ·refine w_iconst X2220 hx (dB at_279) 280 rfl (1 : Int32) (by decide) ?_
                refine w_goto X2220 hx (dB at_280) 284 ?_
                refine w_retN X2220 hx hlk (t := .boolean) hret (by simp) (dB at_284) (by decide) (by decide) ?_
                rw [eq2220]
                exact ⟨rfl, N2220⟩
        have s2223 : v2155.toInt = 0 ∨ v2155.toInt = 1 ∨ v2155.toInt = 2 ∨ v2155.toInt = 3 := by omega
        rcases s2223 with s2223 | s2223 | s2223 | s2223
        ·obtain rfl : v2155 = (0 : Int32) := eqI (s2223.trans (by decide))
         have z2223 : (0 : Int32).toInt = 0 := by decide
         refine w_iload X2168 hx (0 : Int32) (dB at_116) 118 rfl rfl ?_
         refine w_if_le X2168 hx 0 (by decide) (dB at_118) 130 121 (fun c2224 => ?_) (fun c2224 => ?_)
         ·refine w_iload X2168 hx (0 : Int32) (dB at_130) 132 rfl rfl ?_
          refine w_iconst X2168 hx (dB at_132) 133 rfl (1 : Int32) (by decide) ?_
          refine w_icmp_le X2168 hx 0 1 (by decide) (by decide) (dB at_133) 145 136 (fun c2225 => ?_) (fun c2225 => ?_)
          ·refine w_iload X2168 hx (0 : Int32) (dB at_145) 147 rfl rfl ?_
           refine w_iconst X2168 hx (dB at_147) 148 rfl (2 : Int32) (by decide) ?_
           refine w_icmp_le X2168 hx 0 2 (by decide) (by decide) (dB at_148) 160 151 (fun c2226 => ?_) (fun c2226 => ?_)
           ·refine w_aload X2168 hx (.ref a2163) (dB at_160) 162 rfl rfl rfl ?_
            refine w_iload X2168 hx v2157 (dB at_162) 164 rfl rfl ?_
            refine w_virt X2168 hx hZ hown rfl (rm6ge0 l Z a0 hw [] a2163 v2157 T2168.heap n0 Z2168 G2168_2 (by omega)) (tw_39 hw) (tw_40 hw) (notFace_of_selects (args := #[]) (mvT hZ (tw_42 hw))) (tw_42 hw) (tw_41 hw) (tw_19 hw) (tw_43 hw) (by decide) a2163 F2170 (by rw [hml]; rfl) [(.int v2157)] [] (lenOf pd_2 rfl) rfl rfl (by decide) 0 rfl (by decide) (by decide) (by decide) (dB at_164) 167 rfl (fun r2228 T2228 L2228 X2228 q2228 => ?_)
            obtain ⟨rfl, Nq2228, eq2228⟩ := q2228
            have N2228 := Fr.app N2168 Nq2228
            dsimp only [oD1, oD2, oD3, oD4]
            exact J2171 _ _ _ (X2228.more (by decide) (by decide)) eq2228 N2228 Z2168 K2168 (0 : Int32) v2157  F2170 G2168_0 G2168_2 G2168_3 (by have hz1 : (0 : Int32).toInt = 0 := (by decide); omega)
           ·exfalso; omega
          ·exfalso; omega
         ·exfalso; omega
        ·obtain rfl : v2155 = (1 : Int32) := eqI (s2223.trans (by decide))
         have z2223 : (1 : Int32).toInt = 1 := by decide
         refine w_iload X2168 hx (1 : Int32) (dB at_116) 118 rfl rfl ?_
         refine w_if_le X2168 hx 1 (by decide) (dB at_118) 130 121 (fun c2229 => ?_) (fun c2229 => ?_)
         ·exfalso; omega
         ·refine w_aload X2168 hx (.ref a2163) (dB at_121) 123 rfl rfl rfl ?_
          refine w_iload X2168 hx (2 : Int32) (dB at_123) 125 rfl rfl ?_
          refine w_aload X2168 hx (.ref a2158) (dB at_125) 127 rfl rfl rfl ?_
          refine w_virt X2168 hx hZ hown rfl (rm5ti2 l Z a0 hw [] a2163 a2158 va2168 ta2168 kv2168 kt2168 T2168.heap n0 Z2168 F2170 G2168_0 G2168_1 G2168_2 G2168_3 G2168_4 F2169 g_a2163 g_ta2168 g_va2168 (by exact nq2168_0) (by exact ov2168_0)) (tw_31 hw) (tw_32 hw) (notFace_of_selects (args := #[]) (mvT hZ (tw_34 hw))) (tw_34 hw) (tw_33 hw) (tw_19 hw) (tw_35 hw) (by decide) a2163 F2170 (by rw [hml]; rfl) [(.int (2 : Int32)), (.ref a2158)] [] (lenOf pd_6 rfl) rfl rfl (by decide) 0 rfl (by decide) (by decide) (by decide) (dB at_127) 130 rfl (fun r2230 T2230 L2230 X2230 q2230 => ?_)
          obtain ⟨rfl, Nq2230, Kq2230, G2230_0, G2230_1, G2230_2, G2230_3, G2230_4⟩ := q2230
          have N2230 := Fr.app N2168 Nq2230
          have F2231 : Exa Z T2230.heap a2158 cN_1 := F2169.keep Kq2230
          have F2232 : Exa Z T2230.heap a2163 cN_2 := F2170.keep Kq2230
          have Z2230 : n0 ≤ T2230.heap.size := Nat.le_trans Z2168 Kq2230.1
          have K2230 : Keep h0 T2230.heap [] := K2168.trans Kq2230 (allS (Or.inr s_a2163) (allS (Or.inr s_ta2168) (allS (Or.inr s_va2168) all0)))
          dsimp only [oD1, oD2, oD3, oD4]
          refine w_iload X2230 hx (1 : Int32) (dB at_130) 132 rfl rfl ?_
          refine w_iconst X2230 hx (dB at_132) 133 rfl (1 : Int32) (by decide) ?_
          refine w_icmp_le X2230 hx 1 1 (by decide) (by decide) (dB at_133) 145 136 (fun c2233 => ?_) (fun c2233 => ?_)
          ·refine w_iload X2230 hx (1 : Int32) (dB at_145) 147 rfl rfl ?_
           refine w_iconst X2230 hx (dB at_147) 148 rfl (2 : Int32) (by decide) ?_
           refine w_icmp_le X2230 hx 1 2 (by decide) (by decide) (dB at_148) 160 151 (fun c2234 => ?_) (fun c2234 => ?_)
           ·have s2235 : v2157.toInt = 0 ∨ 1 ≤ v2157.toInt := by omega
            rcases s2235 with s2235 | s2235
            ·obtain rfl : v2157 = (0 : Int32) := eqI (s2235.trans (by decide))
             have z2235 : (0 : Int32).toInt = 0 := by decide
             refine w_aload X2230 hx (.ref a2163) (dB at_160) 162 rfl rfl rfl ?_
             refine w_iload X2230 hx (0 : Int32) (dB at_162) 164 rfl rfl ?_
             refine w_virt X2230 hx hZ hown rfl (rm6t2m0 l Z a0 hw [] a2163 va2168 ta2168 kv2168 kt2168 a2158 T2230.heap n0 Z2230 F2232 G2230_0 G2230_1 G2230_2 G2230_3 G2230_4 g_a2163 g_va2168 (by exact nq2168_0) (by exact ov2168_0)) (tw_39 hw) (tw_40 hw) (notFace_of_selects (args := #[]) (mvT hZ (tw_42 hw))) (tw_42 hw) (tw_41 hw) (tw_19 hw) (tw_43 hw) (by decide) a2163 F2232 (by rw [hml]; rfl) [(.int (0 : Int32))] [] (lenOf pd_2 rfl) rfl rfl (by decide) 0 rfl (by decide) (by decide) (by decide) (dB at_164) 167 rfl (fun r2236 T2236 L2236 X2236 q2236 => ?_)
             obtain ⟨rfl, Nq2236, Kq2236, G2236_0, G2236_1, G2236_2, G2236_3, G2236_4⟩ := q2236
             have N2236 := Fr.app N2230 Nq2236
             have F2237 : Exa Z T2236.heap a2158 cN_1 := F2231.keep Kq2236
             have F2238 : Exa Z T2236.heap a2163 cN_2 := F2232.keep Kq2236
             have F2239 : Arv Z T2236.heap ta2168 kt2168 .int (3 : Int32) [(.int (2 : Int32)), (.int (0 : Int32)), (.int (0 : Int32))] (.int (0 : Int32)) := G2230_4.keep Kq2236 (ninS (Ne.symm ne_a2163_ta2168) (ninS (Ne.symm nq2168_0) nin0))
             have Z2236 : n0 ≤ T2236.heap.size := Nat.le_trans Z2230 Kq2236.1
             have K2236 : Keep h0 T2236.heap [] := K2230.trans Kq2236 (allS (Or.inr s_a2163) (allS (Or.inr s_va2168) all0))
             dsimp only [oD1, oD2, oD3, oD4]
             exact J2171 _ _ _ (X2236.more (by decide) (by decide)) rfl N2236 Z2236 K2236 (1 : Int32) (0 : Int32)  F2238 G2236_0 G2236_2 G2236_3 (by have hz1 : (1 : Int32).toInt = 1 := (by decide); have hz2 : (0 : Int32).toInt = 0 := (by decide); omega)
            ·have z2235 := s2235
             refine w_aload X2230 hx (.ref a2163) (dB at_160) 162 rfl rfl rfl ?_
             refine w_iload X2230 hx v2157 (dB at_162) 164 rfl rfl ?_
             refine w_virt X2230 hx hZ hown rfl (rm6ge1 l Z a0 hw [] a2163 v2157 T2230.heap n0 Z2230 G2230_2 (by omega)) (tw_39 hw) (tw_40 hw) (notFace_of_selects (args := #[]) (mvT hZ (tw_42 hw))) (tw_42 hw) (tw_41 hw) (tw_19 hw) (tw_43 hw) (by decide) a2163 F2232 (by rw [hml]; rfl) [(.int v2157)] [] (lenOf pd_2 rfl) rfl rfl (by decide) 0 rfl (by decide) (by decide) (by decide) (dB at_164) 167 rfl (fun r2240 T2240 L2240 X2240 q2240 => ?_)
             obtain ⟨rfl, Nq2240, eq2240⟩ := q2240
             have N2240 := Fr.app N2230 Nq2240
             dsimp only [oD1, oD2, oD3, oD4]
             exact J2184 _ _ _ (X2240.more (by decide) (by decide)) eq2240 N2240 Z2230 K2230 (1 : Int32) v2157  F2232 G2230_0 G2230_2 G2230_3 (by have hz1 : (1 : Int32).toInt = 1 := (by decide); omega)
           ·exfalso; omega
          ·exfalso; omega
        ·obtain rfl : v2155 = (2 : Int32) := eqI (s2223.trans (by decide))
         have z2223 : (2 : Int32).toInt = 2 := by decide
         refine w_iload X2168 hx (2 : Int32) (dB at_116) 118 rfl rfl ?_
         refine w_if_le X2168 hx 2 (by decide) (dB at_118) 130 121 (fun c2241 => ?_) (fun c2241 => ?_)
         ·exfalso; omega
         ·refine w_aload X2168 hx (.ref a2163) (dB at_121) 123 rfl rfl rfl ?_
          refine w_iload X2168 hx (2 : Int32) (dB at_123) 125 rfl rfl ?_
          refine w_aload X2168 hx (.ref a2158) (dB at_125) 127 rfl rfl rfl ?_
          refine w_virt X2168 hx hZ hown rfl (rm5ti2 l Z a0 hw [] a2163 a2158 va2168 ta2168 kv2168 kt2168 T2168.heap n0 Z2168 F2170 G2168_0 G2168_1 G2168_2 G2168_3 G2168_4 F2169 g_a2163 g_ta2168 g_va2168 (by exact nq2168_0) (by exact ov2168_0)) (tw_31 hw) (tw_32 hw) (notFace_of_selects (args := #[]) (mvT hZ (tw_34 hw))) (tw_34 hw) (tw_33 hw) (tw_19 hw) (tw_35 hw) (by decide) a2163 F2170 (by rw [hml]; rfl) [(.int (2 : Int32)), (.ref a2158)] [] (lenOf pd_6 rfl) rfl rfl (by decide) 0 rfl (by decide) (by decide) (by decide) (dB at_127) 130 rfl (fun r2242 T2242 L2242 X2242 q2242 => ?_)
          obtain ⟨rfl, Nq2242, Kq2242, G2242_0, G2242_1, G2242_2, G2242_3, G2242_4⟩ := q2242
          have N2242 := Fr.app N2168 Nq2242
          have F2243 : Exa Z T2242.heap a2158 cN_1 := F2169.keep Kq2242
          have F2244 : Exa Z T2242.heap a2163 cN_2 := F2170.keep Kq2242
          have Z2242 : n0 ≤ T2242.heap.size := Nat.le_trans Z2168 Kq2242.1
          have K2242 : Keep h0 T2242.heap [] := K2168.trans Kq2242 (allS (Or.inr s_a2163) (allS (Or.inr s_ta2168) (allS (Or.inr s_va2168) all0)))
          dsimp only [oD1, oD2, oD3, oD4]
          refine w_iload X2242 hx (2 : Int32) (dB at_130) 132 rfl rfl ?_
          refine w_iconst X2242 hx (dB at_132) 133 rfl (1 : Int32) (by decide) ?_
          refine w_icmp_le X2242 hx 2 1 (by decide) (by decide) (dB at_133) 145 136 (fun c2245 => ?_) (fun c2245 => ?_)
          ·exfalso; omega
          ·refine w_aload X2242 hx (.ref a2163) (dB at_136) 138 rfl rfl rfl ?_
           refine w_iload X2242 hx (0 : Int32) (dB at_138) 140 rfl rfl ?_
           refine w_aload X2242 hx (.ref a2158) (dB at_140) 142 rfl rfl rfl ?_
           refine w_virt X2242 hx hZ hown rfl (rm5t2i0 l Z a0 hw [] a2163 a2158 va2168 ta2168 kv2168 kt2168 T2242.heap n0 Z2242 F2244 G2242_0 G2242_1 G2242_2 G2242_3 G2242_4 F2243 g_a2163 g_ta2168 g_va2168 (by exact nq2168_0) (by exact ov2168_0)) (tw_31 hw) (tw_32 hw) (notFace_of_selects (args := #[]) (mvT hZ (tw_34 hw))) (tw_34 hw) (tw_33 hw) (tw_19 hw) (tw_35 hw) (by decide) a2163 F2244 (by rw [hml]; rfl) [(.int (0 : Int32)), (.ref a2158)] [] (lenOf pd_6 rfl) rfl rfl (by decide) 0 rfl (by decide) (by decide) (by decide) (dB at_142) 145 rfl (fun r2246 T2246 L2246 X2246 q2246 => ?_)
           obtain ⟨rfl, Nq2246, Kq2246, G2246_0, G2246_1, G2246_2, G2246_3, G2246_4⟩ := q2246
           have N2246 := Fr.app N2242 Nq2246
           have F2247 : Exa Z T2246.heap a2158 cN_1 := F2243.keep Kq2246
           have F2248 : Exa Z T2246.heap a2163 cN_2 := F2244.keep Kq2246
           have Z2246 : n0 ≤ T2246.heap.size := Nat.le_trans Z2242 Kq2246.1
           have K2246 : Keep h0 T2246.heap [] := K2242.trans Kq2246 (allS (Or.inr s_a2163) (allS (Or.inr s_ta2168) (allS (Or.inr s_va2168) all0)))
           dsimp only [oD1, oD2, oD3, oD4]
           refine w_iload X2246 hx (2 : Int32) (dB at_145) 147 rfl rfl ?_
           refine w_iconst X2246 hx (dB at_147) 148 rfl (2 : Int32) (by decide) ?_
           refine w_icmp_le X2246 hx 2 2 (by decide) (by decide) (dB at_148) 160 151 (fun c2249 => ?_) (fun c2249 => ?_)
           ·have s2250 : v2157.toInt = 0 ∨ v2157.toInt = 1 ∨ 2 ≤ v2157.toInt := by omega
            rcases s2250 with s2250 | s2250 | s2250
            ·obtain rfl : v2157 = (0 : Int32) := eqI (s2250.trans (by decide))
             have z2250 : (0 : Int32).toInt = 0 := by decide
             refine w_aload X2246 hx (.ref a2163) (dB at_160) 162 rfl rfl rfl ?_
             refine w_iload X2246 hx (0 : Int32) (dB at_162) 164 rfl rfl ?_
             refine w_virt X2246 hx hZ hown rfl (rm6t20m0 l Z a0 hw [] a2163 va2168 ta2168 kv2168 kt2168 a2158 T2246.heap n0 Z2246 F2248 G2246_0 G2246_1 G2246_2 G2246_3 G2246_4 g_a2163 g_va2168 (by exact nq2168_0) (by exact ov2168_0)) (tw_39 hw) (tw_40 hw) (notFace_of_selects (args := #[]) (mvT hZ (tw_42 hw))) (tw_42 hw) (tw_41 hw) (tw_19 hw) (tw_43 hw) (by decide) a2163 F2248 (by rw [hml]; rfl) [(.int (0 : Int32))] [] (lenOf pd_2 rfl) rfl rfl (by decide) 0 rfl (by decide) (by decide) (by decide) (dB at_164) 167 rfl (fun r2251 T2251 L2251 X2251 q2251 => ?_)
             obtain ⟨rfl, Nq2251, Kq2251, G2251_0, G2251_1, G2251_2, G2251_3, G2251_4⟩ := q2251
             have N2251 := Fr.app N2246 Nq2251
             have F2252 : Exa Z T2251.heap a2158 cN_1 := F2247.keep Kq2251
             have F2253 : Exa Z T2251.heap a2163 cN_2 := F2248.keep Kq2251
             have F2254 : Arv Z T2251.heap ta2168 kt2168 .int (3 : Int32) [(.int (2 : Int32)), (.int (0 : Int32)), (.int (0 : Int32))] (.int (0 : Int32)) := G2246_4.keep Kq2251 (ninS (Ne.symm ne_a2163_ta2168) (ninS (Ne.symm nq2168_0) nin0))
             have Z2251 : n0 ≤ T2251.heap.size := Nat.le_trans Z2246 Kq2251.1
             have K2251 : Keep h0 T2251.heap [] := K2246.trans Kq2251 (allS (Or.inr s_a2163) (allS (Or.inr s_va2168) all0))
             dsimp only [oD1, oD2, oD3, oD4]
             exact J2171 _ _ _ (X2251.more (by decide) (by decide)) rfl N2251 Z2251 K2251 (2 : Int32) (0 : Int32)  F2253 G2251_0 G2251_2 G2251_3 (by have hz1 : (2 : Int32).toInt = 2 := (by decide); have hz2 : (0 : Int32).toInt = 0 := (by decide); omega)
            ·obtain rfl : v2157 = (1 : Int32) := eqI (s2250.trans (by decide))
             have z2250 : (1 : Int32).toInt = 1 := by decide
             refine w_aload X2246 hx (.ref a2163) (dB at_160) 162 rfl rfl rfl ?_
             refine w_iload X2246 hx (1 : Int32) (dB at_162) 164 rfl rfl ?_
             refine w_virt X2246 hx hZ hown rfl (rm6t20m1 l Z a0 hw [] a2163 va2168 ta2168 kv2168 kt2168 a2158 T2246.heap n0 Z2246 F2248 G2246_0 G2246_1 G2246_2 G2246_3 G2246_4 g_a2163 g_va2168 (by exact nq2168_0) (by exact ov2168_0)) (tw_39 hw) (tw_40 hw) (notFace_of_selects (args := #[]) (mvT hZ (tw_42 hw))) (tw_42 hw) (tw_41 hw) (tw_19 hw) (tw_43 hw) (by decide) a2163 F2248 (by rw [hml]; rfl) [(.int (1 : Int32))] [] (lenOf pd_2 rfl) rfl rfl (by decide) 0 rfl (by decide) (by decide) (by decide) (dB at_164) 167 rfl (fun r2255 T2255 L2255 X2255 q2255 => ?_)
             obtain ⟨rfl, Nq2255, Kq2255, G2255_0, G2255_1, G2255_2, G2255_3, G2255_4⟩ := q2255
             have N2255 := Fr.app N2246 Nq2255
             have F2256 : Exa Z T2255.heap a2158 cN_1 := F2247.keep Kq2255
             have F2257 : Exa Z T2255.heap a2163 cN_2 := F2248.keep Kq2255
             have F2258 : Arv Z T2255.heap ta2168 kt2168 .int (3 : Int32) [(.int (2 : Int32)), (.int (0 : Int32)), (.int (0 : Int32))] (.int (0 : Int32)) := G2246_4.keep Kq2255 (ninS (Ne.symm ne_a2163_ta2168) (ninS (Ne.symm nq2168_0) nin0))
             have Z2255 : n0 ≤ T2255.heap.size := Nat.le_trans Z2246 Kq2255.1
             have K2255 : Keep h0 T2255.heap [] := K2246.trans Kq2255 (allS (Or.inr s_a2163) (allS (Or.inr s_va2168) all0))
             dsimp only [oD1, oD2, oD3, oD4]
             exact J2184 _ _ _ (X2255.more (by decide) (by decide)) rfl N2255 Z2255 K2255 (2 : Int32) (1 : Int32)  F2257 G2255_0 G2255_2 G2255_3 (by have hz1 : (2 : Int32).toInt = 2 := (by decide); have hz2 : (1 : Int32).toInt = 1 := (by decide); omega)
            ·have z2250 := s2250
             refine w_aload X2246 hx (.ref a2163) (dB at_160) 162 rfl rfl rfl ?_
             refine w_iload X2246 hx v2157 (dB at_162) 164 rfl rfl ?_
             refine w_virt X2246 hx hZ hown rfl (rm6ge2 l Z a0 hw [] a2163 v2157 T2246.heap n0 Z2246 G2246_2 (by omega)) (tw_39 hw) (tw_40 hw) (notFace_of_selects (args := #[]) (mvT hZ (tw_42 hw))) (tw_42 hw) (tw_41 hw) (tw_19 hw) (tw_43 hw) (by decide) a2163 F2248 (by rw [hml]; rfl) [(.int v2157)] [] (lenOf pd_2 rfl) rfl rfl (by decide) 0 rfl (by decide) (by decide) (by decide) (dB at_164) 167 rfl (fun r2259 T2259 L2259 X2259 q2259 => ?_)
             obtain ⟨rfl, Nq2259, eq2259⟩ := q2259
             have N2259 := Fr.app N2246 Nq2259
             dsimp only [oD1, oD2, oD3, oD4]
             exact J2197 _ _ _ (X2259.more (by decide) (by decide)) eq2259 N2259 Z2246 K2246 (2 : Int32) v2157  F2248 G2246_0 G2246_2 G2246_3 (by have hz1 : (2 : Int32).toInt = 2 := (by decide); omega)
           ·exfalso; omega
        ·obtain rfl : v2155 = (3 : Int32) := eqI (s2223.trans (by decide))
         have z2223 : (3 : Int32).toInt = 3 := by decide
         refine w_iload X2168 hx (3 : Int32) (dB at_116) 118 rfl rfl ?_
         refine w_if_le X2168 hx 3 (by decide) (dB at_118) 130 121 (fun c2260 => ?_) (fun c2260 => ?_)
         ·exfalso; omega
         ·refine w_aload X2168 hx (.ref a2163) (dB at_121) 123 rfl rfl rfl ?_
          refine w_iload X2168 hx (2 : Int32) (dB at_123) 125 rfl rfl ?_
          refine w_aload X2168 hx (.ref a2158) (dB at_125) 127 rfl rfl rfl ?_
          refine w_virt X2168 hx hZ hown rfl (rm5ti2 l Z a0 hw [] a2163 a2158 va2168 ta2168 kv2168 kt2168 T2168.heap n0 Z2168 F2170 G2168_0 G2168_1 G2168_2 G2168_3 G2168_4 F2169 g_a2163 g_ta2168 g_va2168 (by exact nq2168_0) (by exact ov2168_0)) (tw_31 hw) (tw_32 hw) (notFace_of_selects (args := #[]) (mvT hZ (tw_34 hw))) (tw_34 hw) (tw_33 hw) (tw_19 hw) (tw_35 hw) (by decide) a2163 F2170 (by rw [hml]; rfl) [(.int (2 : Int32)), (.ref a2158)] [] (lenOf pd_6 rfl) rfl rfl (by decide) 0 rfl (by decide) (by decide) (by decide) (dB at_127) 130 rfl (fun r2261 T2261 L2261 X2261 q2261 => ?_)
          obtain ⟨rfl, Nq2261, Kq2261, G2261_0, G2261_1, G2261_2, G2261_3, G2261_4⟩ := q2261
          have N2261 := Fr.app N2168 Nq2261
          have F2262 : Exa Z T2261.heap a2158 cN_1 := F2169.keep Kq2261
          have F2263 : Exa Z T2261.heap a2163 cN_2 := F2170.keep Kq2261
          have Z2261 : n0 ≤ T2261.heap.size := Nat.le_trans Z2168 Kq2261.1
          have K2261 : Keep h0 T2261.heap [] := K2168.trans Kq2261 (allS (Or.inr s_a2163) (allS (Or.inr s_ta2168) (allS (Or.inr s_va2168) all0)))
          dsimp only [oD1, oD2, oD3, oD4]
          refine w_iload X2261 hx (3 : Int32) (dB at_130) 132 rfl rfl ?_
          refine w_iconst X2261 hx (dB at_132) 133 rfl (1 : Int32) (by decide) ?_
          refine w_icmp_le X2261 hx 3 1 (by decide) (by decide) (dB at_133) 145 136 (fun c2264 => ?_) (fun c2264 => ?_)
          ·exfalso; omega
          ·refine w_aload X2261 hx (.ref a2163) (dB at_136) 138 rfl rfl rfl ?_
           refine w_iload X2261 hx (0 : Int32) (dB at_138) 140 rfl rfl ?_
           refine w_aload X2261 hx (.ref a2158) (dB at_140) 142 rfl rfl rfl ?_
           refine w_virt X2261 hx hZ hown rfl (rm5t2i0 l Z a0 hw [] a2163 a2158 va2168 ta2168 kv2168 kt2168 T2261.heap n0 Z2261 F2263 G2261_0 G2261_1 G2261_2 G2261_3 G2261_4 F2262 g_a2163 g_ta2168 g_va2168 (by exact nq2168_0) (by exact ov2168_0)) (tw_31 hw) (tw_32 hw) (notFace_of_selects (args := #[]) (mvT hZ (tw_34 hw))) (tw_34 hw) (tw_33 hw) (tw_19 hw) (tw_35 hw) (by decide) a2163 F2263 (by rw [hml]; rfl) [(.int (0 : Int32)), (.ref a2158)] [] (lenOf pd_6 rfl) rfl rfl (by decide) 0 rfl (by decide) (by decide) (by decide) (dB at_142) 145 rfl (fun r2265 T2265 L2265 X2265 q2265 => ?_)
           obtain ⟨rfl, Nq2265, Kq2265, G2265_0, G2265_1, G2265_2, G2265_3, G2265_4⟩ := q2265
           have N2265 := Fr.app N2261 Nq2265
           have F2266 : Exa Z T2265.heap a2158 cN_1 := F2262.keep Kq2265
           have F2267 : Exa Z T2265.heap a2163 cN_2 := F2263.keep Kq2265
           have Z2265 : n0 ≤ T2265.heap.size := Nat.le_trans Z2261 Kq2265.1
           have K2265 : Keep h0 T2265.heap [] := K2261.trans Kq2265 (allS (Or.inr s_a2163) (allS (Or.inr s_ta2168) (allS (Or.inr s_va2168) all0)))
           dsimp only [oD1, oD2, oD3, oD4]
           refine w_iload X2265 hx (3 : Int32) (dB at_145) 147 rfl rfl ?_
           refine w_iconst X2265 hx (dB at_147) 148 rfl (2 : Int32) (by decide) ?_
           refine w_icmp_le X2265 hx 3 2 (by decide) (by decide) (dB at_148) 160 151 (fun c2268 => ?_) (fun c2268 => ?_)
           ·exfalso; omega
           ·refine w_aload X2265 hx (.ref a2163) (dB at_151) 153 rfl rfl rfl ?_
            refine w_iload X2265 hx (1 : Int32) (dB at_153) 155 rfl rfl ?_
            refine w_aload X2265 hx (.ref a2158) (dB at_155) 157 rfl rfl rfl ?_
            refine w_virt X2265 hx hZ hown rfl (rm5t20i1 l Z a0 hw [] a2163 a2158 va2168 ta2168 kv2168 kt2168 T2265.heap n0 Z2265 F2267 G2265_0 G2265_1 G2265_2 G2265_3 G2265_4 F2266 g_a2163 g_ta2168 g_va2168 (by exact nq2168_0) (by exact ov2168_0)) (tw_31 hw) (tw_32 hw) (notFace_of_selects (args := #[]) (mvT hZ (tw_34 hw))) (tw_34 hw) (tw_33 hw) (tw_19 hw) (tw_35 hw) (by decide) a2163 F2267 (by rw [hml]; rfl) [(.int (1 : Int32)), (.ref a2158)] [] (lenOf pd_6 rfl) rfl rfl (by decide) 0 rfl (by decide) (by decide) (by decide) (dB at_157) 160 rfl (fun r2269 T2269 L2269 X2269 q2269 => ?_)
            obtain ⟨rfl, Nq2269, Kq2269, G2269_0, G2269_1, G2269_2, G2269_3, G2269_4⟩ := q2269
            have N2269 := Fr.app N2265 Nq2269
            have F2270 : Exa Z T2269.heap a2158 cN_1 := F2266.keep Kq2269
            have F2271 : Exa Z T2269.heap a2163 cN_2 := F2267.keep Kq2269
            have Z2269 : n0 ≤ T2269.heap.size := Nat.le_trans Z2265 Kq2269.1
            have K2269 : Keep h0 T2269.heap [] := K2265.trans Kq2269 (allS (Or.inr s_a2163) (allS (Or.inr s_ta2168) (allS (Or.inr s_va2168) all0)))
            dsimp only [oD1, oD2, oD3, oD4]
            have s2272 : v2157.toInt = 0 ∨ v2157.toInt = 1 ∨ v2157.toInt = 2 ∨ 3 ≤ v2157.toInt := by omega
            rcases s2272 with s2272 | s2272 | s2272 | s2272
            ·obtain rfl : v2157 = (0 : Int32) := eqI (s2272.trans (by decide))
             have z2272 : (0 : Int32).toInt = 0 := by decide
             refine w_aload X2269 hx (.ref a2163) (dB at_160) 162 rfl rfl rfl ?_
             refine w_iload X2269 hx (0 : Int32) (dB at_162) 164 rfl rfl ?_
             refine w_virt X2269 hx hZ hown rfl (rm6t201m0 l Z a0 hw [] a2163 va2168 ta2168 kv2168 kt2168 a2158 T2269.heap n0 Z2269 F2271 G2269_0 G2269_1 G2269_2 G2269_3 G2269_4 g_a2163 g_va2168 (by exact nq2168_0) (by exact ov2168_0)) (tw_39 hw) (tw_40 hw) (notFace_of_selects (args := #[]) (mvT hZ (tw_42 hw))) (tw_42 hw) (tw_41 hw) (tw_19 hw) (tw_43 hw) (by decide) a2163 F2271 (by rw [hml]; rfl) [(.int (0 : Int32))] [] (lenOf pd_2 rfl) rfl rfl (by decide) 0 rfl (by decide) (by decide) (by decide) (dB at_164) 167 rfl (fun r2273 T2273 L2273 X2273 q2273 => ?_)
             obtain ⟨rfl, Nq2273, Kq2273, G2273_0, G2273_1, G2273_2, G2273_3, G2273_4⟩ := q2273
             have N2273 := Fr.app N2269 Nq2273
             have F2274 : Exa Z T2273.heap a2158 cN_1 := F2270.keep Kq2273
             have F2275 : Exa Z T2273.heap a2163 cN_2 := F2271.keep Kq2273
             have F2276 : Arv Z T2273.heap ta2168 kt2168 .int (3 : Int32) [(.int (2 : Int32)), (.int (0 : Int32)), (.int (1 : Int32))] (.int (0 : Int32)) := G2269_4.keep Kq2273 (ninS (Ne.symm ne_a2163_ta2168) (ninS (Ne.symm nq2168_0) nin0))
             have Z2273 : n0 ≤ T2273.heap.size := Nat.le_trans Z2269 Kq2273.1
             have K2273 : Keep h0 T2273.heap [] := K2269.trans Kq2273 (allS (Or.inr s_a2163) (allS (Or.inr s_va2168) all0))
             dsimp only [oD1, oD2, oD3, oD4]
             exact J2171 _ _ _ (X2273.more (by decide) (by decide)) rfl N2273 Z2273 K2273 (3 : Int32) (0 : Int32)  F2275 G2273_0 G2273_2 G2273_3 (by have hz1 : (3 : Int32).toInt = 3 := (by decide); have hz2 : (0 : Int32).toInt = 0 := (by decide); omega)
            ·obtain rfl : v2157 = (1 : Int32) := eqI (s2272.trans (by decide))
             have z2272 : (1 : Int32).toInt = 1 := by decide
             refine w_aload X2269 hx (.ref a2163) (dB at_160) 162 rfl rfl rfl ?_
             refine w_iload X2269 hx (1 : Int32) (dB at_162) 164 rfl rfl ?_
             refine w_virt X2269 hx hZ hown rfl (rm6t201m1 l Z a0 hw [] a2163 va2168 ta2168 kv2168 kt2168 a2158 T2269.heap n0 Z2269 F2271 G2269_0 G2269_1 G2269_2 G2269_3 G2269_4 g_a2163 g_va2168 (by exact nq2168_0) (by exact ov2168_0)) (tw_39 hw) (tw_40 hw) (notFace_of_selects (args := #[]) (mvT hZ (tw_42 hw))) (tw_42 hw) (tw_41 hw) (tw_19 hw) (tw_43 hw) (by decide) a2163 F2271 (by rw [hml]; rfl) [(.int (1 : Int32))] [] (lenOf pd_2 rfl) rfl rfl (by decide) 0 rfl (by decide) (by decide) (by decide) (dB at_164) 167 rfl (fun r2277 T2277 L2277 X2277 q2277 => ?_)
             obtain ⟨rfl, Nq2277, Kq2277, G2277_0, G2277_1, G2277_2, G2277_3, G2277_4⟩ := q2277
             have N2277 := Fr.app N2269 Nq2277
             have F2278 : Exa Z T2277.heap a2158 cN_1 := F2270.keep Kq2277
             have F2279 : Exa Z T2277.heap a2163 cN_2 := F2271.keep Kq2277
             have F2280 : Arv Z T2277.heap ta2168 kt2168 .int (3 : Int32) [(.int (2 : Int32)), (.int (0 : Int32)), (.int (1 : Int32))] (.int (0 : Int32)) := G2269_4.keep Kq2277 (ninS (Ne.symm ne_a2163_ta2168) (ninS (Ne.symm nq2168_0) nin0))
             have Z2277 : n0 ≤ T2277.heap.size := Nat.le_trans Z2269 Kq2277.1
             have K2277 : Keep h0 T2277.heap [] := K2269.trans Kq2277 (allS (Or.inr s_a2163) (allS (Or.inr s_va2168) all0))
             dsimp only [oD1, oD2, oD3, oD4]
             exact J2184 _ _ _ (X2277.more (by decide) (by decide)) rfl N2277 Z2277 K2277 (3 : Int32) (1 : Int32)  F2279 G2277_0 G2277_2 G2277_3 (by have hz1 : (3 : Int32).toInt = 3 := (by decide); have hz2 : (1 : Int32).toInt = 1 := (by decide); omega)
            ·obtain rfl : v2157 = (2 : Int32) := eqI (s2272.trans (by decide))
             have z2272 : (2 : Int32).toInt = 2 := by decide
             refine w_aload X2269 hx (.ref a2163) (dB at_160) 162 rfl rfl rfl ?_
             refine w_iload X2269 hx (2 : Int32) (dB at_162) 164 rfl rfl ?_
             refine w_virt X2269 hx hZ hown rfl (rm6t201m2 l Z a0 hw [] a2163 va2168 ta2168 kv2168 kt2168 a2158 T2269.heap n0 Z2269 F2271 G2269_0 G2269_1 G2269_2 G2269_3 G2269_4 g_a2163 g_va2168 (by exact nq2168_0) (by exact ov2168_0)) (tw_39 hw) (tw_40 hw) (notFace_of_selects (args := #[]) (mvT hZ (tw_42 hw))) (tw_42 hw) (tw_41 hw) (tw_19 hw) (tw_43 hw) (by decide) a2163 F2271 (by rw [hml]; rfl) [(.int (2 : Int32))] [] (lenOf pd_2 rfl) rfl rfl (by decide) 0 rfl (by decide) (by decide) (by decide) (dB at_164) 167 rfl (fun r2281 T2281 L2281 X2281 q2281 => ?_)
             obtain ⟨rfl, Nq2281, Kq2281, G2281_0, G2281_1, G2281_2, G2281_3, G2281_4⟩ := q2281
             have N2281 := Fr.app N2269 Nq2281
             have F2282 : Exa Z T2281.heap a2158 cN_1 := F2270.keep Kq2281
             have F2283 : Exa Z T2281.heap a2163 cN_2 := F2271.keep Kq2281
             have F2284 : Arv Z T2281.heap ta2168 kt2168 .int (3 : Int32) [(.int (2 : Int32)), (.int (0 : Int32)), (.int (1 : Int32))] (.int (0 : Int32)) := G2269_4.keep Kq2281 (ninS (Ne.symm ne_a2163_ta2168) (ninS (Ne.symm nq2168_0) nin0))
             have Z2281 : n0 ≤ T2281.heap.size := Nat.le_trans Z2269 Kq2281.1
             have K2281 : Keep h0 T2281.heap [] := K2269.trans Kq2281 (allS (Or.inr s_a2163) (allS (Or.inr s_va2168) all0))
             dsimp only [oD1, oD2, oD3, oD4]
             exact J2197 _ _ _ (X2281.more (by decide) (by decide)) rfl N2281 Z2281 K2281 (3 : Int32) (2 : Int32)  F2283 G2281_0 G2281_2 G2281_3 (by have hz1 : (3 : Int32).toInt = 3 := (by decide); have hz2 : (2 : Int32).toInt = 2 := (by decide); omega)
            ·have z2272 := s2272
             refine w_aload X2269 hx (.ref a2163) (dB at_160) 162 rfl rfl rfl ?_
             refine w_iload X2269 hx v2157 (dB at_162) 164 rfl rfl ?_
             refine w_virt X2269 hx hZ hown rfl (rm6ge3 l Z a0 hw [] a2163 v2157 T2269.heap n0 Z2269 G2269_2 (by omega)) (tw_39 hw) (tw_40 hw) (notFace_of_selects (args := #[]) (mvT hZ (tw_42 hw))) (tw_42 hw) (tw_41 hw) (tw_19 hw) (tw_43 hw) (by decide) a2163 F2271 (by rw [hml]; rfl) [(.int v2157)] [] (lenOf pd_2 rfl) rfl rfl (by decide) 0 rfl (by decide) (by decide) (by decide) (dB at_164) 167 rfl (fun r2285 T2285 L2285 X2285 q2285 => ?_)
             obtain ⟨rfl, Nq2285, eq2285⟩ := q2285
             have N2285 := Fr.app N2269 Nq2285
             dsimp only [oD1, oD2, oD3, oD4]
             exact J2210 _ _ _ (X2285.more (by decide) (by decide)) eq2285 N2285 Z2269 K2269 (3 : Int32) v2157  F2271 G2269_0 G2269_2 G2269_3 (by have hz1 : (3 : Int32).toInt = 3 := (by decide); omega)
       ·exfalso; omega
      ·exfalso; omega
     ·exfalso; omega
   ·exfalso; omega
  ·obtain rfl : v1599 = (5 : Int32) := eqI (s1600.trans (by decide))
   have z1600 : (5 : Int32).toInt = 5 := by decide
   refine w_iloadN X0 hx (5 : Int32) (dB at_8) 9 rfl rfl ?_
   refine w_iconst X0 hx (dB at_9) 10 rfl (2 : Int32) (by decide) ?_
   refine w_idiv X0 hx (dB at_10) 11 rfl (by decide) (show (2 : Int32) = (5 : Int32) / (2 : Int32) from by decide) ?_
   refine w_istore X0 hx (dB at_11) 13 rfl #[.val (.int xp), .val (.int xq), .val (.int xr), .val (.int (5 : Int32)), .val (.int (2 : Int32)), .unset, .unset, .unset, .unset, .unset, .unset, .unset, .unset, .unset, .unset] rfl ?_
   refine w_iload X0 hx (2 : Int32) (dB at_13) 15 rfl rfl ?_
   refine w_if_ne X0 hx 2 (by decide) (dB at_15) 22 18 (fun c2286 => ?_) (fun c2286 => ?_)
   ·refine w_iconst X0 hx (dB at_22) 23 rfl (0 : Int32) (by decide) ?_
    refine w_istore X0 hx (dB at_23) 25 rfl #[.val (.int xp), .val (.int xq), .val (.int xr), .val (.int (5 : Int32)), .val (.int (2 : Int32)), .val (.int (0 : Int32)), .unset, .unset, .unset, .unset, .unset, .unset, .unset, .unset, .unset] rfl ?_
    refine w_iload X0 hx (2 : Int32) (dB at_25) 27 rfl rfl ?_
    refine w_iconst X0 hx (dB at_27) 28 rfl (2 : Int32) (by decide) ?_
    refine w_icmp_ne X0 hx 2 2 (by decide) (by decide) (dB at_28) 35 31 (fun c2287 => ?_) (fun c2287 => ?_)
    ·exfalso; omega
    ·refine w_iconst X0 hx (dB at_31) 32 rfl (1 : Int32) (by decide) ?_
     refine w_goto X0 hx (dB at_32) 36 ?_
     refine w_istore X0 hx (dB at_36) 38 rfl #[.val (.int xp), .val (.int xq), .val (.int xr), .val (.int (5 : Int32)), .val (.int (2 : Int32)), .val (.int (0 : Int32)), .val (.int (1 : Int32)), .unset, .unset, .unset, .unset, .unset, .unset, .unset, .unset] rfl ?_
     refine w_iloadN X0 hx (5 : Int32) (dB at_38) 39 rfl rfl ?_
     refine w_iconst X0 hx (dB at_39) 40 rfl (1 : Int32) (by decide) ?_
     refine w_iand X0 hx (dB at_40) 41 rfl (show (1 : Int32) = (5 : Int32) &&& (1 : Int32) from by decide) ?_
     refine w_if_eq X0 hx 1 (by decide) (dB at_41) 48 44 (fun c2288 => ?_) (fun c2288 => ?_)
     ·exfalso; omega
     ·refine w_iconst X0 hx (dB at_44) 45 rfl (1 : Int32) (by decide) ?_
      refine w_goto X0 hx (dB at_45) 49 ?_
      refine w_istore X0 hx (dB at_49) 51 rfl #[.val (.int xp), .val (.int xq), .val (.int xr), .val (.int (5 : Int32)), .val (.int (2 : Int32)), .val (.int (0 : Int32)), .val (.int (1 : Int32)), .val (.int (1 : Int32)), .unset, .unset, .unset, .unset, .unset, .unset, .unset] rfl ?_
      refine w_iload X0 hx (1 : Int32) (dB at_51) 53 rfl rfl ?_
      refine w_if_eq X0 hx 1 (by decide) (dB at_53) 61 56 (fun c2289 => ?_) (fun c2289 => ?_)
      ·exfalso; omega
      ·refine w_iload X0 hx (1 : Int32) (dB at_56) 58 rfl rfl ?_
       refine w_goto X0 hx (dB at_58) 63 ?_
       refine w_istore X0 hx (dB at_63) 65 rfl #[.val (.int xp), .val (.int xq), .val (.int xr), .val (.int (5 : Int32)), .val (.int (2 : Int32)), .val (.int (0 : Int32)), .val (.int (1 : Int32)), .val (.int (1 : Int32)), .val (.int (1 : Int32)), .unset, .unset, .unset, .unset, .unset, .unset] rfl ?_
       refine w_iload X0 hx (1 : Int32) (dB at_65) 67 rfl rfl ?_
       refine w_if_eq X0 hx 1 (by decide) (dB at_67) 75 70 (fun c2290 => ?_) (fun c2290 => ?_)
       ·exfalso; omega
       ·refine w_iload X0 hx (0 : Int32) (dB at_70) 72 rfl rfl ?_
        refine w_goto X0 hx (dB at_72) 77 ?_
        refine w_istore X0 hx (dB at_77) 79 rfl #[.val (.int xp), .val (.int xq), .val (.int xr), .val (.int (5 : Int32)), .val (.int (2 : Int32)), .val (.int (0 : Int32)), .val (.int (1 : Int32)), .val (.int (1 : Int32)), .val (.int (1 : Int32)), .val (.int (0 : Int32)), .unset, .unset, .unset, .unset, .unset] rfl ?_
        refine w_iloadN X0 hx xq (dB at_79) 80 rfl rfl ?_
        refine w_ldc X0 hx hZ hown (tw_0 hw) (dB at_80) 82 rfl ?_
        obtain ⟨v2291, e2291⟩ : ∃ z : Int32, z = xq &&& (2147483647 : Int32) := ⟨_, rfl⟩
        have n2291 : v2291.toInt = xq.toInt % 2147483648 := by rw [e2291]; exact maskX 31 rfl (by decide) (by decide)
        refine w_iand X0 hx (dB at_82) 83 rfl e2291 ?_
        refine w_iconst X0 hx (dB at_83) 84 rfl (4 : Int32) (by decide) ?_
        obtain ⟨v2292, e2292⟩ : ∃ z : Int32, z = v2291 % (4 : Int32) := ⟨_, rfl⟩
        have n2292 : v2292.toInt = v2291.toInt % 4 := by rw [e2292]; exact iremX rfl (by decide) (by omega)
        refine w_irem X0 hx (dB at_84) 85 rfl (by decide) e2292 ?_
        refine w_istore X0 hx (dB at_85) 87 rfl #[.val (.int xp), .val (.int xq), .val (.int xr), .val (.int (5 : Int32)), .val (.int (2 : Int32)), .val (.int (0 : Int32)), .val (.int (1 : Int32)), .val (.int (1 : Int32)), .val (.int (1 : Int32)), .val (.int (0 : Int32)), .val (.int v2292), .unset, .unset, .unset, .unset] rfl ?_
        refine w_iloadN X0 hx xr (dB at_87) 88 rfl rfl ?_
        refine w_ldc X0 hx hZ hown (tw_0 hw) (dB at_88) 90 rfl ?_
        obtain ⟨v2293, e2293⟩ : ∃ z : Int32, z = xr &&& (2147483647 : Int32) := ⟨_, rfl⟩
        have n2293 : v2293.toInt = xr.toInt % 2147483648 := by rw [e2293]; exact maskX 31 rfl (by decide) (by decide)
        refine w_iand X0 hx (dB at_90) 91 rfl e2293 ?_
        refine w_iconst X0 hx (dB at_91) 92 rfl (5 : Int32) (by decide) ?_
        obtain ⟨v2294, e2294⟩ : ∃ z : Int32, z = v2293 % (5 : Int32) := ⟨_, rfl⟩
        have n2294 : v2294.toInt = v2293.toInt % 5 := by rw [e2294]; exact iremX rfl (by decide) (by omega)
        refine w_irem X0 hx (dB at_92) 93 rfl (by decide) e2294 ?_
        refine w_istore X0 hx (dB at_93) 95 rfl #[.val (.int xp), .val (.int xq), .val (.int xr), .val (.int (5 : Int32)), .val (.int (2 : Int32)), .val (.int (0 : Int32)), .val (.int (1 : Int32)), .val (.int (1 : Int32)), .val (.int (1 : Int32)), .val (.int (0 : Int32)), .val (.int v2292), .val (.int v2294), .unset, .unset, .unset] rfl ?_
        refine w_new X0 hx hZ hown e0 (tw_1 hw) (tw_2 hw) (tw_3 hw) (by decide) (by decide) (dB at_95) 98 rfl (fun T2295 h2295 a2295 X2295 e2295 g2295 E2295 A2295 D2295 => ?_)
        have g_a2295 : n0 ≤ a2295 := Nat.le_trans Z0 (Nat.le_of_eq g2295.symm)
        have s_a2295 : h0.size ≤ a2295 := Nat.le_trans (Keep.refl h0 []).1 (Nat.le_of_eq g2295.symm)
        have Z2295 : n0 ≤ h2295.size := Nat.le_trans Z0 E2295.1
        have K2295 : Keep h0 h2295 [] := (Keep.refl h0 []).ext E2295
        have F2296 : Fld Z h2295 a2295 cN_1 "value" "J" (.long (0 : Int64)) := D2295 (Or.inr (tw_16 hw)) (ty := .long) (by decide)
        refine w_dup X2295 hx (dB at_98) 99 rfl rfl ?_
        refine w_iloadN X2295 hx xq (dB at_99) 100 rfl rfl ?_
        obtain ⟨v2297, e2297⟩ : ∃ z : Int64, z = xq.toInt64 := ⟨_, rfl⟩
        have n2297 : v2297.toInt = xq.toInt := by rw [e2297]; exact i2lX rfl
        refine w_i2l X2295 hx (dB at_100) 101 rfl e2297 ?_
        refine w_init X2295 hx hZ rfl hown e2295 (rm1 l Z a0 hw [] a2295 v2297 h2295 n0 Z2295 A2295 F2296 g_a2295) (tw_4 hw) (tw_5 hw) (tw_3 hw) (tw_6 hw) (by decide) (by rw [hml]; rfl) a2295 [(.long v2297)] [(.ref a2295)] (lenOf pd_1 rfl) rfl rfl (by decide) 1 rfl (by decide) (by decide) (by decide) (dB at_101) 104 rfl (fun r2298 T2298 L2298 X2298 q2298 => ?_)
        obtain ⟨rfl, Nq2298, Kq2298⟩ := q2298
        have N2298 := Fr.app N0 Nq2298
        have F2299 : Exa Z T2298.heap a2295 cN_1 := A2295.keep Kq2298
        have Z2298 : n0 ≤ T2298.heap.size := Nat.le_trans Z2295 Kq2298.1
        have K2298 : Keep h0 T2298.heap [] := K2295.trans Kq2298 (allS (Or.inr s_a2295) all0)
        dsimp only [oD1, oD2, oD3, oD4]
        refine w_astore X2298 hx (dB at_104) 106 rfl rfl #[.val (.int xp), .val (.int xq), .val (.int xr), .val (.int (5 : Int32)), .val (.int (2 : Int32)), .val (.int (0 : Int32)), .val (.int (1 : Int32)), .val (.int (1 : Int32)), .val (.int (1 : Int32)), .val (.int (0 : Int32)), .val (.int v2292), .val (.int v2294), .val (.ref a2295), .unset, .unset] rfl ?_
        refine w_new X2298 hx hZ hown rfl (tw_17 hw) (tw_18 hw) (tw_19 hw) (by decide) (by decide) (dB at_106) 109 rfl (fun T2300 h2300 a2300 X2300 e2300 g2300 E2300 A2300 D2300 => ?_)
        have ne_a2295_a2300 : a2295 ≠ a2300 := Nat.ne_of_lt (Nat.lt_of_lt_of_le F2299.lt (Nat.le_of_eq g2300.symm))
        have g_a2300 : n0 ≤ a2300 := Nat.le_trans Z2298 (Nat.le_of_eq g2300.symm)
        have s_a2300 : h0.size ≤ a2300 := Nat.le_trans K2298.1 (Nat.le_of_eq g2300.symm)
        have F2301 : Exa Z h2300 a2295 cN_1 := F2299.ext E2300
        have Z2300 : n0 ≤ h2300.size := Nat.le_trans Z2298 E2300.1
        have K2300 : Keep h0 h2300 [] := K2298.ext E2300
        have F2302 : Fld Z h2300 a2300 cN_2 "values" cN_3 .null := D2300 (Or.inr (tw_27 hw)) (ty := (.array (.object "com/example/simpagation/simpagation/Term"))) (by decide)
        have F2303 : Fld Z h2300 a2300 cN_2 "trail" "[I" .null := D2300 (Or.inr (tw_30 hw)) (ty := (.array .int)) (by decide)
        have F2304 : Fld Z h2300 a2300 cN_2 "trailSize" "I" (.int (0 : Int32)) := D2300 (Or.inl (tw_37 hw)) (ty := .int) (by decide)
        refine w_dup X2300 hx (dB at_109) 110 rfl rfl ?_
        refine w_iconst X2300 hx (dB at_110) 111 rfl (3 : Int32) (by decide) ?_
        refine w_init X2300 hx hZ rfl hown e2300 (rm4 l Z a0 hw [] a2300 h2300 n0 Z2300 A2300 F2302 F2303 F2304 g_a2300) (tw_20 hw) (tw_21 hw) (tw_19 hw) (tw_22 hw) (by decide) (by rw [hml]; rfl) a2300 [(.int (3 : Int32))] [(.ref a2300)] (lenOf pd_2 rfl) rfl rfl (by decide) 1 rfl (by decide) (by decide) (by decide) (dB at_111) 114 rfl (fun r2305 T2305 L2305 X2305 q2305 => ?_)
        obtain ⟨va2305, ta2305, kv2305, kt2305, rfl, Nq2305, Kq2305, sq2305_0, sq2305_1, nq2305_0, ov2305_0, G2305_0, G2305_1, G2305_2, G2305_3, G2305_4⟩ := q2305
        have N2305 := Fr.app N2298 Nq2305
        have ne_a2295_va2305 : a2295 ≠ va2305 := Nat.ne_of_lt (Nat.lt_of_lt_of_le F2301.lt sq2305_0)
        have ne_a2300_va2305 : a2300 ≠ va2305 := Nat.ne_of_lt (Nat.lt_of_lt_of_le A2300.lt sq2305_0)
        have g_va2305 : n0 ≤ va2305 := Nat.le_trans Z2300 sq2305_0
        have s_va2305 : h0.size ≤ va2305 := Nat.le_trans K2300.1 sq2305_0
        have ne_a2295_ta2305 : a2295 ≠ ta2305 := Nat.ne_of_lt (Nat.lt_of_lt_of_le F2301.lt sq2305_1)
        have ne_a2300_ta2305 : a2300 ≠ ta2305 := Nat.ne_of_lt (Nat.lt_of_lt_of_le A2300.lt sq2305_1)
        have g_ta2305 : n0 ≤ ta2305 := Nat.le_trans Z2300 sq2305_1
        have s_ta2305 : h0.size ≤ ta2305 := Nat.le_trans K2300.1 sq2305_1
        have F2306 : Exa Z T2305.heap a2295 cN_1 := F2301.keep Kq2305
        have F2307 : Exa Z T2305.heap a2300 cN_2 := A2300.keep Kq2305
        have Z2305 : n0 ≤ T2305.heap.size := Nat.le_trans Z2300 Kq2305.1
        have K2305 : Keep h0 T2305.heap [] := K2300.trans Kq2305 (allS (Or.inr s_a2300) all0)
        dsimp only [oD1, oD2, oD3, oD4]
        refine w_astore X2305 hx (dB at_114) 116 rfl rfl #[.val (.int xp), .val (.int xq), .val (.int xr), .val (.int (5 : Int32)), .val (.int (2 : Int32)), .val (.int (0 : Int32)), .val (.int (1 : Int32)), .val (.int (1 : Int32)), .val (.int (1 : Int32)), .val (.int (0 : Int32)), .val (.int v2292), .val (.int v2294), .val (.ref a2295), .val (.ref a2300), .unset] rfl ?_
        have J2308 : ∀ (T' : State) (h' : Heap) (L' : List Loc) (_ : Stand p l e room_1 s m #[(.int xp), (.int xq), (.int xr)] below meth c T' L' 4 10) (_ : T'.heap = h') (_ : Fr n0 L') (_ : n0 ≤ h'.size) (_ : Keep h0 h' []) (j2308_0 : Int32) (j2308_1 : Int32) , (Exa Z h' a2300 cN_2) → (Fld Z h' a2300 cN_2 "values" cN_3 (.ref va2305)) → (Fld Z h' a2300 cN_2 "trailSize" "I" (.int (0 : Int32))) → (Arv Z h' va2305 kv2305 (.object cN_4) (3 : Int32) [.null, .null, .null] .null) → (0 ≤ j2308_0.toInt ∧ j2308_0.toInt ≤ 3 ∧ 0 ≤ j2308_1.toInt ∧ j2308_1.toInt ≤ 4 ∧ ((j2308_0.toInt ≤ j2308_1.toInt ∧ j2308_0.toInt = 0) ∨ (j2308_1.toInt < j2308_0.toInt ∧ j2308_1.toInt = 0))) → Wk p e below (FN s (Q0 Z xp xq xr h0 n0) 4 10) T' (mkF m 167 #[.val (.int xp), .val (.int xq), .val (.int xr), .val (.int (5 : Int32)), .val (.int (2 : Int32)), .val (.int (0 : Int32)), .val (.int (1 : Int32)), .val (.int (1 : Int32)), .val (.int (1 : Int32)), .val (.int (0 : Int32)), .val (.int j2308_0), .val (.int j2308_1), .val (.ref a2295), .val (.ref a2300), .unset] []) := by
         intro T2308 h2308 L2308 X2308 e2308_ N2308 Z2308 K2308 j2308_0 j2308_1  jf2308_0 jf2308_1 jf2308_2 jf2308_3 f2308
         refine w_iload X2308 hx j2308_0 (dB at_167) 169 rfl rfl ?_
         refine w_iload X2308 hx j2308_1 (dB at_169) 171 rfl rfl ?_
         refine w_callS X2308 hx hZ hown e2308_ (rm7 l Z a0 hw [] j2308_0 j2308_1 h2308 n0 Z2308 ) (tw_44 hw) (tw_45 hw) (tw_46 hw) (tw_47 hw) (by decide) (by rw [hml]; rfl) [(.int j2308_0), (.int j2308_1)] [] (lenOf pd_3 rfl) rfl rfl (by decide) 0 rfl (by decide) (by decide) (by decide) (dB at_171) 174 rfl (fun r2309 T2309 L2309 X2309 q2309 => ?_)
         obtain ⟨z2309, rfl, f2309, Nq2309, eq2309⟩ := q2309
         have N2309 := Fr.app N2308 Nq2309
         dsimp only [oD1, oD2, oD3, oD4]
         refine w_istore X2309 hx (dB at_174) 176 rfl #[.val (.int xp), .val (.int xq), .val (.int xr), .val (.int (5 : Int32)), .val (.int (2 : Int32)), .val (.int (0 : Int32)), .val (.int (1 : Int32)), .val (.int (1 : Int32)), .val (.int (1 : Int32)), .val (.int (0 : Int32)), .val (.int j2308_0), .val (.int j2308_1), .val (.ref a2295), .val (.ref a2300), .val (.int z2309)] rfl ?_
         refine w_aload X2309 hx (.ref a2300) (dB at_176) 178 rfl rfl rfl ?_
         refine w_virt X2309 hx hZ hown eq2309 (rm8 l Z a0 hw [] a2300 (0 : Int32) h2308 n0 Z2308 jf2308_2) (tw_48 hw) (tw_49 hw) (notFace_of_selects (args := #[]) (mvT hZ (tw_51 hw))) (tw_51 hw) (tw_50 hw) (tw_19 hw) (tw_52 hw) (by decide) a2300 jf2308_0 (by rw [hml]; rfl) [] [] (lenOf pd_4 rfl) rfl rfl (by decide) 0 rfl (by decide) (by decide) (by decide) (dB at_178) 181 rfl (fun r2310 T2310 L2310 X2310 q2310 => ?_)
         obtain ⟨rfl, Nq2310, eq2310⟩ := q2310
         have N2310 := Fr.app N2309 Nq2310
         dsimp only [oD1, oD2, oD3, oD4]
         refine w_iload X2310 hx z2309 (dB at_181) 183 rfl rfl ?_
         refine w_icmp_ne X2310 hx 0 z2309.toInt (by decide) rfl (dB at_183) 283 186 (fun c2311 => ?_) (fun c2311 => ?_)
         ·exfalso; omega
         ·refine w_aload X2310 hx (.ref a2300) (dB at_186) 188 rfl rfl rfl ?_
          refine w_iload X2310 hx (2 : Int32) (dB at_188) 190 rfl rfl ?_
          refine w_virt X2310 hx hZ hown eq2310 (rm9i2 l Z a0 hw [] a2300 va2305 kv2305 [.null, .null, .null] .null h2308 n0 Z2308 jf2308_1 jf2308_3 (by rfl) (by rfl)) (tw_53 hw) (tw_54 hw) (notFace_of_selects (args := #[]) (mvT hZ (tw_56 hw))) (tw_56 hw) (tw_55 hw) (tw_19 hw) (tw_57 hw) (by decide) a2300 jf2308_0 (by rw [hml]; rfl) [(.int (2 : Int32))] [] (lenOf pd_5 rfl) rfl rfl (by decide) 0 rfl (by decide) (by decide) (by decide) (dB at_190) 193 rfl (fun r2312 T2312 L2312 X2312 q2312 => ?_)
          obtain ⟨rfl, Nq2312, eq2312⟩ := q2312
          have N2312 := Fr.app N2310 Nq2312
          dsimp only [oD1, oD2, oD3, oD4]
          refine w_aload X2312 hx (.ref a2295) (dB at_193) 195 rfl rfl rfl ?_
          refine w_acmp X2312 hx rfl rfl (dB at_195) false (decide_eq_false nofun) 202 (by decide) (by decide) ?_
          refine w_iconst X2312 hx (dB at_202) 203 rfl (0 : Int32) (by decide) ?_
          refine w_iconst X2312 hx (dB at_203) 204 rfl (0 : Int32) (by decide) ?_
          refine w_iload X2312 hx z2309 (dB at_204) 206 rfl rfl ?_
          refine w_icmp_ge X2312 hx 0 z2309.toInt (by decide) rfl (dB at_206) 213 209 (fun c2313 => ?_) (fun c2313 => ?_)
          ·refine w_iconst X2312 hx (dB at_213) 214 rfl (0 : Int32) (by decide) ?_
           refine w_icmp_ne X2312 hx 0 0 (by decide) (by decide) (dB at_214) 283 217 (fun c2314 => ?_) (fun c2314 => ?_)
           ·exfalso; omega
           ·refine w_aload X2312 hx (.ref a2300) (dB at_217) 219 rfl rfl rfl ?_
            refine w_iload X2312 hx (1 : Int32) (dB at_219) 221 rfl rfl ?_
            refine w_virt X2312 hx hZ hown eq2312 (rm9i1 l Z a0 hw [] a2300 va2305 kv2305 [.null, .null, .null] .null h2308 n0 Z2308 jf2308_1 jf2308_3 (by rfl) (by rfl)) (tw_53 hw) (tw_54 hw) (notFace_of_selects (args := #[]) (mvT hZ (tw_56 hw))) (tw_56 hw) (tw_55 hw) (tw_19 hw) (tw_57 hw) (by decide) a2300 jf2308_0 (by rw [hml]; rfl) [(.int (1 : Int32))] [] (lenOf pd_5 rfl) rfl rfl (by decide) 0 rfl (by decide) (by decide) (by decide) (dB at_221) 224 rfl (fun r2315 T2315 L2315 X2315 q2315 => ?_)
            obtain ⟨rfl, Nq2315, eq2315⟩ := q2315
            have N2315 := Fr.app N2312 Nq2315
            dsimp only [oD1, oD2, oD3, oD4]
            refine w_aload X2315 hx (.ref a2295) (dB at_224) 226 rfl rfl rfl ?_
            refine w_acmp X2315 hx rfl rfl (dB at_226) false (decide_eq_false nofun) 233 (by decide) (by decide) ?_
            refine w_iconst X2315 hx (dB at_233) 234 rfl (0 : Int32) (by decide) ?_
            refine w_iconst X2315 hx (dB at_234) 235 rfl (1 : Int32) (by decide) ?_
            refine w_iload X2315 hx z2309 (dB at_235) 237 rfl rfl ?_
            refine w_icmp_ge X2315 hx 1 z2309.toInt (by decide) rfl (dB at_237) 244 240 (fun c2316 => ?_) (fun c2316 => ?_)
            ·refine w_iconst X2315 hx (dB at_244) 245 rfl (0 : Int32) (by decide) ?_
             refine w_icmp_ne X2315 hx 0 0 (by decide) (by decide) (dB at_245) 283 248 (fun c2317 => ?_) (fun c2317 => ?_)
             ·exfalso; omega
             ·refine w_aload X2315 hx (.ref a2300) (dB at_248) 250 rfl rfl rfl ?_
              refine w_iload X2315 hx (0 : Int32) (dB at_250) 252 rfl rfl ?_
              refine w_virt X2315 hx hZ hown eq2315 (rm9i0 l Z a0 hw [] a2300 va2305 kv2305 [.null, .null, .null] .null h2308 n0 Z2308 jf2308_1 jf2308_3 (by rfl) (by rfl)) (tw_53 hw) (tw_54 hw) (notFace_of_selects (args := #[]) (mvT hZ (tw_56 hw))) (tw_56 hw) (tw_55 hw) (tw_19 hw) (tw_57 hw) (by decide) a2300 jf2308_0 (by rw [hml]; rfl) [(.int (0 : Int32))] [] (lenOf pd_5 rfl) rfl rfl (by decide) 0 rfl (by decide) (by decide) (by decide) (dB at_252) 255 rfl (fun r2318 T2318 L2318 X2318 q2318 => ?_)
              obtain ⟨rfl, Nq2318, eq2318⟩ := q2318
              have N2318 := Fr.app N2315 Nq2318
              dsimp only [oD1, oD2, oD3, oD4]
              refine w_aload X2318 hx (.ref a2295) (dB at_255) 257 rfl rfl rfl ?_
              refine w_acmp X2318 hx rfl rfl (dB at_257) false (decide_eq_false nofun) 264 (by decide) (by decide) ?_
              refine w_iconst X2318 hx (dB at_264) 265 rfl (0 : Int32) (by decide) ?_
              refine w_iconst X2318 hx (dB at_265) 266 rfl (2 : Int32) (by decide) ?_
              refine w_iload X2318 hx z2309 (dB at_266) 268 rfl rfl ?_
              refine w_icmp_ge X2318 hx 2 z2309.toInt (by decide) rfl (dB at_268) 275 271 (fun c2319 => ?_) (fun c2319 => ?_)
              ·refine w_iconst X2318 hx (dB at_275) 276 rfl (0 : Int32) (by decide) ?_
               refine w_icmp_ne X2318 hx 0 0 (by decide) (by decide) (dB at_276) 283 279 (fun c2320 => ?_) (fun c2320 => ?_)
               ·exfalso; omega
               ·refine w_iconst X2318 hx (dB at_279) 280 rfl (1 : Int32) (by decide) ?_
                refine w_goto X2318 hx (dB at_280) 284 ?_
                refine w_retN X2318 hx hlk (t := .boolean) hret (by simp) (dB at_284) (by decide) (by decide) ?_
                rw [eq2318]
                exact ⟨rfl, N2318⟩
              ·exfalso; omega
            ·exfalso; omega
          ·exfalso; omega
        have J2321 : ∀ (T' : State) (h' : Heap) (L' : List Loc) (_ : Stand p l e room_1 s m #[(.int xp), (.int xq), (.int xr)] below meth c T' L' 4 10) (_ : T'.heap = h') (_ : Fr n0 L') (_ : n0 ≤ h'.size) (_ : Keep h0 h' []) (j2321_0 : Int32) (j2321_1 : Int32) , (Exa Z h' a2300 cN_2) → (Fld Z h' a2300 cN_2 "values" cN_3 (.ref va2305)) → (Fld Z h' a2300 cN_2 "trailSize" "I" (.int (1 : Int32))) → (Arv Z h' va2305 kv2305 (.object cN_4) (3 : Int32) [.null, .null, (.ref a2295)] .null) → (0 ≤ j2321_0.toInt ∧ j2321_0.toInt ≤ 3 ∧ 0 ≤ j2321_1.toInt ∧ j2321_1.toInt ≤ 4 ∧ ((j2321_0.toInt ≤ j2321_1.toInt ∧ j2321_0.toInt = 1) ∨ (j2321_1.toInt < j2321_0.toInt ∧ j2321_1.toInt = 1))) → Wk p e below (FN s (Q0 Z xp xq xr h0 n0) 4 10) T' (mkF m 167 #[.val (.int xp), .val (.int xq), .val (.int xr), .val (.int (5 : Int32)), .val (.int (2 : Int32)), .val (.int (0 : Int32)), .val (.int (1 : Int32)), .val (.int (1 : Int32)), .val (.int (1 : Int32)), .val (.int (0 : Int32)), .val (.int j2321_0), .val (.int j2321_1), .val (.ref a2295), .val (.ref a2300), .unset] []) := by
         intro T2321 h2321 L2321 X2321 e2321_ N2321 Z2321 K2321 j2321_0 j2321_1  jf2321_0 jf2321_1 jf2321_2 jf2321_3 f2321
         refine w_iload X2321 hx j2321_0 (dB at_167) 169 rfl rfl ?_
         refine w_iload X2321 hx j2321_1 (dB at_169) 171 rfl rfl ?_
         refine w_callS X2321 hx hZ hown e2321_ (rm7 l Z a0 hw [] j2321_0 j2321_1 h2321 n0 Z2321 ) (tw_44 hw) (tw_45 hw) (tw_46 hw) (tw_47 hw) (by decide) (by rw [hml]; rfl) [(.int j2321_0), (.int j2321_1)] [] (lenOf pd_3 rfl) rfl rfl (by decide) 0 rfl (by decide) (by decide) (by decide) (dB at_171) 174 rfl (fun r2322 T2322 L2322 X2322 q2322 => ?_)
         obtain ⟨z2322, rfl, f2322, Nq2322, eq2322⟩ := q2322
         have N2322 := Fr.app N2321 Nq2322
         dsimp only [oD1, oD2, oD3, oD4]
         refine w_istore X2322 hx (dB at_174) 176 rfl #[.val (.int xp), .val (.int xq), .val (.int xr), .val (.int (5 : Int32)), .val (.int (2 : Int32)), .val (.int (0 : Int32)), .val (.int (1 : Int32)), .val (.int (1 : Int32)), .val (.int (1 : Int32)), .val (.int (0 : Int32)), .val (.int j2321_0), .val (.int j2321_1), .val (.ref a2295), .val (.ref a2300), .val (.int z2322)] rfl ?_
         refine w_aload X2322 hx (.ref a2300) (dB at_176) 178 rfl rfl rfl ?_
         refine w_virt X2322 hx hZ hown eq2322 (rm8 l Z a0 hw [] a2300 (1 : Int32) h2321 n0 Z2321 jf2321_2) (tw_48 hw) (tw_49 hw) (notFace_of_selects (args := #[]) (mvT hZ (tw_51 hw))) (tw_51 hw) (tw_50 hw) (tw_19 hw) (tw_52 hw) (by decide) a2300 jf2321_0 (by rw [hml]; rfl) [] [] (lenOf pd_4 rfl) rfl rfl (by decide) 0 rfl (by decide) (by decide) (by decide) (dB at_178) 181 rfl (fun r2323 T2323 L2323 X2323 q2323 => ?_)
         obtain ⟨rfl, Nq2323, eq2323⟩ := q2323
         have N2323 := Fr.app N2322 Nq2323
         dsimp only [oD1, oD2, oD3, oD4]
         refine w_iload X2323 hx z2322 (dB at_181) 183 rfl rfl ?_
         refine w_icmp_ne X2323 hx 1 z2322.toInt (by decide) rfl (dB at_183) 283 186 (fun c2324 => ?_) (fun c2324 => ?_)
         ·exfalso; omega
         ·refine w_aload X2323 hx (.ref a2300) (dB at_186) 188 rfl rfl rfl ?_
          refine w_iload X2323 hx (2 : Int32) (dB at_188) 190 rfl rfl ?_
          refine w_virt X2323 hx hZ hown eq2323 (rm9i2 l Z a0 hw [] a2300 va2305 kv2305 [.null, .null, (.ref a2295)] (.ref a2295) h2321 n0 Z2321 jf2321_1 jf2321_3 (by rfl) (by rfl)) (tw_53 hw) (tw_54 hw) (notFace_of_selects (args := #[]) (mvT hZ (tw_56 hw))) (tw_56 hw) (tw_55 hw) (tw_19 hw) (tw_57 hw) (by decide) a2300 jf2321_0 (by rw [hml]; rfl) [(.int (2 : Int32))] [] (lenOf pd_5 rfl) rfl rfl (by decide) 0 rfl (by decide) (by decide) (by decide) (dB at_190) 193 rfl (fun r2325 T2325 L2325 X2325 q2325 => ?_)
          obtain ⟨rfl, Nq2325, eq2325⟩ := q2325
          have N2325 := Fr.app N2323 Nq2325
          dsimp only [oD1, oD2, oD3, oD4]
          refine w_aload X2325 hx (.ref a2295) (dB at_193) 195 rfl rfl rfl ?_
          refine w_acmp X2325 hx rfl rfl (dB at_195) true (decide_eq_true rfl) 198 (by decide) (by decide) ?_
          refine w_iconst X2325 hx (dB at_198) 199 rfl (1 : Int32) (by decide) ?_
          refine w_goto X2325 hx (dB at_199) 203 ?_
          refine w_iconst X2325 hx (dB at_203) 204 rfl (0 : Int32) (by decide) ?_
          refine w_iload X2325 hx z2322 (dB at_204) 206 rfl rfl ?_
          refine w_icmp_ge X2325 hx 0 z2322.toInt (by decide) rfl (dB at_206) 213 209 (fun c2326 => ?_) (fun c2326 => ?_)
          ·exfalso; omega
          ·refine w_iconst X2325 hx (dB at_209) 210 rfl (1 : Int32) (by decide) ?_
           refine w_goto X2325 hx (dB at_210) 214 ?_
           refine w_icmp_ne X2325 hx 1 1 (by decide) (by decide) (dB at_214) 283 217 (fun c2327 => ?_) (fun c2327 => ?_)
           ·exfalso; omega
           ·refine w_aload X2325 hx (.ref a2300) (dB at_217) 219 rfl rfl rfl ?_
            refine w_iload X2325 hx (1 : Int32) (dB at_219) 221 rfl rfl ?_
            refine w_virt X2325 hx hZ hown eq2325 (rm9i1 l Z a0 hw [] a2300 va2305 kv2305 [.null, .null, (.ref a2295)] .null h2321 n0 Z2321 jf2321_1 jf2321_3 (by rfl) (by rfl)) (tw_53 hw) (tw_54 hw) (notFace_of_selects (args := #[]) (mvT hZ (tw_56 hw))) (tw_56 hw) (tw_55 hw) (tw_19 hw) (tw_57 hw) (by decide) a2300 jf2321_0 (by rw [hml]; rfl) [(.int (1 : Int32))] [] (lenOf pd_5 rfl) rfl rfl (by decide) 0 rfl (by decide) (by decide) (by decide) (dB at_221) 224 rfl (fun r2328 T2328 L2328 X2328 q2328 => ?_)
            obtain ⟨rfl, Nq2328, eq2328⟩ := q2328
            have N2328 := Fr.app N2325 Nq2328
            dsimp only [oD1, oD2, oD3, oD4]
            refine w_aload X2328 hx (.ref a2295) (dB at_224) 226 rfl rfl rfl ?_
            refine w_acmp X2328 hx rfl rfl (dB at_226) false (decide_eq_false nofun) 233 (by decide) (by decide) ?_
            refine w_iconst X2328 hx (dB at_233) 234 rfl (0 : Int32) (by decide) ?_
            refine w_iconst X2328 hx (dB at_234) 235 rfl (1 : Int32) (by decide) ?_
            refine w_iload X2328 hx z2322 (dB at_235) 237 rfl rfl ?_
            refine w_icmp_ge X2328 hx 1 z2322.toInt (by decide) rfl (dB at_237) 244 240 (fun c2329 => ?_) (fun c2329 => ?_)
            ·refine w_iconst X2328 hx (dB at_244) 245 rfl (0 : Int32) (by decide) ?_
             refine w_icmp_ne X2328 hx 0 0 (by decide) (by decide) (dB at_245) 283 248 (fun c2330 => ?_) (fun c2330 => ?_)
             ·exfalso; omega
             ·refine w_aload X2328 hx (.ref a2300) (dB at_248) 250 rfl rfl rfl ?_
              refine w_iload X2328 hx (0 : Int32) (dB at_250) 252 rfl rfl ?_
              refine w_virt X2328 hx hZ hown eq2328 (rm9i0 l Z a0 hw [] a2300 va2305 kv2305 [.null, .null, (.ref a2295)] .null h2321 n0 Z2321 jf2321_1 jf2321_3 (by rfl) (by rfl)) (tw_53 hw) (tw_54 hw) (notFace_of_selects (args := #[]) (mvT hZ (tw_56 hw))) (tw_56 hw) (tw_55 hw) (tw_19 hw) (tw_57 hw) (by decide) a2300 jf2321_0 (by rw [hml]; rfl) [(.int (0 : Int32))] [] (lenOf pd_5 rfl) rfl rfl (by decide) 0 rfl (by decide) (by decide) (by decide) (dB at_252) 255 rfl (fun r2331 T2331 L2331 X2331 q2331 => ?_)
              obtain ⟨rfl, Nq2331, eq2331⟩ := q2331
              have N2331 := Fr.app N2328 Nq2331
              dsimp only [oD1, oD2, oD3, oD4]
              refine w_aload X2331 hx (.ref a2295) (dB at_255) 257 rfl rfl rfl ?_
              refine w_acmp X2331 hx rfl rfl (dB at_257) false (decide_eq_false nofun) 264 (by decide) (by decide) ?_
              refine w_iconst X2331 hx (dB at_264) 265 rfl (0 : Int32) (by decide) ?_
              refine w_iconst X2331 hx (dB at_265) 266 rfl (2 : Int32) (by decide) ?_
              refine w_iload X2331 hx z2322 (dB at_266) 268 rfl rfl ?_
              refine w_icmp_ge X2331 hx 2 z2322.toInt (by decide) rfl (dB at_268) 275 271 (fun c2332 => ?_) (fun c2332 => ?_)
              ·refine w_iconst X2331 hx (dB at_275) 276 rfl (0 : Int32) (by decide) ?_
               refine w_icmp_ne X2331 hx 0 0 (by decide) (by decide) (dB at_276) 283 279 (fun c2333 => ?_) (fun c2333 => ?_)
               ·exfalso; omega
               ·refine w_iconst X2331 hx (dB at_279) 280 rfl (1 : Int32) (by decide) ?_
                refine w_goto X2331 hx (dB at_280) 284 ?_
                refine w_retN X2331 hx hlk (t := .boolean) hret (by simp) (dB at_284) (by decide) (by decide) ?_
                rw [eq2331]
                exact ⟨rfl, N2331⟩
              ·exfalso; omega
            ·exfalso; omega
        have J2334 : ∀ (T' : State) (h' : Heap) (L' : List Loc) (_ : Stand p l e room_1 s m #[(.int xp), (.int xq), (.int xr)] below meth c T' L' 4 10) (_ : T'.heap = h') (_ : Fr n0 L') (_ : n0 ≤ h'.size) (_ : Keep h0 h' []) (j2334_0 : Int32) (j2334_1 : Int32) , (Exa Z h' a2300 cN_2) → (Fld Z h' a2300 cN_2 "values" cN_3 (.ref va2305)) → (Fld Z h' a2300 cN_2 "trailSize" "I" (.int (2 : Int32))) → (Arv Z h' va2305 kv2305 (.object cN_4) (3 : Int32) [.null, (.ref a2295), (.ref a2295)] .null) → (0 ≤ j2334_0.toInt ∧ j2334_0.toInt ≤ 3 ∧ 0 ≤ j2334_1.toInt ∧ j2334_1.toInt ≤ 4 ∧ ((j2334_0.toInt ≤ j2334_1.toInt ∧ j2334_0.toInt = 2) ∨ (j2334_1.toInt < j2334_0.toInt ∧ j2334_1.toInt = 2))) → Wk p e below (FN s (Q0 Z xp xq xr h0 n0) 4 10) T' (mkF m 167 #[.val (.int xp), .val (.int xq), .val (.int xr), .val (.int (5 : Int32)), .val (.int (2 : Int32)), .val (.int (0 : Int32)), .val (.int (1 : Int32)), .val (.int (1 : Int32)), .val (.int (1 : Int32)), .val (.int (0 : Int32)), .val (.int j2334_0), .val (.int j2334_1), .val (.ref a2295), .val (.ref a2300), .unset] []) := by
         intro T2334 h2334 L2334 X2334 e2334_ N2334 Z2334 K2334 j2334_0 j2334_1  jf2334_0 jf2334_1 jf2334_2 jf2334_3 f2334
         refine w_iload X2334 hx j2334_0 (dB at_167) 169 rfl rfl ?_
         refine w_iload X2334 hx j2334_1 (dB at_169) 171 rfl rfl ?_
         refine w_callS X2334 hx hZ hown e2334_ (rm7 l Z a0 hw [] j2334_0 j2334_1 h2334 n0 Z2334 ) (tw_44 hw) (tw_45 hw) (tw_46 hw) (tw_47 hw) (by decide) (by rw [hml]; rfl) [(.int j2334_0), (.int j2334_1)] [] (lenOf pd_3 rfl) rfl rfl (by decide) 0 rfl (by decide) (by decide) (by decide) (dB at_171) 174 rfl (fun r2335 T2335 L2335 X2335 q2335 => ?_)
         obtain ⟨z2335, rfl, f2335, Nq2335, eq2335⟩ := q2335
         have N2335 := Fr.app N2334 Nq2335
         dsimp only [oD1, oD2, oD3, oD4]
         refine w_istore X2335 hx (dB at_174) 176 rfl #[.val (.int xp), .val (.int xq), .val (.int xr), .val (.int (5 : Int32)), .val (.int (2 : Int32)), .val (.int (0 : Int32)), .val (.int (1 : Int32)), .val (.int (1 : Int32)), .val (.int (1 : Int32)), .val (.int (0 : Int32)), .val (.int j2334_0), .val (.int j2334_1), .val (.ref a2295), .val (.ref a2300), .val (.int z2335)] rfl ?_
         refine w_aload X2335 hx (.ref a2300) (dB at_176) 178 rfl rfl rfl ?_
         refine w_virt X2335 hx hZ hown eq2335 (rm8 l Z a0 hw [] a2300 (2 : Int32) h2334 n0 Z2334 jf2334_2) (tw_48 hw) (tw_49 hw) (notFace_of_selects (args := #[]) (mvT hZ (tw_51 hw))) (tw_51 hw) (tw_50 hw) (tw_19 hw) (tw_52 hw) (by decide) a2300 jf2334_0 (by rw [hml]; rfl) [] [] (lenOf pd_4 rfl) rfl rfl (by decide) 0 rfl (by decide) (by decide) (by decide) (dB at_178) 181 rfl (fun r2336 T2336 L2336 X2336 q2336 => ?_)
         obtain ⟨rfl, Nq2336, eq2336⟩ := q2336
         have N2336 := Fr.app N2335 Nq2336
         dsimp only [oD1, oD2, oD3, oD4]
         refine w_iload X2336 hx z2335 (dB at_181) 183 rfl rfl ?_
         refine w_icmp_ne X2336 hx 2 z2335.toInt (by decide) rfl (dB at_183) 283 186 (fun c2337 => ?_) (fun c2337 => ?_)
         ·exfalso; omega
         ·refine w_aload X2336 hx (.ref a2300) (dB at_186) 188 rfl rfl rfl ?_
          refine w_iload X2336 hx (2 : Int32) (dB at_188) 190 rfl rfl ?_
          refine w_virt X2336 hx hZ hown eq2336 (rm9i2 l Z a0 hw [] a2300 va2305 kv2305 [.null, (.ref a2295), (.ref a2295)] (.ref a2295) h2334 n0 Z2334 jf2334_1 jf2334_3 (by rfl) (by rfl)) (tw_53 hw) (tw_54 hw) (notFace_of_selects (args := #[]) (mvT hZ (tw_56 hw))) (tw_56 hw) (tw_55 hw) (tw_19 hw) (tw_57 hw) (by decide) a2300 jf2334_0 (by rw [hml]; rfl) [(.int (2 : Int32))] [] (lenOf pd_5 rfl) rfl rfl (by decide) 0 rfl (by decide) (by decide) (by decide) (dB at_190) 193 rfl (fun r2338 T2338 L2338 X2338 q2338 => ?_)
          obtain ⟨rfl, Nq2338, eq2338⟩ := q2338
          have N2338 := Fr.app N2336 Nq2338
          dsimp only [oD1, oD2, oD3, oD4]
          refine w_aload X2338 hx (.ref a2295) (dB at_193) 195 rfl rfl rfl ?_
          refine w_acmp X2338 hx rfl rfl (dB at_195) true (decide_eq_true rfl) 198 (by decide) (by decide) ?_
          refine w_iconst X2338 hx (dB at_198) 199 rfl (1 : Int32) (by decide) ?_
          refine w_goto X2338 hx (dB at_199) 203 ?_
          refine w_iconst X2338 hx (dB at_203) 204 rfl (0 : Int32) (by decide) ?_
          refine w_iload X2338 hx z2335 (dB at_204) 206 rfl rfl ?_
          refine w_icmp_ge X2338 hx 0 z2335.toInt (by decide) rfl (dB at_206) 213 209 (fun c2339 => ?_) (fun c2339 => ?_)
          ·exfalso; omega
          ·refine w_iconst X2338 hx (dB at_209) 210 rfl (1 : Int32) (by decide) ?_
           refine w_goto X2338 hx (dB at_210) 214 ?_
           refine w_icmp_ne X2338 hx 1 1 (by decide) (by decide) (dB at_214) 283 217 (fun c2340 => ?_) (fun c2340 => ?_)
           ·exfalso; omega
           ·refine w_aload X2338 hx (.ref a2300) (dB at_217) 219 rfl rfl rfl ?_
            refine w_iload X2338 hx (1 : Int32) (dB at_219) 221 rfl rfl ?_
            refine w_virt X2338 hx hZ hown eq2338 (rm9i1 l Z a0 hw [] a2300 va2305 kv2305 [.null, (.ref a2295), (.ref a2295)] (.ref a2295) h2334 n0 Z2334 jf2334_1 jf2334_3 (by rfl) (by rfl)) (tw_53 hw) (tw_54 hw) (notFace_of_selects (args := #[]) (mvT hZ (tw_56 hw))) (tw_56 hw) (tw_55 hw) (tw_19 hw) (tw_57 hw) (by decide) a2300 jf2334_0 (by rw [hml]; rfl) [(.int (1 : Int32))] [] (lenOf pd_5 rfl) rfl rfl (by decide) 0 rfl (by decide) (by decide) (by decide) (dB at_221) 224 rfl (fun r2341 T2341 L2341 X2341 q2341 => ?_)
            obtain ⟨rfl, Nq2341, eq2341⟩ := q2341
            have N2341 := Fr.app N2338 Nq2341
            dsimp only [oD1, oD2, oD3, oD4]
            refine w_aload X2341 hx (.ref a2295) (dB at_224) 226 rfl rfl rfl ?_
            refine w_acmp X2341 hx rfl rfl (dB at_226) true (decide_eq_true rfl) 229 (by decide) (by decide) ?_
            refine w_iconst X2341 hx (dB at_229) 230 rfl (1 : Int32) (by decide) ?_
            refine w_goto X2341 hx (dB at_230) 234 ?_
            refine w_iconst X2341 hx (dB at_234) 235 rfl (1 : Int32) (by decide) ?_
            refine w_iload X2341 hx z2335 (dB at_235) 237 rfl rfl ?_
            refine w_icmp_ge X2341 hx 1 z2335.toInt (by decide) rfl (dB at_237) 244 240 (fun c2342 => ?_) (fun c2342 => ?_)
            ·exfalso; omega
            ·refine w_iconst X2341 hx (dB at_240) 241 rfl (1 : Int32) (by decide) ?_
             refine w_goto X2341 hx (dB at_241) 245 ?_
             refine w_icmp_ne X2341 hx 1 1 (by decide) (by decide) (dB at_245) 283 248 (fun c2343 => ?_) (fun c2343 => ?_)
             ·exfalso; omega
             ·refine w_aload X2341 hx (.ref a2300) (dB at_248) 250 rfl rfl rfl ?_
              refine w_iload X2341 hx (0 : Int32) (dB at_250) 252 rfl rfl ?_
              refine w_virt X2341 hx hZ hown eq2341 (rm9i0 l Z a0 hw [] a2300 va2305 kv2305 [.null, (.ref a2295), (.ref a2295)] .null h2334 n0 Z2334 jf2334_1 jf2334_3 (by rfl) (by rfl)) (tw_53 hw) (tw_54 hw) (notFace_of_selects (args := #[]) (mvT hZ (tw_56 hw))) (tw_56 hw) (tw_55 hw) (tw_19 hw) (tw_57 hw) (by decide) a2300 jf2334_0 (by rw [hml]; rfl) [(.int (0 : Int32))] [] (lenOf pd_5 rfl) rfl rfl (by decide) 0 rfl (by decide) (by decide) (by decide) (dB at_252) 255 rfl (fun r2344 T2344 L2344 X2344 q2344 => ?_)
              obtain ⟨rfl, Nq2344, eq2344⟩ := q2344
              have N2344 := Fr.app N2341 Nq2344
              dsimp only [oD1, oD2, oD3, oD4]
              refine w_aload X2344 hx (.ref a2295) (dB at_255) 257 rfl rfl rfl ?_
              refine w_acmp X2344 hx rfl rfl (dB at_257) false (decide_eq_false nofun) 264 (by decide) (by decide) ?_
              refine w_iconst X2344 hx (dB at_264) 265 rfl (0 : Int32) (by decide) ?_
              refine w_iconst X2344 hx (dB at_265) 266 rfl (2 : Int32) (by decide) ?_
              refine w_iload X2344 hx z2335 (dB at_266) 268 rfl rfl ?_
              refine w_icmp_ge X2344 hx 2 z2335.toInt (by decide) rfl (dB at_268) 275 271 (fun c2345 => ?_) (fun c2345 => ?_)
              ·refine w_iconst X2344 hx (dB at_275) 276 rfl (0 : Int32) (by decide) ?_
               refine w_icmp_ne X2344 hx 0 0 (by decide) (by decide) (dB at_276) 283 279 (fun c2346 => ?_) (fun c2346 => ?_)
               ·exfalso; omega
               ·refine w_iconst X2344 hx (dB at_279) 280 rfl (1 : Int32) (by decide) ?_
                refine w_goto X2344 hx (dB at_280) 284 ?_
                refine w_retN X2344 hx hlk (t := .boolean) hret (by simp) (dB at_284) (by decide) (by decide) ?_
                rw [eq2344]
                exact ⟨rfl, N2344⟩
              ·exfalso; omega
        have J2347 : ∀ (T' : State) (h' : Heap) (L' : List Loc) (_ : Stand p l e room_1 s m #[(.int xp), (.int xq), (.int xr)] below meth c T' L' 4 10) (_ : T'.heap = h') (_ : Fr n0 L') (_ : n0 ≤ h'.size) (_ : Keep h0 h' []) (j2347_0 : Int32) (j2347_1 : Int32) , (Exa Z h' a2300 cN_2) → (Fld Z h' a2300 cN_2 "values" cN_3 (.ref va2305)) → (Fld Z h' a2300 cN_2 "trailSize" "I" (.int (3 : Int32))) → (Arv Z h' va2305 kv2305 (.object cN_4) (3 : Int32) [(.ref a2295), (.ref a2295), (.ref a2295)] .null) → (0 ≤ j2347_0.toInt ∧ j2347_0.toInt ≤ 3 ∧ 0 ≤ j2347_1.toInt ∧ j2347_1.toInt ≤ 4 ∧ ((j2347_0.toInt ≤ j2347_1.toInt ∧ j2347_0.toInt = 3) ∨ (j2347_1.toInt < j2347_0.toInt ∧ j2347_1.toInt = 3))) → Wk p e below (FN s (Q0 Z xp xq xr h0 n0) 4 10) T' (mkF m 167 #[.val (.int xp), .val (.int xq), .val (.int xr), .val (.int (5 : Int32)), .val (.int (2 : Int32)), .val (.int (0 : Int32)), .val (.int (1 : Int32)), .val (.int (1 : Int32)), .val (.int (1 : Int32)), .val (.int (0 : Int32)), .val (.int j2347_0), .val (.int j2347_1), .val (.ref a2295), .val (.ref a2300), .unset] []) := by
         intro T2347 h2347 L2347 X2347 e2347_ N2347 Z2347 K2347 j2347_0 j2347_1  jf2347_0 jf2347_1 jf2347_2 jf2347_3 f2347
         refine w_iload X2347 hx j2347_0 (dB at_167) 169 rfl rfl ?_
         refine w_iload X2347 hx j2347_1 (dB at_169) 171 rfl rfl ?_
         refine w_callS X2347 hx hZ hown e2347_ (rm7 l Z a0 hw [] j2347_0 j2347_1 h2347 n0 Z2347 ) (tw_44 hw) (tw_45 hw) (tw_46 hw) (tw_47 hw) (by decide) (by rw [hml]; rfl) [(.int j2347_0), (.int j2347_1)] [] (lenOf pd_3 rfl) rfl rfl (by decide) 0 rfl (by decide) (by decide) (by decide) (dB at_171) 174 rfl (fun r2348 T2348 L2348 X2348 q2348 => ?_)
         obtain ⟨z2348, rfl, f2348, Nq2348, eq2348⟩ := q2348
         have N2348 := Fr.app N2347 Nq2348
         dsimp only [oD1, oD2, oD3, oD4]
         refine w_istore X2348 hx (dB at_174) 176 rfl #[.val (.int xp), .val (.int xq), .val (.int xr), .val (.int (5 : Int32)), .val (.int (2 : Int32)), .val (.int (0 : Int32)), .val (.int (1 : Int32)), .val (.int (1 : Int32)), .val (.int (1 : Int32)), .val (.int (0 : Int32)), .val (.int j2347_0), .val (.int j2347_1), .val (.ref a2295), .val (.ref a2300), .val (.int z2348)] rfl ?_
         refine w_aload X2348 hx (.ref a2300) (dB at_176) 178 rfl rfl rfl ?_
         refine w_virt X2348 hx hZ hown eq2348 (rm8 l Z a0 hw [] a2300 (3 : Int32) h2347 n0 Z2347 jf2347_2) (tw_48 hw) (tw_49 hw) (notFace_of_selects (args := #[]) (mvT hZ (tw_51 hw))) (tw_51 hw) (tw_50 hw) (tw_19 hw) (tw_52 hw) (by decide) a2300 jf2347_0 (by rw [hml]; rfl) [] [] (lenOf pd_4 rfl) rfl rfl (by decide) 0 rfl (by decide) (by decide) (by decide) (dB at_178) 181 rfl (fun r2349 T2349 L2349 X2349 q2349 => ?_)
         obtain ⟨rfl, Nq2349, eq2349⟩ := q2349
         have N2349 := Fr.app N2348 Nq2349
         dsimp only [oD1, oD2, oD3, oD4]
         refine w_iload X2349 hx z2348 (dB at_181) 183 rfl rfl ?_
         refine w_icmp_ne X2349 hx 3 z2348.toInt (by decide) rfl (dB at_183) 283 186 (fun c2350 => ?_) (fun c2350 => ?_)
         ·exfalso; omega
         ·refine w_aload X2349 hx (.ref a2300) (dB at_186) 188 rfl rfl rfl ?_
          refine w_iload X2349 hx (2 : Int32) (dB at_188) 190 rfl rfl ?_
          refine w_virt X2349 hx hZ hown eq2349 (rm9i2 l Z a0 hw [] a2300 va2305 kv2305 [(.ref a2295), (.ref a2295), (.ref a2295)] (.ref a2295) h2347 n0 Z2347 jf2347_1 jf2347_3 (by rfl) (by rfl)) (tw_53 hw) (tw_54 hw) (notFace_of_selects (args := #[]) (mvT hZ (tw_56 hw))) (tw_56 hw) (tw_55 hw) (tw_19 hw) (tw_57 hw) (by decide) a2300 jf2347_0 (by rw [hml]; rfl) [(.int (2 : Int32))] [] (lenOf pd_5 rfl) rfl rfl (by decide) 0 rfl (by decide) (by decide) (by decide) (dB at_190) 193 rfl (fun r2351 T2351 L2351 X2351 q2351 => ?_)
          obtain ⟨rfl, Nq2351, eq2351⟩ := q2351
          have N2351 := Fr.app N2349 Nq2351
          dsimp only [oD1, oD2, oD3, oD4]
          refine w_aload X2351 hx (.ref a2295) (dB at_193) 195 rfl rfl rfl ?_
          refine w_acmp X2351 hx rfl rfl (dB at_195) true (decide_eq_true rfl) 198 (by decide) (by decide) ?_
          refine w_iconst X2351 hx (dB at_198) 199 rfl (1 : Int32) (by decide) ?_
          refine w_goto X2351 hx (dB at_199) 203 ?_
          refine w_iconst X2351 hx (dB at_203) 204 rfl (0 : Int32) (by decide) ?_
          refine w_iload X2351 hx z2348 (dB at_204) 206 rfl rfl ?_
          refine w_icmp_ge X2351 hx 0 z2348.toInt (by decide) rfl (dB at_206) 213 209 (fun c2352 => ?_) (fun c2352 => ?_)
          ·exfalso; omega
          ·refine w_iconst X2351 hx (dB at_209) 210 rfl (1 : Int32) (by decide) ?_
           refine w_goto X2351 hx (dB at_210) 214 ?_
           refine w_icmp_ne X2351 hx 1 1 (by decide) (by decide) (dB at_214) 283 217 (fun c2353 => ?_) (fun c2353 => ?_)
           ·exfalso; omega
           ·refine w_aload X2351 hx (.ref a2300) (dB at_217) 219 rfl rfl rfl ?_
            refine w_iload X2351 hx (1 : Int32) (dB at_219) 221 rfl rfl ?_
            refine w_virt X2351 hx hZ hown eq2351 (rm9i1 l Z a0 hw [] a2300 va2305 kv2305 [(.ref a2295), (.ref a2295), (.ref a2295)] (.ref a2295) h2347 n0 Z2347 jf2347_1 jf2347_3 (by rfl) (by rfl)) (tw_53 hw) (tw_54 hw) (notFace_of_selects (args := #[]) (mvT hZ (tw_56 hw))) (tw_56 hw) (tw_55 hw) (tw_19 hw) (tw_57 hw) (by decide) a2300 jf2347_0 (by rw [hml]; rfl) [(.int (1 : Int32))] [] (lenOf pd_5 rfl) rfl rfl (by decide) 0 rfl (by decide) (by decide) (by decide) (dB at_221) 224 rfl (fun r2354 T2354 L2354 X2354 q2354 => ?_)
            obtain ⟨rfl, Nq2354, eq2354⟩ := q2354
            have N2354 := Fr.app N2351 Nq2354
            dsimp only [oD1, oD2, oD3, oD4]
            refine w_aload X2354 hx (.ref a2295) (dB at_224) 226 rfl rfl rfl ?_
            refine w_acmp X2354 hx rfl rfl (dB at_226) true (decide_eq_true rfl) 229 (by decide) (by decide) ?_
            refine w_iconst X2354 hx (dB at_229) 230 rfl (1 : Int32) (by decide) ?_
            refine w_goto X2354 hx (dB at_230) 234 ?_
            refine w_iconst X2354 hx (dB at_234) 235 rfl (1 : Int32) (by decide) ?_
            refine w_iload X2354 hx z2348 (dB at_235) 237 rfl rfl ?_
            refine w_icmp_ge X2354 hx 1 z2348.toInt (by decide) rfl (dB at_237) 244 240 (fun c2355 => ?_) (fun c2355 => ?_)
            ·exfalso; omega
            ·refine w_iconst X2354 hx (dB at_240) 241 rfl (1 : Int32) (by decide) ?_
             refine w_goto X2354 hx (dB at_241) 245 ?_
             refine w_icmp_ne X2354 hx 1 1 (by decide) (by decide) (dB at_245) 283 248 (fun c2356 => ?_) (fun c2356 => ?_)
             ·exfalso; omega
             ·refine w_aload X2354 hx (.ref a2300) (dB at_248) 250 rfl rfl rfl ?_
              refine w_iload X2354 hx (0 : Int32) (dB at_250) 252 rfl rfl ?_
              refine w_virt X2354 hx hZ hown eq2354 (rm9i0 l Z a0 hw [] a2300 va2305 kv2305 [(.ref a2295), (.ref a2295), (.ref a2295)] (.ref a2295) h2347 n0 Z2347 jf2347_1 jf2347_3 (by rfl) (by rfl)) (tw_53 hw) (tw_54 hw) (notFace_of_selects (args := #[]) (mvT hZ (tw_56 hw))) (tw_56 hw) (tw_55 hw) (tw_19 hw) (tw_57 hw) (by decide) a2300 jf2347_0 (by rw [hml]; rfl) [(.int (0 : Int32))] [] (lenOf pd_5 rfl) rfl rfl (by decide) 0 rfl (by decide) (by decide) (by decide) (dB at_252) 255 rfl (fun r2357 T2357 L2357 X2357 q2357 => ?_)
              obtain ⟨rfl, Nq2357, eq2357⟩ := q2357
              have N2357 := Fr.app N2354 Nq2357
              dsimp only [oD1, oD2, oD3, oD4]
              refine w_aload X2357 hx (.ref a2295) (dB at_255) 257 rfl rfl rfl ?_
              refine w_acmp X2357 hx rfl rfl (dB at_257) true (decide_eq_true rfl) 260 (by decide) (by decide) ?_
              refine w_iconst X2357 hx (dB at_260) 261 rfl (1 : Int32) (by decide) ?_
              refine w_goto X2357 hx (dB at_261) 265 ?_
              refine w_iconst X2357 hx (dB at_265) 266 rfl (2 : Int32) (by decide) ?_
              refine w_iload X2357 hx z2348 (dB at_266) 268 rfl rfl ?_
              refine w_icmp_ge X2357 hx 2 z2348.toInt (by decide) rfl (dB at_268) 275 271 (fun c2358 => ?_) (fun c2358 => ?_)
              ·exfalso; omega
              ·refine w_iconst X2357 hx (dB at_271) 272 rfl (1 : Int32) (by decide) ?_
               refine w_goto X2357 hx (dB at_272) 276 ?_
               refine w_icmp_ne X2357 hx 1 1 (by decide) (by decide) (dB at_276) 283 279 (fun c2359 => ?_) (fun c2359 => ?_)
               ·exfalso; omega
               ·refine w_iconst X2357 hx (dB at_279) 280 rfl (1 : Int32) (by decide) ?_
                refine w_goto X2357 hx (dB at_280) 284 ?_
                refine w_retN X2357 hx hlk (t := .boolean) hret (by simp) (dB at_284) (by decide) (by decide) ?_
                rw [eq2357]
                exact ⟨rfl, N2357⟩
        have s2360 : v2292.toInt = 0 ∨ v2292.toInt = 1 ∨ v2292.toInt = 2 ∨ v2292.toInt = 3 := by omega
        rcases s2360 with s2360 | s2360 | s2360 | s2360
        ·obtain rfl : v2292 = (0 : Int32) := eqI (s2360.trans (by decide))
         have z2360 : (0 : Int32).toInt = 0 := by decide
         refine w_iload X2305 hx (0 : Int32) (dB at_116) 118 rfl rfl ?_
         refine w_if_le X2305 hx 0 (by decide) (dB at_118) 130 121 (fun c2361 => ?_) (fun c2361 => ?_)
         ·refine w_iload X2305 hx (0 : Int32) (dB at_130) 132 rfl rfl ?_
          refine w_iconst X2305 hx (dB at_132) 133 rfl (1 : Int32) (by decide) ?_
          refine w_icmp_le X2305 hx 0 1 (by decide) (by decide) (dB at_133) 145 136 (fun c2362 => ?_) (fun c2362 => ?_)
          ·refine w_iload X2305 hx (0 : Int32) (dB at_145) 147 rfl rfl ?_
           refine w_iconst X2305 hx (dB at_147) 148 rfl (2 : Int32) (by decide) ?_
           refine w_icmp_le X2305 hx 0 2 (by decide) (by decide) (dB at_148) 160 151 (fun c2363 => ?_) (fun c2363 => ?_)
           ·refine w_aload X2305 hx (.ref a2300) (dB at_160) 162 rfl rfl rfl ?_
            refine w_iload X2305 hx v2294 (dB at_162) 164 rfl rfl ?_
            refine w_virt X2305 hx hZ hown rfl (rm6ge0 l Z a0 hw [] a2300 v2294 T2305.heap n0 Z2305 G2305_2 (by omega)) (tw_39 hw) (tw_40 hw) (notFace_of_selects (args := #[]) (mvT hZ (tw_42 hw))) (tw_42 hw) (tw_41 hw) (tw_19 hw) (tw_43 hw) (by decide) a2300 F2307 (by rw [hml]; rfl) [(.int v2294)] [] (lenOf pd_2 rfl) rfl rfl (by decide) 0 rfl (by decide) (by decide) (by decide) (dB at_164) 167 rfl (fun r2365 T2365 L2365 X2365 q2365 => ?_)
            obtain ⟨rfl, Nq2365, eq2365⟩ := q2365
            have N2365 := Fr.app N2305 Nq2365
            dsimp only [oD1, oD2, oD3, oD4]
            exact J2308 _ _ _ (X2365.more (by decide) (by decide)) eq2365 N2365 Z2305 K2305 (0 : Int32) v2294  F2307 G2305_0 G2305_2 G2305_3 (by have hz1 : (0 : Int32).toInt = 0 := (by decide); omega)
           ·exfalso; omega
          ·exfalso; omega
         ·exfalso; omega
        ·obtain rfl : v2292 = (1 : Int32) := eqI (s2360.trans (by decide))
         have z2360 : (1 : Int32).toInt = 1 := by decide
         refine w_iload X2305 hx (1 : Int32) (dB at_116) 118 rfl rfl ?_
         refine w_if_le X2305 hx 1 (by decide) (dB at_118) 130 121 (fun c2366 => ?_) (fun c2366 => ?_)
         ·exfalso; omega
         ·refine w_aload X2305 hx (.ref a2300) (dB at_121) 123 rfl rfl rfl ?_
          refine w_iload X2305 hx (2 : Int32) (dB at_123) 125 rfl rfl ?_
          refine w_aload X2305 hx (.ref a2295) (dB at_125) 127 rfl rfl rfl ?_
          refine w_virt X2305 hx hZ hown rfl (rm5ti2 l Z a0 hw [] a2300 a2295 va2305 ta2305 kv2305 kt2305 T2305.heap n0 Z2305 F2307 G2305_0 G2305_1 G2305_2 G2305_3 G2305_4 F2306 g_a2300 g_ta2305 g_va2305 (by exact nq2305_0) (by exact ov2305_0)) (tw_31 hw) (tw_32 hw) (notFace_of_selects (args := #[]) (mvT hZ (tw_34 hw))) (tw_34 hw) (tw_33 hw) (tw_19 hw) (tw_35 hw) (by decide) a2300 F2307 (by rw [hml]; rfl) [(.int (2 : Int32)), (.ref a2295)] [] (lenOf pd_6 rfl) rfl rfl (by decide) 0 rfl (by decide) (by decide) (by decide) (dB at_127) 130 rfl (fun r2367 T2367 L2367 X2367 q2367 => ?_)
          obtain ⟨rfl, Nq2367, Kq2367, G2367_0, G2367_1, G2367_2, G2367_3, G2367_4⟩ := q2367
          have N2367 := Fr.app N2305 Nq2367
          have F2368 : Exa Z T2367.heap a2295 cN_1 := F2306.keep Kq2367
          have F2369 : Exa Z T2367.heap a2300 cN_2 := F2307.keep Kq2367
          have Z2367 : n0 ≤ T2367.heap.size := Nat.le_trans Z2305 Kq2367.1
          have K2367 : Keep h0 T2367.heap [] := K2305.trans Kq2367 (allS (Or.inr s_a2300) (allS (Or.inr s_ta2305) (allS (Or.inr s_va2305) all0)))
          dsimp only [oD1, oD2, oD3, oD4]
          refine w_iload X2367 hx (1 : Int32) (dB at_130) 132 rfl rfl ?_
          refine w_iconst X2367 hx (dB at_132) 133 rfl (1 : Int32) (by decide) ?_
          refine w_icmp_le X2367 hx 1 1 (by decide) (by decide) (dB at_133) 145 136 (fun c2370 => ?_) (fun c2370 => ?_)
          ·refine w_iload X2367 hx (1 : Int32) (dB at_145) 147 rfl rfl ?_
           refine w_iconst X2367 hx (dB at_147) 148 rfl (2 : Int32) (by decide) ?_
           refine w_icmp_le X2367 hx 1 2 (by decide) (by decide) (dB at_148) 160 151 (fun c2371 => ?_) (fun c2371 => ?_)
           ·have s2372 : v2294.toInt = 0 ∨ 1 ≤ v2294.toInt := by omega
            rcases s2372 with s2372 | s2372
            ·obtain rfl : v2294 = (0 : Int32) := eqI (s2372.trans (by decide))
             have z2372 : (0 : Int32).toInt = 0 := by decide
             refine w_aload X2367 hx (.ref a2300) (dB at_160) 162 rfl rfl rfl ?_
             refine w_iload X2367 hx (0 : Int32) (dB at_162) 164 rfl rfl ?_
             refine w_virt X2367 hx hZ hown rfl (rm6t2m0 l Z a0 hw [] a2300 va2305 ta2305 kv2305 kt2305 a2295 T2367.heap n0 Z2367 F2369 G2367_0 G2367_1 G2367_2 G2367_3 G2367_4 g_a2300 g_va2305 (by exact nq2305_0) (by exact ov2305_0)) (tw_39 hw) (tw_40 hw) (notFace_of_selects (args := #[]) (mvT hZ (tw_42 hw))) (tw_42 hw) (tw_41 hw) (tw_19 hw) (tw_43 hw) (by decide) a2300 F2369 (by rw [hml]; rfl) [(.int (0 : Int32))] [] (lenOf pd_2 rfl) rfl rfl (by decide) 0 rfl (by decide) (by decide) (by decide) (dB at_164) 167 rfl (fun r2373 T2373 L2373 X2373 q2373 => ?_)
             obtain ⟨rfl, Nq2373, Kq2373, G2373_0, G2373_1, G2373_2, G2373_3, G2373_4⟩ := q2373
             have N2373 := Fr.app N2367 Nq2373
             have F2374 : Exa Z T2373.heap a2295 cN_1 := F2368.keep Kq2373
             have F2375 : Exa Z T2373.heap a2300 cN_2 := F2369.keep Kq2373
             have F2376 : Arv Z T2373.heap ta2305 kt2305 .int (3 : Int32) [(.int (2 : Int32)), (.int (0 : Int32)), (.int (0 : Int32))] (.int (0 : Int32)) := G2367_4.keep Kq2373 (ninS (Ne.symm ne_a2300_ta2305) (ninS (Ne.symm nq2305_0) nin0))
             have Z2373 : n0 ≤ T2373.heap.size := Nat.le_trans Z2367 Kq2373.1
             have K2373 : Keep h0 T2373.heap [] := K2367.trans Kq2373 (allS (Or.inr s_a2300) (allS (Or.inr s_va2305) all0))
             dsimp only [oD1, oD2, oD3, oD4]
             exact J2308 _ _ _ (X2373.more (by decide) (by decide)) rfl N2373 Z2373 K2373 (1 : Int32) (0 : Int32)  F2375 G2373_0 G2373_2 G2373_3 (by have hz1 : (1 : Int32).toInt = 1 := (by decide); have hz2 : (0 : Int32).toInt = 0 := (by decide); omega)
            ·have z2372 := s2372
             refine w_aload X2367 hx (.ref a2300) (dB at_160) 162 rfl rfl rfl ?_
             refine w_iload X2367 hx v2294 (dB at_162) 164 rfl rfl ?_
             refine w_virt X2367 hx hZ hown rfl (rm6ge1 l Z a0 hw [] a2300 v2294 T2367.heap n0 Z2367 G2367_2 (by omega)) (tw_39 hw) (tw_40 hw) (notFace_of_selects (args := #[]) (mvT hZ (tw_42 hw))) (tw_42 hw) (tw_41 hw) (tw_19 hw) (tw_43 hw) (by decide) a2300 F2369 (by rw [hml]; rfl) [(.int v2294)] [] (lenOf pd_2 rfl) rfl rfl (by decide) 0 rfl (by decide) (by decide) (by decide) (dB at_164) 167 rfl (fun r2377 T2377 L2377 X2377 q2377 => ?_)
             obtain ⟨rfl, Nq2377, eq2377⟩ := q2377
             have N2377 := Fr.app N2367 Nq2377
             dsimp only [oD1, oD2, oD3, oD4]
             exact J2321 _ _ _ (X2377.more (by decide) (by decide)) eq2377 N2377 Z2367 K2367 (1 : Int32) v2294  F2369 G2367_0 G2367_2 G2367_3 (by have hz1 : (1 : Int32).toInt = 1 := (by decide); omega)
           ·exfalso; omega
          ·exfalso; omega
        ·obtain rfl : v2292 = (2 : Int32) := eqI (s2360.trans (by decide))
         have z2360 : (2 : Int32).toInt = 2 := by decide
         refine w_iload X2305 hx (2 : Int32) (dB at_116) 118 rfl rfl ?_
         refine w_if_le X2305 hx 2 (by decide) (dB at_118) 130 121 (fun c2378 => ?_) (fun c2378 => ?_)
         ·exfalso; omega
         ·refine w_aload X2305 hx (.ref a2300) (dB at_121) 123 rfl rfl rfl ?_
          refine w_iload X2305 hx (2 : Int32) (dB at_123) 125 rfl rfl ?_
          refine w_aload X2305 hx (.ref a2295) (dB at_125) 127 rfl rfl rfl ?_
          refine w_virt X2305 hx hZ hown rfl (rm5ti2 l Z a0 hw [] a2300 a2295 va2305 ta2305 kv2305 kt2305 T2305.heap n0 Z2305 F2307 G2305_0 G2305_1 G2305_2 G2305_3 G2305_4 F2306 g_a2300 g_ta2305 g_va2305 (by exact nq2305_0) (by exact ov2305_0)) (tw_31 hw) (tw_32 hw) (notFace_of_selects (args := #[]) (mvT hZ (tw_34 hw))) (tw_34 hw) (tw_33 hw) (tw_19 hw) (tw_35 hw) (by decide) a2300 F2307 (by rw [hml]; rfl) [(.int (2 : Int32)), (.ref a2295)] [] (lenOf pd_6 rfl) rfl rfl (by decide) 0 rfl (by decide) (by decide) (by decide) (dB at_127) 130 rfl (fun r2379 T2379 L2379 X2379 q2379 => ?_)
          obtain ⟨rfl, Nq2379, Kq2379, G2379_0, G2379_1, G2379_2, G2379_3, G2379_4⟩ := q2379
          have N2379 := Fr.app N2305 Nq2379
          have F2380 : Exa Z T2379.heap a2295 cN_1 := F2306.keep Kq2379
          have F2381 : Exa Z T2379.heap a2300 cN_2 := F2307.keep Kq2379
          have Z2379 : n0 ≤ T2379.heap.size := Nat.le_trans Z2305 Kq2379.1
          have K2379 : Keep h0 T2379.heap [] := K2305.trans Kq2379 (allS (Or.inr s_a2300) (allS (Or.inr s_ta2305) (allS (Or.inr s_va2305) all0)))
          dsimp only [oD1, oD2, oD3, oD4]
          refine w_iload X2379 hx (2 : Int32) (dB at_130) 132 rfl rfl ?_
          refine w_iconst X2379 hx (dB at_132) 133 rfl (1 : Int32) (by decide) ?_
          refine w_icmp_le X2379 hx 2 1 (by decide) (by decide) (dB at_133) 145 136 (fun c2382 => ?_) (fun c2382 => ?_)
          ·exfalso; omega
          ·refine w_aload X2379 hx (.ref a2300) (dB at_136) 138 rfl rfl rfl ?_
           refine w_iload X2379 hx (1 : Int32) (dB at_138) 140 rfl rfl ?_
           refine w_aload X2379 hx (.ref a2295) (dB at_140) 142 rfl rfl rfl ?_
           refine w_virt X2379 hx hZ hown rfl (rm5t2i1 l Z a0 hw [] a2300 a2295 va2305 ta2305 kv2305 kt2305 T2379.heap n0 Z2379 F2381 G2379_0 G2379_1 G2379_2 G2379_3 G2379_4 F2380 g_a2300 g_ta2305 g_va2305 (by exact nq2305_0) (by exact ov2305_0)) (tw_31 hw) (tw_32 hw) (notFace_of_selects (args := #[]) (mvT hZ (tw_34 hw))) (tw_34 hw) (tw_33 hw) (tw_19 hw) (tw_35 hw) (by decide) a2300 F2381 (by rw [hml]; rfl) [(.int (1 : Int32)), (.ref a2295)] [] (lenOf pd_6 rfl) rfl rfl (by decide) 0 rfl (by decide) (by decide) (by decide) (dB at_142) 145 rfl (fun r2383 T2383 L2383 X2383 q2383 => ?_)
           obtain ⟨rfl, Nq2383, Kq2383, G2383_0, G2383_1, G2383_2, G2383_3, G2383_4⟩ := q2383
           have N2383 := Fr.app N2379 Nq2383
           have F2384 : Exa Z T2383.heap a2295 cN_1 := F2380.keep Kq2383
           have F2385 : Exa Z T2383.heap a2300 cN_2 := F2381.keep Kq2383
           have Z2383 : n0 ≤ T2383.heap.size := Nat.le_trans Z2379 Kq2383.1
           have K2383 : Keep h0 T2383.heap [] := K2379.trans Kq2383 (allS (Or.inr s_a2300) (allS (Or.inr s_ta2305) (allS (Or.inr s_va2305) all0)))
           dsimp only [oD1, oD2, oD3, oD4]
           refine w_iload X2383 hx (2 : Int32) (dB at_145) 147 rfl rfl ?_
           refine w_iconst X2383 hx (dB at_147) 148 rfl (2 : Int32) (by decide) ?_
           refine w_icmp_le X2383 hx 2 2 (by decide) (by decide) (dB at_148) 160 151 (fun c2386 => ?_) (fun c2386 => ?_)
           ·have s2387 : v2294.toInt = 0 ∨ v2294.toInt = 1 ∨ 2 ≤ v2294.toInt := by omega
            rcases s2387 with s2387 | s2387 | s2387
            ·obtain rfl : v2294 = (0 : Int32) := eqI (s2387.trans (by decide))
             have z2387 : (0 : Int32).toInt = 0 := by decide
             refine w_aload X2383 hx (.ref a2300) (dB at_160) 162 rfl rfl rfl ?_
             refine w_iload X2383 hx (0 : Int32) (dB at_162) 164 rfl rfl ?_
             refine w_virt X2383 hx hZ hown rfl (rm6t21m0 l Z a0 hw [] a2300 va2305 ta2305 kv2305 kt2305 a2295 T2383.heap n0 Z2383 F2385 G2383_0 G2383_1 G2383_2 G2383_3 G2383_4 g_a2300 g_va2305 (by exact nq2305_0) (by exact ov2305_0)) (tw_39 hw) (tw_40 hw) (notFace_of_selects (args := #[]) (mvT hZ (tw_42 hw))) (tw_42 hw) (tw_41 hw) (tw_19 hw) (tw_43 hw) (by decide) a2300 F2385 (by rw [hml]; rfl) [(.int (0 : Int32))] [] (lenOf pd_2 rfl) rfl rfl (by decide) 0 rfl (by decide) (by decide) (by decide) (dB at_164) 167 rfl (fun r2388 T2388 L2388 X2388 q2388 => ?_)
             obtain ⟨rfl, Nq2388, Kq2388, G2388_0, G2388_1, G2388_2, G2388_3, G2388_4⟩ := q2388
             have N2388 := Fr.app N2383 Nq2388
             have F2389 : Exa Z T2388.heap a2295 cN_1 := F2384.keep Kq2388
             have F2390 : Exa Z T2388.heap a2300 cN_2 := F2385.keep Kq2388
             have F2391 : Arv Z T2388.heap ta2305 kt2305 .int (3 : Int32) [(.int (2 : Int32)), (.int (1 : Int32)), (.int (0 : Int32))] (.int (0 : Int32)) := G2383_4.keep Kq2388 (ninS (Ne.symm ne_a2300_ta2305) (ninS (Ne.symm nq2305_0) nin0))
             have Z2388 : n0 ≤ T2388.heap.size := Nat.le_trans Z2383 Kq2388.1
             have K2388 : Keep h0 T2388.heap [] := K2383.trans Kq2388 (allS (Or.inr s_a2300) (allS (Or.inr s_va2305) all0))
             dsimp only [oD1, oD2, oD3, oD4]
             exact J2308 _ _ _ (X2388.more (by decide) (by decide)) rfl N2388 Z2388 K2388 (2 : Int32) (0 : Int32)  F2390 G2388_0 G2388_2 G2388_3 (by have hz1 : (2 : Int32).toInt = 2 := (by decide); have hz2 : (0 : Int32).toInt = 0 := (by decide); omega)
            ·obtain rfl : v2294 = (1 : Int32) := eqI (s2387.trans (by decide))
             have z2387 : (1 : Int32).toInt = 1 := by decide
             refine w_aload X2383 hx (.ref a2300) (dB at_160) 162 rfl rfl rfl ?_
             refine w_iload X2383 hx (1 : Int32) (dB at_162) 164 rfl rfl ?_
             refine w_virt X2383 hx hZ hown rfl (rm6t21m1 l Z a0 hw [] a2300 va2305 ta2305 kv2305 kt2305 a2295 T2383.heap n0 Z2383 F2385 G2383_0 G2383_1 G2383_2 G2383_3 G2383_4 g_a2300 g_va2305 (by exact nq2305_0) (by exact ov2305_0)) (tw_39 hw) (tw_40 hw) (notFace_of_selects (args := #[]) (mvT hZ (tw_42 hw))) (tw_42 hw) (tw_41 hw) (tw_19 hw) (tw_43 hw) (by decide) a2300 F2385 (by rw [hml]; rfl) [(.int (1 : Int32))] [] (lenOf pd_2 rfl) rfl rfl (by decide) 0 rfl (by decide) (by decide) (by decide) (dB at_164) 167 rfl (fun r2392 T2392 L2392 X2392 q2392 => ?_)
             obtain ⟨rfl, Nq2392, Kq2392, G2392_0, G2392_1, G2392_2, G2392_3, G2392_4⟩ := q2392
             have N2392 := Fr.app N2383 Nq2392
             have F2393 : Exa Z T2392.heap a2295 cN_1 := F2384.keep Kq2392
             have F2394 : Exa Z T2392.heap a2300 cN_2 := F2385.keep Kq2392
             have F2395 : Arv Z T2392.heap ta2305 kt2305 .int (3 : Int32) [(.int (2 : Int32)), (.int (1 : Int32)), (.int (0 : Int32))] (.int (0 : Int32)) := G2383_4.keep Kq2392 (ninS (Ne.symm ne_a2300_ta2305) (ninS (Ne.symm nq2305_0) nin0))
             have Z2392 : n0 ≤ T2392.heap.size := Nat.le_trans Z2383 Kq2392.1
             have K2392 : Keep h0 T2392.heap [] := K2383.trans Kq2392 (allS (Or.inr s_a2300) (allS (Or.inr s_va2305) all0))
             dsimp only [oD1, oD2, oD3, oD4]
             exact J2321 _ _ _ (X2392.more (by decide) (by decide)) rfl N2392 Z2392 K2392 (2 : Int32) (1 : Int32)  F2394 G2392_0 G2392_2 G2392_3 (by have hz1 : (2 : Int32).toInt = 2 := (by decide); have hz2 : (1 : Int32).toInt = 1 := (by decide); omega)
            ·have z2387 := s2387
             refine w_aload X2383 hx (.ref a2300) (dB at_160) 162 rfl rfl rfl ?_
             refine w_iload X2383 hx v2294 (dB at_162) 164 rfl rfl ?_
             refine w_virt X2383 hx hZ hown rfl (rm6ge2 l Z a0 hw [] a2300 v2294 T2383.heap n0 Z2383 G2383_2 (by omega)) (tw_39 hw) (tw_40 hw) (notFace_of_selects (args := #[]) (mvT hZ (tw_42 hw))) (tw_42 hw) (tw_41 hw) (tw_19 hw) (tw_43 hw) (by decide) a2300 F2385 (by rw [hml]; rfl) [(.int v2294)] [] (lenOf pd_2 rfl) rfl rfl (by decide) 0 rfl (by decide) (by decide) (by decide) (dB at_164) 167 rfl (fun r2396 T2396 L2396 X2396 q2396 => ?_)
             obtain ⟨rfl, Nq2396, eq2396⟩ := q2396
             have N2396 := Fr.app N2383 Nq2396
             dsimp only [oD1, oD2, oD3, oD4]
             exact J2334 _ _ _ (X2396.more (by decide) (by decide)) eq2396 N2396 Z2383 K2383 (2 : Int32) v2294  F2385 G2383_0 G2383_2 G2383_3 (by have hz1 : (2 : Int32).toInt = 2 := (by decide); omega)
           ·exfalso; omega
        ·obtain rfl : v2292 = (3 : Int32) := eqI (s2360.trans (by decide))
         have z2360 : (3 : Int32).toInt = 3 := by decide
         refine w_iload X2305 hx (3 : Int32) (dB at_116) 118 rfl rfl ?_
         refine w_if_le X2305 hx 3 (by decide) (dB at_118) 130 121 (fun c2397 => ?_) (fun c2397 => ?_)
         ·exfalso; omega
         ·refine w_aload X2305 hx (.ref a2300) (dB at_121) 123 rfl rfl rfl ?_
          refine w_iload X2305 hx (2 : Int32) (dB at_123) 125 rfl rfl ?_
          refine w_aload X2305 hx (.ref a2295) (dB at_125) 127 rfl rfl rfl ?_
          refine w_virt X2305 hx hZ hown rfl (rm5ti2 l Z a0 hw [] a2300 a2295 va2305 ta2305 kv2305 kt2305 T2305.heap n0 Z2305 F2307 G2305_0 G2305_1 G2305_2 G2305_3 G2305_4 F2306 g_a2300 g_ta2305 g_va2305 (by exact nq2305_0) (by exact ov2305_0)) (tw_31 hw) (tw_32 hw) (notFace_of_selects (args := #[]) (mvT hZ (tw_34 hw))) (tw_34 hw) (tw_33 hw) (tw_19 hw) (tw_35 hw) (by decide) a2300 F2307 (by rw [hml]; rfl) [(.int (2 : Int32)), (.ref a2295)] [] (lenOf pd_6 rfl) rfl rfl (by decide) 0 rfl (by decide) (by decide) (by decide) (dB at_127) 130 rfl (fun r2398 T2398 L2398 X2398 q2398 => ?_)
          obtain ⟨rfl, Nq2398, Kq2398, G2398_0, G2398_1, G2398_2, G2398_3, G2398_4⟩ := q2398
          have N2398 := Fr.app N2305 Nq2398
          have F2399 : Exa Z T2398.heap a2295 cN_1 := F2306.keep Kq2398
          have F2400 : Exa Z T2398.heap a2300 cN_2 := F2307.keep Kq2398
          have Z2398 : n0 ≤ T2398.heap.size := Nat.le_trans Z2305 Kq2398.1
          have K2398 : Keep h0 T2398.heap [] := K2305.trans Kq2398 (allS (Or.inr s_a2300) (allS (Or.inr s_ta2305) (allS (Or.inr s_va2305) all0)))
          dsimp only [oD1, oD2, oD3, oD4]
          refine w_iload X2398 hx (3 : Int32) (dB at_130) 132 rfl rfl ?_
          refine w_iconst X2398 hx (dB at_132) 133 rfl (1 : Int32) (by decide) ?_
          refine w_icmp_le X2398 hx 3 1 (by decide) (by decide) (dB at_133) 145 136 (fun c2401 => ?_) (fun c2401 => ?_)
          ·exfalso; omega
          ·refine w_aload X2398 hx (.ref a2300) (dB at_136) 138 rfl rfl rfl ?_
           refine w_iload X2398 hx (1 : Int32) (dB at_138) 140 rfl rfl ?_
           refine w_aload X2398 hx (.ref a2295) (dB at_140) 142 rfl rfl rfl ?_
           refine w_virt X2398 hx hZ hown rfl (rm5t2i1 l Z a0 hw [] a2300 a2295 va2305 ta2305 kv2305 kt2305 T2398.heap n0 Z2398 F2400 G2398_0 G2398_1 G2398_2 G2398_3 G2398_4 F2399 g_a2300 g_ta2305 g_va2305 (by exact nq2305_0) (by exact ov2305_0)) (tw_31 hw) (tw_32 hw) (notFace_of_selects (args := #[]) (mvT hZ (tw_34 hw))) (tw_34 hw) (tw_33 hw) (tw_19 hw) (tw_35 hw) (by decide) a2300 F2400 (by rw [hml]; rfl) [(.int (1 : Int32)), (.ref a2295)] [] (lenOf pd_6 rfl) rfl rfl (by decide) 0 rfl (by decide) (by decide) (by decide) (dB at_142) 145 rfl (fun r2402 T2402 L2402 X2402 q2402 => ?_)
           obtain ⟨rfl, Nq2402, Kq2402, G2402_0, G2402_1, G2402_2, G2402_3, G2402_4⟩ := q2402
           have N2402 := Fr.app N2398 Nq2402
           have F2403 : Exa Z T2402.heap a2295 cN_1 := F2399.keep Kq2402
           have F2404 : Exa Z T2402.heap a2300 cN_2 := F2400.keep Kq2402
           have Z2402 : n0 ≤ T2402.heap.size := Nat.le_trans Z2398 Kq2402.1
           have K2402 : Keep h0 T2402.heap [] := K2398.trans Kq2402 (allS (Or.inr s_a2300) (allS (Or.inr s_ta2305) (allS (Or.inr s_va2305) all0)))
           dsimp only [oD1, oD2, oD3, oD4]
           refine w_iload X2402 hx (3 : Int32) (dB at_145) 147 rfl rfl ?_
           refine w_iconst X2402 hx (dB at_147) 148 rfl (2 : Int32) (by decide) ?_
           refine w_icmp_le X2402 hx 3 2 (by decide) (by decide) (dB at_148) 160 151 (fun c2405 => ?_) (fun c2405 => ?_)
           ·exfalso; omega
           ·refine w_aload X2402 hx (.ref a2300) (dB at_151) 153 rfl rfl rfl ?_
            refine w_iload X2402 hx (0 : Int32) (dB at_153) 155 rfl rfl ?_
            refine w_aload X2402 hx (.ref a2295) (dB at_155) 157 rfl rfl rfl ?_
            refine w_virt X2402 hx hZ hown rfl (rm5t21i0 l Z a0 hw [] a2300 a2295 va2305 ta2305 kv2305 kt2305 T2402.heap n0 Z2402 F2404 G2402_0 G2402_1 G2402_2 G2402_3 G2402_4 F2403 g_a2300 g_ta2305 g_va2305 (by exact nq2305_0) (by exact ov2305_0)) (tw_31 hw) (tw_32 hw) (notFace_of_selects (args := #[]) (mvT hZ (tw_34 hw))) (tw_34 hw) (tw_33 hw) (tw_19 hw) (tw_35 hw) (by decide) a2300 F2404 (by rw [hml]; rfl) [(.int (0 : Int32)), (.ref a2295)] [] (lenOf pd_6 rfl) rfl rfl (by decide) 0 rfl (by decide) (by decide) (by decide) (dB at_157) 160 rfl (fun r2406 T2406 L2406 X2406 q2406 => ?_)
            obtain ⟨rfl, Nq2406, Kq2406, G2406_0, G2406_1, G2406_2, G2406_3, G2406_4⟩ := q2406
            have N2406 := Fr.app N2402 Nq2406
            have F2407 : Exa Z T2406.heap a2295 cN_1 := F2403.keep Kq2406
            have F2408 : Exa Z T2406.heap a2300 cN_2 := F2404.keep Kq2406
            have Z2406 : n0 ≤ T2406.heap.size := Nat.le_trans Z2402 Kq2406.1
            have K2406 : Keep h0 T2406.heap [] := K2402.trans Kq2406 (allS (Or.inr s_a2300) (allS (Or.inr s_ta2305) (allS (Or.inr s_va2305) all0)))
            dsimp only [oD1, oD2, oD3, oD4]
            have s2409 : v2294.toInt = 0 ∨ v2294.toInt = 1 ∨ v2294.toInt = 2 ∨ 3 ≤ v2294.toInt := by omega
            rcases s2409 with s2409 | s2409 | s2409 | s2409
            ·obtain rfl : v2294 = (0 : Int32) := eqI (s2409.trans (by decide))
             have z2409 : (0 : Int32).toInt = 0 := by decide
             refine w_aload X2406 hx (.ref a2300) (dB at_160) 162 rfl rfl rfl ?_
             refine w_iload X2406 hx (0 : Int32) (dB at_162) 164 rfl rfl ?_
             refine w_virt X2406 hx hZ hown rfl (rm6t210m0 l Z a0 hw [] a2300 va2305 ta2305 kv2305 kt2305 a2295 T2406.heap n0 Z2406 F2408 G2406_0 G2406_1 G2406_2 G2406_3 G2406_4 g_a2300 g_va2305 (by exact nq2305_0) (by exact ov2305_0)) (tw_39 hw) (tw_40 hw) (notFace_of_selects (args := #[]) (mvT hZ (tw_42 hw))) (tw_42 hw) (tw_41 hw) (tw_19 hw) (tw_43 hw) (by decide) a2300 F2408 (by rw [hml]; rfl) [(.int (0 : Int32))] [] (lenOf pd_2 rfl) rfl rfl (by decide) 0 rfl (by decide) (by decide) (by decide) (dB at_164) 167 rfl (fun r2410 T2410 L2410 X2410 q2410 => ?_)
             obtain ⟨rfl, Nq2410, Kq2410, G2410_0, G2410_1, G2410_2, G2410_3, G2410_4⟩ := q2410
             have N2410 := Fr.app N2406 Nq2410
             have F2411 : Exa Z T2410.heap a2295 cN_1 := F2407.keep Kq2410
             have F2412 : Exa Z T2410.heap a2300 cN_2 := F2408.keep Kq2410
             have F2413 : Arv Z T2410.heap ta2305 kt2305 .int (3 : Int32) [(.int (2 : Int32)), (.int (1 : Int32)), (.int (0 : Int32))] (.int (0 : Int32)) := G2406_4.keep Kq2410 (ninS (Ne.symm ne_a2300_ta2305) (ninS (Ne.symm nq2305_0) nin0))
             have Z2410 : n0 ≤ T2410.heap.size := Nat.le_trans Z2406 Kq2410.1
             have K2410 : Keep h0 T2410.heap [] := K2406.trans Kq2410 (allS (Or.inr s_a2300) (allS (Or.inr s_va2305) all0))
             dsimp only [oD1, oD2, oD3, oD4]
             exact J2308 _ _ _ (X2410.more (by decide) (by decide)) rfl N2410 Z2410 K2410 (3 : Int32) (0 : Int32)  F2412 G2410_0 G2410_2 G2410_3 (by have hz1 : (3 : Int32).toInt = 3 := (by decide); have hz2 : (0 : Int32).toInt = 0 := (by decide); omega)
            ·obtain rfl : v2294 = (1 : Int32) := eqI (s2409.trans (by decide))
             have z2409 : (1 : Int32).toInt = 1 := by decide
             refine w_aload X2406 hx (.ref a2300) (dB at_160) 162 rfl rfl rfl ?_
             refine w_iload X2406 hx (1 : Int32) (dB at_162) 164 rfl rfl ?_
             refine w_virt X2406 hx hZ hown rfl (rm6t210m1 l Z a0 hw [] a2300 va2305 ta2305 kv2305 kt2305 a2295 T2406.heap n0 Z2406 F2408 G2406_0 G2406_1 G2406_2 G2406_3 G2406_4 g_a2300 g_va2305 (by exact nq2305_0) (by exact ov2305_0)) (tw_39 hw) (tw_40 hw) (notFace_of_selects (args := #[]) (mvT hZ (tw_42 hw))) (tw_42 hw) (tw_41 hw) (tw_19 hw) (tw_43 hw) (by decide) a2300 F2408 (by rw [hml]; rfl) [(.int (1 : Int32))] [] (lenOf pd_2 rfl) rfl rfl (by decide) 0 rfl (by decide) (by decide) (by decide) (dB at_164) 167 rfl (fun r2414 T2414 L2414 X2414 q2414 => ?_)
             obtain ⟨rfl, Nq2414, Kq2414, G2414_0, G2414_1, G2414_2, G2414_3, G2414_4⟩ := q2414
             have N2414 := Fr.app N2406 Nq2414
             have F2415 : Exa Z T2414.heap a2295 cN_1 := F2407.keep Kq2414
             have F2416 : Exa Z T2414.heap a2300 cN_2 := F2408.keep Kq2414
             have F2417 : Arv Z T2414.heap ta2305 kt2305 .int (3 : Int32) [(.int (2 : Int32)), (.int (1 : Int32)), (.int (0 : Int32))] (.int (0 : Int32)) := G2406_4.keep Kq2414 (ninS (Ne.symm ne_a2300_ta2305) (ninS (Ne.symm nq2305_0) nin0))
             have Z2414 : n0 ≤ T2414.heap.size := Nat.le_trans Z2406 Kq2414.1
             have K2414 : Keep h0 T2414.heap [] := K2406.trans Kq2414 (allS (Or.inr s_a2300) (allS (Or.inr s_va2305) all0))
             dsimp only [oD1, oD2, oD3, oD4]
             exact J2321 _ _ _ (X2414.more (by decide) (by decide)) rfl N2414 Z2414 K2414 (3 : Int32) (1 : Int32)  F2416 G2414_0 G2414_2 G2414_3 (by have hz1 : (3 : Int32).toInt = 3 := (by decide); have hz2 : (1 : Int32).toInt = 1 := (by decide); omega)
            ·obtain rfl : v2294 = (2 : Int32) := eqI (s2409.trans (by decide))
             have z2409 : (2 : Int32).toInt = 2 := by decide
             refine w_aload X2406 hx (.ref a2300) (dB at_160) 162 rfl rfl rfl ?_
             refine w_iload X2406 hx (2 : Int32) (dB at_162) 164 rfl rfl ?_
             refine w_virt X2406 hx hZ hown rfl (rm6t210m2 l Z a0 hw [] a2300 va2305 ta2305 kv2305 kt2305 a2295 T2406.heap n0 Z2406 F2408 G2406_0 G2406_1 G2406_2 G2406_3 G2406_4 g_a2300 g_va2305 (by exact nq2305_0) (by exact ov2305_0)) (tw_39 hw) (tw_40 hw) (notFace_of_selects (args := #[]) (mvT hZ (tw_42 hw))) (tw_42 hw) (tw_41 hw) (tw_19 hw) (tw_43 hw) (by decide) a2300 F2408 (by rw [hml]; rfl) [(.int (2 : Int32))] [] (lenOf pd_2 rfl) rfl rfl (by decide) 0 rfl (by decide) (by decide) (by decide) (dB at_164) 167 rfl (fun r2418 T2418 L2418 X2418 q2418 => ?_)
             obtain ⟨rfl, Nq2418, Kq2418, G2418_0, G2418_1, G2418_2, G2418_3, G2418_4⟩ := q2418
             have N2418 := Fr.app N2406 Nq2418
             have F2419 : Exa Z T2418.heap a2295 cN_1 := F2407.keep Kq2418
             have F2420 : Exa Z T2418.heap a2300 cN_2 := F2408.keep Kq2418
             have F2421 : Arv Z T2418.heap ta2305 kt2305 .int (3 : Int32) [(.int (2 : Int32)), (.int (1 : Int32)), (.int (0 : Int32))] (.int (0 : Int32)) := G2406_4.keep Kq2418 (ninS (Ne.symm ne_a2300_ta2305) (ninS (Ne.symm nq2305_0) nin0))
             have Z2418 : n0 ≤ T2418.heap.size := Nat.le_trans Z2406 Kq2418.1
             have K2418 : Keep h0 T2418.heap [] := K2406.trans Kq2418 (allS (Or.inr s_a2300) (allS (Or.inr s_va2305) all0))
             dsimp only [oD1, oD2, oD3, oD4]
             exact J2334 _ _ _ (X2418.more (by decide) (by decide)) rfl N2418 Z2418 K2418 (3 : Int32) (2 : Int32)  F2420 G2418_0 G2418_2 G2418_3 (by have hz1 : (3 : Int32).toInt = 3 := (by decide); have hz2 : (2 : Int32).toInt = 2 := (by decide); omega)
            ·have z2409 := s2409
             refine w_aload X2406 hx (.ref a2300) (dB at_160) 162 rfl rfl rfl ?_
             refine w_iload X2406 hx v2294 (dB at_162) 164 rfl rfl ?_
             refine w_virt X2406 hx hZ hown rfl (rm6ge3 l Z a0 hw [] a2300 v2294 T2406.heap n0 Z2406 G2406_2 (by omega)) (tw_39 hw) (tw_40 hw) (notFace_of_selects (args := #[]) (mvT hZ (tw_42 hw))) (tw_42 hw) (tw_41 hw) (tw_19 hw) (tw_43 hw) (by decide) a2300 F2408 (by rw [hml]; rfl) [(.int v2294)] [] (lenOf pd_2 rfl) rfl rfl (by decide) 0 rfl (by decide) (by decide) (by decide) (dB at_164) 167 rfl (fun r2422 T2422 L2422 X2422 q2422 => ?_)
             obtain ⟨rfl, Nq2422, eq2422⟩ := q2422
             have N2422 := Fr.app N2406 Nq2422
             dsimp only [oD1, oD2, oD3, oD4]
             exact J2347 _ _ _ (X2422.more (by decide) (by decide)) eq2422 N2422 Z2406 K2406 (3 : Int32) v2294  F2408 G2406_0 G2406_2 G2406_3 (by have hz1 : (3 : Int32).toInt = 3 := (by decide); omega)
   ·exfalso; omega
set_option maxRecDepth 65536 in
set_option maxHeartbeats 40000000 in
theorem comes_1 {Post : Tables → Env → Array Value → State → Outcome → State → Prop} (hpost : ∀ tb e args s v u, (limb_1_1.after args s (.returned v) u = true ∧ limb_1_2.after args s (.returned v) u = true ∧ True) → FrameEnd s (.returned v) u (Jvm.fieldLocs frame_1_writes args s ++ Jvm.arrayLocs frame_1_arrays args s ++ Jvm.staticLocs frame_1_statics s) 16 128 → Post tb e args s (.returned v) u) :
    ArmFor flags0 classFile x code maxLocals ret World_1 tables_1 room_1 Calls_1 rest_1 Pre_1 Post := by
  intro l hfl _ _ p e ha hc hk s m args below hf hA hF happ hP
  obtain ⟨hcalls, hrest, hpre⟩ := hP
  obtain ⟨-, -, -, hnamed, -, -, -, hat⟩ := (Spec.applies_iff hf).mp happ
  obtain ⟨hg, hn⟩ := and_e (Cond.before_iff.mp (show (Jvm.Cond.and given_1 narrow_1).before args s = true from hpre))
  obtain ⟨gg1, gg2⟩ := and_e hg
  obtain ⟨gg3, gg4⟩ := and_e gg2
  obtain ⟨gg5, gg6⟩ := and_e gg4
  obtain ⟨w0, w1, w2, rfl⟩ : ∃ w0 w1 w2 : Value, args = #[w0, w1, w2] := by
    have hs : args.size = 3 := by simpa [Cond.value, given_1] using gg1
    obtain ⟨L⟩ := args
    match L, hs with
    | [w0, w1, w2], _ => exact ⟨w0, w1, w2, rfl⟩
  have hw := fun d (hd : d ∈ tables_1) => atoms_spec (ws := Jvm.Cond.code x code maxLocals ret :: tables_1) hat d (List.mem_cons_of_mem _ hd)
  have hfit : Fit s := fun {y c} hc i hi => by
    obtain ⟨ha, rfl⟩ := Array.getElem?_eq_some_iff.mp hc
    have q := List.all_eq_true.mp ((Array.all_eq_true_iff_forall_mem.mp hF) _ (Array.getElem_mem ha)) i (List.mem_range.mpr hi)
    simpa [Array.getElem?_eq_getElem hi] using q
  obtain ⟨i0, ei0⟩ := is_v gg3
  obtain rfl : w0 = (.int i0) := Option.some.inj ei0
  obtain ⟨i1, ei1⟩ := is_v gg5
  obtain rfl : w1 = (.int i1) := Option.some.inj ei1
  obtain ⟨i2, ei2⟩ := is_v gg6
  obtain rfl : w2 = (.int i2) := Option.some.inj ei2
  obtain ⟨n, o, h1, h2, h3, _, L, rfl, ⟨rfl, N⟩, hq⟩ := rm0 l s _ hw tables_1 i0 i1 i2 s.heap s.heap.size (Nat.le_refl _) p e ha hc hk s m _ below hf ((Spec.applies_iff_loose hf).mp happ).1 ⟨rfl, State.Warmed39.refl s, rfl⟩ trivial
  refine ⟨n, _, h1, h2, h3, hpost _ _ _ _ _ _ ⟨Cond.after_iff.mpr rfl, Cond.after_iff.mpr (eq_i res_at (Term.int_eval (1)) rfl), trivial⟩ ⟨hq.1, hq.2.1, (hq.2.2.sift fun y hy => Or.inr (N y hy)).mono (by decide) (by decide)⟩⟩
theorem main_1_1 : Claimed_1_1 := comes_1 fun _ _ _ _ _ _ h hF => ⟨h.1, hF⟩
theorem main_1_2 : Claimed_1_2 := comes_1 fun _ _ _ _ _ _ h hF => ⟨h.2.1, hF⟩
end Jvm.Pilot.@@N@@
namespace Jvm.Pilot.@@N@@
open Jvm Jvm.ClassFile Sem Op Lib Jvm.Free Jvm.Stand Jvm.Pilot.@@N@@.Jvm.D
/-! MADE BY PROGRAM (witnessworld.py) out of the Statement's table words and the real class files: 14 classes; the members and pool entries that the words name. The judged class is class 1, her method 1. -/
namespace start1
open Jvm.ClassFile
def u (s : String) : CpInfo := .utf8 (stringToUtf16 s)
/-- a pool by its gaps: so many unusable entries, then the entry; so many at the end -/
def gap : Nat → List CpInfo → List CpInfo
  | 0, r => r
  | n + 1, r => .unusable :: gap n r
def poolList (es : List (Nat × CpInfo)) (last : Nat) : List CpInfo := es.foldr (fun e r => gap e.1 (e.2 :: r)) (gap last [])
def pool (es : List (Nat × CpInfo)) (last : Nat) : Array CpInfo := ⟨poolList es last⟩
def fileOf (pool : Array CpInfo) (this : Nat) (attrs : Array Attribute := #[]) (ms : Array MethodInfo := #[]) (fl : Nat := 33) (sup : Nat := 0) (ifs : Array Nat := #[]) (fds : Array FieldInfo := #[]) : ClassFile where
  minorVersion := 0
  majorVersion := 65
  constantPool := pool
  accessFlags := fl
  thisClass := this
  superClass := sup
  interfaces := ifs
  fields := fds
  methods := ms
  attributes := attrs
def plain (name : String) (sup : Option ClassId) : Class where
  name := name
  kind := .ordinary
  loader := none
  accessFlags := 33
  super := sup
  interfaces := #[]
  cf := none
  fields := #[]
  methods := #[]
  instanceTypes := #[]
  staticTypes := #[]
  resolved := #[]
  callSites := []
  init := .initialized
  statics := none
  mirror := none

def pool0 : Array CpInfo := pool [(5, u "<init>"), (0, u "()V"), (1, .class_ 10), (1, u "java/lang/Object")] 113

def k0c0 : Code := { maxStack := 0, maxLocals := 1, code := object_method_1_code, exceptionTable := #[], attributes := #[] }
def k0m0 : Method := { name := "<init>", desc := "()V", sig := { parameters := [], returnType := none }, accessFlags := 1, code := some k0c0 }
/-- java/lang/Object -/
def k0 : Class := { plain "java/lang/Object" none with
  accessFlags := 33
  interfaces := #[]
  cf := some (fileOf pool0 8 #[] #[{ accessFlags := 1, nameIndex := 5, descriptorIndex := 6, attributes := #[] }] 33 0 #[] #[])
  fields := #[]
  methods := #[k0m0]
  instanceTypes := #[]
  staticTypes := #[]
  resolved := Array.replicate 124 none
  statics := none }

def pool1 : Array CpInfo := pool [(2, .class_ 4), (1, u "java/lang/Object"), (0, u "<init>"), (0, u "()V"), (0, .integer 2147483647), (0, .class_ 9), (0, u "com/example/simpagation/simpagation/Term$Int"), (0, .methodref 8 11), (0, .nameAndType 5 12), (0, u "(J)V"), (0, .class_ 14), (0, u "com/example/simpagation/simpagation/Bindings"), (0, .methodref 13 16), (0, .nameAndType 5 17), (0, u "(I)V"), (0, .methodref 13 19), (0, .nameAndType 20 21), (0, u "bind"), (0, u "(ILcom/example/simpagation/simpagation/Term;)V"), (0, .methodref 13 23), (0, .nameAndType 24 17), (0, u "undo"), (0, .methodref 26 27), (0, .class_ 28), (0, .nameAndType 29 30), (0, u "java/lang/Math"), (0, u "min"), (0, u "(II)I"), (0, .methodref 13 32), (0, .nameAndType 33 34), (0, u "mark"), (0, u "()I"), (0, .methodref 13 36), (0, .nameAndType 37 38), (0, u "get"), (0, u "(I)Lcom/example/simpagation/simpagation/Term;"), (0, .class_ 40), (0, u "com/example/simpagation/simpagation/BindingsUndoPinLaw"), (2, u "law"), (0, u "(III)Z")] 7

def k1m0 : Method := { name := "<init>", desc := "()V", sig := { parameters := [], returnType := none }, accessFlags := 1, code := none }
def k1c1 : Code := { maxStack := 4, maxLocals := 15, code := code, exceptionTable := #[], attributes := #[] }
def k1m1 : Method := { name := "law", desc := "(III)Z", sig := { parameters := [.int, .int, .int], returnType := some .boolean }, accessFlags := 9, code := some k1c1 }
/-- com/example/simpagation/simpagation/BindingsUndoPinLaw -/
def k1 : Class := { plain "com/example/simpagation/simpagation/BindingsUndoPinLaw" (some 0) with
  accessFlags := 49
  interfaces := #[]
  cf := some (fileOf pool1 39 #[] #[{ accessFlags := 1, nameIndex := 5, descriptorIndex := 6, attributes := #[] }, { accessFlags := 9, nameIndex := 43, descriptorIndex := 44, attributes := #[] }] 49 2 #[] #[])
  fields := #[]
  methods := #[k1m0, k1m1]
  instanceTypes := #[]
  staticTypes := #[]
  resolved := Array.replicate 52 none
  statics := none }

def pool2 : Array CpInfo := pool [(1, .methodref 2 3), (0, .class_ 4), (0, .nameAndType 5 6), (0, u "java/lang/Object"), (0, u "<init>"), (0, u "()V"), (0, .class_ 8), (0, u "java/lang/Record")] 13

def k2c0 : Code := { maxStack := 1, maxLocals := 1, code := jdk_30_method_1_code, exceptionTable := #[], attributes := #[] }
def k2m0 : Method := { name := "<init>", desc := "()V", sig := { parameters := [], returnType := none }, accessFlags := 4, code := some k2c0 }
/-- java/lang/Record -/
def k2 : Class := { plain "java/lang/Record" (some 0) with
  accessFlags := 1057
  interfaces := #[]
  cf := some (fileOf pool2 7 #[] #[{ accessFlags := 4, nameIndex := 5, descriptorIndex := 6, attributes := #[] }] 1057 2 #[] #[])
  fields := #[]
  methods := #[k2m0]
  instanceTypes := #[]
  staticTypes := #[]
  resolved := Array.replicate 22 none
  statics := none }

def pool3 : Array CpInfo := pool [(2, .class_ 4), (1, u "com/example/simpagation/simpagation/Term"), (2, .class_ 8), (0, u "com/example/simpagation/simpagation/Term$Variable"), (6, .class_ 16), (0, u "com/example/simpagation/simpagation/Term$Compound"), (55, .class_ 73), (0, u "com/example/simpagation/simpagation/Term$Atom"), (7, u "EMPTY_LIST"), (0, u "Lcom/example/simpagation/simpagation/Term$Atom;"), (0, .class_ 84), (0, u "java/lang/Object"), (0, u "LIST_CELL"), (0, u "Ljava/lang/String;"), (3, u "CURLY"), (14, .class_ 106), (0, u "com/example/simpagation/simpagation/Term$Compound$Copy"), (0, .class_ 108), (0, u "com/example/simpagation/simpagation/Term$Float"), (0, .class_ 110), (0, u "com/example/simpagation/simpagation/Term$Int")] 10

/-- com/example/simpagation/simpagation/Term -/
def k3 : Class := { plain "com/example/simpagation/simpagation/Term" (some 0) with
  accessFlags := 1537
  interfaces := #[]
  cf := some (fileOf pool3 2 #[.nestMembers #[7, 15, 105, 107, 109, 72]] #[] 1537 83 #[] #[{ accessFlags := 25, nameIndex := 85, descriptorIndex := 86, attributes := #[] }, { accessFlags := 25, nameIndex := 81, descriptorIndex := 82, attributes := #[] }, { accessFlags := 25, nameIndex := 90, descriptorIndex := 86, attributes := #[] }])
  fields := #[{ name := "LIST_CELL", type := (.object "java/lang/String"), accessFlags := 25, slot := 0, constantValue := 0 }, { name := "EMPTY_LIST", type := (.object "com/example/simpagation/simpagation/Term$Atom"), accessFlags := 25, slot := 1, constantValue := 0 }, { name := "CURLY", type := (.object "java/lang/String"), accessFlags := 25, slot := 2, constantValue := 0 }]
  methods := #[]
  instanceTypes := #[]
  staticTypes := #[(.object "java/lang/String"), (.object "com/example/simpagation/simpagation/Term$Atom"), (.object "java/lang/String")]
  resolved := Array.replicate 121 none
  statics := none }

def pool4 : Array CpInfo := pool [(1, .methodref 2 3), (0, .class_ 4), (0, .nameAndType 5 6), (0, u "java/lang/Record"), (0, u "<init>"), (0, u "()V"), (0, .fieldref 8 9), (0, .class_ 10), (0, .nameAndType 11 12), (0, u "com/example/simpagation/simpagation/Term$Int"), (0, u "value"), (0, u "J"), (12, .class_ 26), (0, u "com/example/simpagation/simpagation/Term"), (0, u "(J)V")] 28

def k4c0 : Code := { maxStack := 3, maxLocals := 3, code := prog_60_method_1_code, exceptionTable := #[], attributes := #[] }
def k4m0 : Method := { name := "<init>", desc := "(J)V", sig := { parameters := [.long], returnType := none }, accessFlags := 1, code := some k4c0 }
/-- com/example/simpagation/simpagation/Term$Int -/
def k4 : Class := { plain "com/example/simpagation/simpagation/Term$Int" (some 2) with
  accessFlags := 49
  interfaces := #[3]
  cf := some (fileOf pool4 8 #[.nestHost 25] #[{ accessFlags := 1, nameIndex := 5, descriptorIndex := 27, attributes := #[] }] 49 2 #[25] #[{ accessFlags := 18, nameIndex := 11, descriptorIndex := 12, attributes := #[] }])
  fields := #[{ name := "value", type := .long, accessFlags := 18, slot := 0, constantValue := 0 }]
  methods := #[k4m0]
  instanceTypes := #[.long]
  staticTypes := #[]
  resolved := Array.replicate 56 none
  statics := none }

def pool5 : Array CpInfo := pool [(1, .methodref 2 3), (0, .class_ 4), (0, .nameAndType 5 6), (0, u "java/lang/Object"), (0, u "<init>"), (0, u "()V"), (0, .class_ 8), (0, u "com/example/simpagation/simpagation/Term"), (0, .fieldref 10 11), (0, .class_ 12), (0, .nameAndType 13 14), (0, u "com/example/simpagation/simpagation/Bindings"), (0, u "values"), (0, u "[Lcom/example/simpagation/simpagation/Term;"), (0, .fieldref 10 16), (0, .nameAndType 17 18), (0, u "trail"), (0, u "[I"), (5, u "bind"), (0, u "(ILcom/example/simpagation/simpagation/Term;)V"), (5, u "()I"), (3, u "(I)Lcom/example/simpagation/simpagation/Term;"), (6, .fieldref 10 43), (0, .nameAndType 44 45), (0, u "trailSize"), (0, u "I"), (0, u "(I)V"), (2, u "get"), (2, u "mark"), (0, u "undo")] 5

def k5c0 : Code := { maxStack := 2, maxLocals := 2, code := prog_1_method_1_code, exceptionTable := #[], attributes := #[] }
def k5m0 : Method := { name := "<init>", desc := "(I)V", sig := { parameters := [.int], returnType := none }, accessFlags := 0, code := some k5c0 }
def k5c1 : Code := { maxStack := 2, maxLocals := 2, code := prog_1_method_2_code, exceptionTable := #[], attributes := #[] }
def k5m1 : Method := { name := "get", desc := "(I)Lcom/example/simpagation/simpagation/Term;", sig := { parameters := [.int], returnType := some (.object "com/example/simpagation/simpagation/Term") }, accessFlags := 0, code := some k5c1 }
def k5c2 : Code := { maxStack := 5, maxLocals := 3, code := prog_1_method_5_code, exceptionTable := #[], attributes := #[] }
def k5m2 : Method := { name := "bind", desc := "(ILcom/example/simpagation/simpagation/Term;)V", sig := { parameters := [.int, (.object "com/example/simpagation/simpagation/Term")], returnType := none }, accessFlags := 0, code := some k5c2 }
def k5c3 : Code := { maxStack := 1, maxLocals := 1, code := prog_1_method_6_code, exceptionTable := #[], attributes := #[] }
def k5m3 : Method := { name := "mark", desc := "()I", sig := { parameters := [], returnType := some .int }, accessFlags := 0, code := some k5c3 }
def k5c4 : Code := { maxStack := 5, maxLocals := 2, code := prog_1_method_7_code, exceptionTable := #[], attributes := #[] }
def k5m4 : Method := { name := "undo", desc := "(I)V", sig := { parameters := [.int], returnType := none }, accessFlags := 0, code := some k5c4 }
/-- com/example/simpagation/simpagation/Bindings -/
def k5 : Class := { plain "com/example/simpagation/simpagation/Bindings" (some 0) with
  accessFlags := 48
  interfaces := #[]
  cf := some (fileOf pool5 10 #[] #[{ accessFlags := 0, nameIndex := 5, descriptorIndex := 46, attributes := #[] }, { accessFlags := 0, nameIndex := 49, descriptorIndex := 35, attributes := #[] }, { accessFlags := 0, nameIndex := 24, descriptorIndex := 25, attributes := #[] }, { accessFlags := 0, nameIndex := 52, descriptorIndex := 31, attributes := #[] }, { accessFlags := 0, nameIndex := 53, descriptorIndex := 46, attributes := #[] }] 48 2 #[] #[{ accessFlags := 18, nameIndex := 13, descriptorIndex := 14, attributes := #[] }, { accessFlags := 18, nameIndex := 17, descriptorIndex := 18, attributes := #[] }, { accessFlags := 2, nameIndex := 44, descriptorIndex := 45, attributes := #[] }])
  fields := #[{ name := "values", type := (.array (.object "com/example/simpagation/simpagation/Term")), accessFlags := 18, slot := 0, constantValue := 0 }, { name := "trail", type := (.array .int), accessFlags := 18, slot := 1, constantValue := 0 }, { name := "trailSize", type := .int, accessFlags := 2, slot := 2, constantValue := 0 }]
  methods := #[k5m0, k5m1, k5m2, k5m3, k5m4]
  instanceTypes := #[(.array (.object "com/example/simpagation/simpagation/Term")), (.array .int), .int]
  staticTypes := #[]
  resolved := Array.replicate 59 none
  statics := none }

def pool6 : Array CpInfo := pool [(1, .class_ 2), (0, u "java/lang/Math"), (1, .class_ 6), (1, u "java/lang/Object"), (0, u "<init>"), (0, u "()V"), (89, .class_ 100), (1, u "java/lang/Math$RandomNumberGeneratorHolder"), (71, u "negativeZeroFloatBits"), (0, u "J"), (2, u "negativeZeroDoubleBits"), (24, u "min"), (43, u "$assertionsDisabled"), (0, u "Z"), (88, u "(II)I"), (2, u "twoToTheDoubleScaleDown"), (0, u "D"), (4, u "twoToTheDoubleScaleUp"), (9, u "E"), (3, u "PI"), (2, u "TAU"), (2, u "DEGREES_TO_RADIANS"), (0, u "RADIANS_TO_DEGREES")] 94

def k6m0 : Method := { name := "<init>", desc := "()V", sig := { parameters := [], returnType := none }, accessFlags := 2, code := none }
def k6c1 : Code := { maxStack := 2, maxLocals := 2, code := jdk_29_method_69_code, exceptionTable := #[], attributes := #[] }
def k6m1 : Method := { name := "min", desc := "(II)I", sig := { parameters := [.int, .int], returnType := some .int }, accessFlags := 9, code := some k6c1 }
/-- java/lang/Math -/
def k6 : Class := { plain "java/lang/Math" (some 0) with
  accessFlags := 49
  interfaces := #[]
  cf := some (fileOf pool6 1 #[.nestMembers #[98]] #[{ accessFlags := 2, nameIndex := 7, descriptorIndex := 8, attributes := #[] }, { accessFlags := 9, nameIndex := 201, descriptorIndex := 335, attributes := #[] }] 49 4 #[] #[{ accessFlags := 25, nameIndex := 354, descriptorIndex := 339, attributes := #[] }, { accessFlags := 25, nameIndex := 358, descriptorIndex := 339, attributes := #[] }, { accessFlags := 25, nameIndex := 361, descriptorIndex := 339, attributes := #[] }, { accessFlags := 26, nameIndex := 364, descriptorIndex := 339, attributes := #[] }, { accessFlags := 26, nameIndex := 365, descriptorIndex := 339, attributes := #[] }, { accessFlags := 26, nameIndex := 172, descriptorIndex := 173, attributes := #[] }, { accessFlags := 26, nameIndex := 176, descriptorIndex := 173, attributes := #[] }, { accessFlags := 8, nameIndex := 344, descriptorIndex := 339, attributes := #[] }, { accessFlags := 8, nameIndex := 338, descriptorIndex := 339, attributes := #[] }, { accessFlags := 4120, nameIndex := 245, descriptorIndex := 246, attributes := #[] }])
  fields := #[{ name := "E", type := .double, accessFlags := 25, slot := 0, constantValue := 0 }, { name := "PI", type := .double, accessFlags := 25, slot := 1, constantValue := 0 }, { name := "TAU", type := .double, accessFlags := 25, slot := 2, constantValue := 0 }, { name := "DEGREES_TO_RADIANS", type := .double, accessFlags := 26, slot := 3, constantValue := 0 }, { name := "RADIANS_TO_DEGREES", type := .double, accessFlags := 26, slot := 4, constantValue := 0 }, { name := "negativeZeroFloatBits", type := .long, accessFlags := 26, slot := 5, constantValue := 0 }, { name := "negativeZeroDoubleBits", type := .long, accessFlags := 26, slot := 6, constantValue := 0 }, { name := "twoToTheDoubleScaleUp", type := .double, accessFlags := 8, slot := 7, constantValue := 0 }, { name := "twoToTheDoubleScaleDown", type := .double, accessFlags := 8, slot := 8, constantValue := 0 }, { name := "$assertionsDisabled", type := .boolean, accessFlags := 4120, slot := 9, constantValue := 0 }]
  methods := #[k6m0, k6m1]
  instanceTypes := #[]
  staticTypes := #[.double, .double, .double, .double, .double, .long, .long, .double, .double, .boolean]
  resolved := Array.replicate 460 none
  statics := none }

def pool7 : Array CpInfo := pool [(1, u "java/lang/Cloneable"), (0, .class_ 1), (0, u "java/lang/Object"), (0, .class_ 3)] 3

/-- java/lang/Cloneable -/
def k7 : Class := { plain "java/lang/Cloneable" (some 0) with
  accessFlags := 1537
  interfaces := #[]
  cf := some (fileOf pool7 2 #[] #[] 1537 4 #[] #[])
  fields := #[]
  methods := #[]
  instanceTypes := #[]
  staticTypes := #[]
  resolved := Array.replicate 8 none
  statics := none }

def pool8 : Array CpInfo := pool [(1, u "java/io/Serializable"), (0, .class_ 1), (0, u "java/lang/Object"), (0, .class_ 3)] 3

/-- java/io/Serializable -/
def k8 : Class := { plain "java/io/Serializable" (some 0) with
  accessFlags := 1537
  interfaces := #[]
  cf := some (fileOf pool8 2 #[] #[] 1537 4 #[] #[])
  fields := #[]
  methods := #[]
  instanceTypes := #[]
  staticTypes := #[]
  resolved := Array.replicate 8 none
  statics := none }

/-- the primitive byte -/
def k9 : Class := { plain "byte" none with kind := .primitive 'B', accessFlags := 0x411 }
/-- [B -/
def k10 : Class := { plain "[B" (some 0) with kind := .array 9 .byte, interfaces := #[7, 8], accessFlags := 1041 }

/-- the primitive int -/
def k11 : Class := { plain "int" none with kind := .primitive 'I', accessFlags := 0x411 }
/-- [I -/
def k12 : Class := { plain "[I" (some 0) with kind := .array 11 .int, interfaces := #[7, 8], accessFlags := 1041 }

/-- [Lcom/example/simpagation/simpagation/Term; -/
def k13 : Class := { plain "[Lcom/example/simpagation/simpagation/Term;" (some 0) with kind := .array 3 (.object "com/example/simpagation/simpagation/Term"), interfaces := #[7, 8], accessFlags := 1041 }

def heap : Heap := #[]
def classes : Array Class := #[k0, k1, k2, k3, k4, k5, k6, k7, k8, k9, k10, k11, k12, k13]
def interned : List (Array UInt16 × Addr) := []
def slotsUsed : Nat := 0
def theMethod : MethodId := ⟨1, 1⟩
def args0 : Array Value := #[.int 5, .int 7, .int 3]
def aboutOver (below : List Frame) : State where
  vm := { classes := classes, interned := interned.toArray }
  heap := heap
  slotsUsed := slotsUsed
  threads := #[{ frames := .invoking theMethod args0 :: below }]
def below0 : List Frame := [.native { method := ⟨0, 0⟩, args := #[] }]
def about1 : State := aboutOver below0
def p0 : Program := .bare "" "" ""
def e0 : Env := launch0.env 0 0 0
theorem w_frames : about1.frames = Frame.invoking theMethod args0 :: below0 := rfl
set_option maxRecDepth 65536 in
theorem w_args : argsFit about1.vm theMethod args0 = true := by decide +kernel
set_option maxRecDepth 65536 in
theorem w_heap : heapFits about1 = true := by decide +kernel
set_option maxRecDepth 65536 in
theorem w_runnable : about1.curStatus? = some .runnable := by decide +kernel
set_option maxRecDepth 65536 in
theorem w_alone : about1.alone = true := by decide +kernel
set_option maxRecDepth 65536 in
theorem w_named : about1.methodNamed? x = some theMethod := by decide +kernel
set_option maxRecDepth 65536 in
theorem w_hears : about1.hears theMethod below0 = true := by decide +kernel
set_option maxRecDepth 65536 in
theorem w_ripe : about1.ripe theMethod args0 below0 = true := by decide +kernel
theorem w_running : about1.status = .running := rfl
set_option maxRecDepth 65536 in
theorem w_room : about1.hasRoom e0.platform room_1 = true :=
  launch0.hasRoom_least _ room_1 (by decide +kernel) (by decide +kernel) (by decide +kernel) (by decide +kernel) (by decide +kernel) (by decide +kernel)
theorem allAtoms_all (ts : List Jvm.Cond) (a : Array Jvm.Value) (st : Jvm.State) : (allAtoms ts).before a st = ts.all (fun c => c.before a st) := by
  induction ts with
  | nil => rfl
  | cons c t ih =>
    show (Jvm.Cond.and c (allAtoms t)).before a st = _
    rw [Jvm.Cond.before_and, ih, List.all_cons]
def words1 : List Jvm.Cond := Jvm.Cond.code x code maxLocals ret :: tables_1
/-- a 'code' word, met by the world's own term for the bytes: nothing is compared byte by byte -/
theorem code_word {y : MethodName} {bytes : ByteArray} {mx : Nat} {rt : Option FieldType} {a : Array Value} {s : State} {m : MethodId} {meth : Method} {c : Code} (h1 : s.methodNamed? y = some m) (h2 : s.vm.method? m = some meth) (h3 : meth.code = some c) (h4 : c.code = bytes)
    (h5 : (c.maxLocals == mx && c.exceptionTable.isEmpty && decide (c.maxStack ≤ mostOperands) && decide (meth.sig.returnType = rt) && !meth.locks && decide (parseMethodDescriptor y.desc = some meth.sig)) = true) : (Jvm.Cond.code y bytes mx rt).before a s = true := by
  simp only [Bool.and_eq_true, beq_iff_eq, Bool.not_eq_true', decide_eq_true_eq] at h5
  obtain ⟨⟨⟨⟨⟨g1, g2⟩, g3⟩, g4⟩, g5⟩, g6⟩ := h5
  simp [Cond.before, Cond.holds, Cond.value, h1, h2, h3, h4, g1, g2, g3, g4, g5, g6]
def isCode : Jvm.Cond → Bool
  | .code _ _ _ _ => true
  | _ => false
theorem all_split {L : List Jvm.Cond} {P : Jvm.Cond → Bool} (h1 : L.all (fun c => isCode c || P c) = true) (h2 : ∀ c ∈ L.filter isCode, P c = true) : L.all P = true := by
  refine List.all_eq_true.mpr fun c hc => ?_
  have h := List.all_eq_true.mp h1 c hc
  rcases Bool.eq_false_or_eq_true (isCode c) with hi | hi
  · exact h2 c (List.mem_filter.mpr ⟨hc, hi⟩)
  · simpa [hi] using h
set_option maxRecDepth 65536 in
theorem w_c0 : (Jvm.Cond.code x code maxLocals ret).before args0 about1 = true := code_word (m := ⟨1, 1⟩) (meth := k1m1) (c := k1c1) (by decide +kernel) rfl rfl rfl (by decide +kernel)
set_option maxRecDepth 65536 in
theorem w_c1 : (Jvm.Cond.code ({ cls := "com/example/simpagation/simpagation/Term$Int", name := "<init>", desc := "(J)V" } : Jvm.MethodName) prog_60_method_1_code (3 : Nat) (Option.none : Option Jvm.ClassFile.FieldType)).before args0 about1 = true := code_word (m := ⟨4, 0⟩) (meth := k4m0) (c := k4c0) (by decide +kernel) rfl rfl rfl (by decide +kernel)
set_option maxRecDepth 65536 in
theorem w_c2 : (Jvm.Cond.code ({ cls := "java/lang/Record", name := "<init>", desc := "()V" } : Jvm.MethodName) jdk_30_method_1_code (1 : Nat) (Option.none : Option Jvm.ClassFile.FieldType)).before args0 about1 = true := code_word (m := ⟨2, 0⟩) (meth := k2m0) (c := k2c0) (by decide +kernel) rfl rfl rfl (by decide +kernel)
set_option maxRecDepth 65536 in
theorem w_c3 : (Jvm.Cond.code ({ cls := "java/lang/Object", name := "<init>", desc := "()V" } : Jvm.MethodName) object_method_1_code (1 : Nat) (Option.none : Option Jvm.ClassFile.FieldType)).before args0 about1 = true := code_word (m := ⟨0, 0⟩) (meth := k0m0) (c := k0c0) (by decide +kernel) rfl rfl rfl (by decide +kernel)
set_option maxRecDepth 65536 in
theorem w_c4 : (Jvm.Cond.code ({ cls := "com/example/simpagation/simpagation/Bindings", name := "<init>", desc := "(I)V" } : Jvm.MethodName) prog_1_method_1_code (2 : Nat) (Option.none : Option Jvm.ClassFile.FieldType)).before args0 about1 = true := code_word (m := ⟨5, 0⟩) (meth := k5m0) (c := k5c0) (by decide +kernel) rfl rfl rfl (by decide +kernel)
set_option maxRecDepth 65536 in
theorem w_c5 : (Jvm.Cond.code ({ cls := "com/example/simpagation/simpagation/Bindings", name := "bind", desc := "(ILcom/example/simpagation/simpagation/Term;)V" } : Jvm.MethodName) prog_1_method_5_code (3 : Nat) (Option.none : Option Jvm.ClassFile.FieldType)).before args0 about1 = true := code_word (m := ⟨5, 2⟩) (meth := k5m2) (c := k5c2) (by decide +kernel) rfl rfl rfl (by decide +kernel)
set_option maxRecDepth 65536 in
theorem w_c6 : (Jvm.Cond.code ({ cls := "com/example/simpagation/simpagation/Bindings", name := "undo", desc := "(I)V" } : Jvm.MethodName) prog_1_method_7_code (2 : Nat) (Option.none : Option Jvm.ClassFile.FieldType)).before args0 about1 = true := code_word (m := ⟨5, 4⟩) (meth := k5m4) (c := k5c4) (by decide +kernel) rfl rfl rfl (by decide +kernel)
set_option maxRecDepth 65536 in
theorem w_c7 : (Jvm.Cond.code ({ cls := "java/lang/Math", name := "min", desc := "(II)I" } : Jvm.MethodName) jdk_29_method_69_code (2 : Nat) (Option.some Jvm.ClassFile.FieldType.int)).before args0 about1 = true := code_word (m := ⟨6, 1⟩) (meth := k6m1) (c := k6c1) (by decide +kernel) rfl rfl rfl (by decide +kernel)
set_option maxRecDepth 65536 in
theorem w_c8 : (Jvm.Cond.code ({ cls := "com/example/simpagation/simpagation/Bindings", name := "mark", desc := "()I" } : Jvm.MethodName) prog_1_method_6_code (1 : Nat) (Option.some Jvm.ClassFile.FieldType.int)).before args0 about1 = true := code_word (m := ⟨5, 3⟩) (meth := k5m3) (c := k5c3) (by decide +kernel) rfl rfl rfl (by decide +kernel)
set_option maxRecDepth 65536 in
theorem w_c9 : (Jvm.Cond.code ({ cls := "com/example/simpagation/simpagation/Bindings", name := "get", desc := "(I)Lcom/example/simpagation/simpagation/Term;" } : Jvm.MethodName) prog_1_method_2_code (2 : Nat) (Option.some (Jvm.ClassFile.FieldType.object "com/example/simpagation/simpagation/Term"))).before args0 about1 = true := code_word (m := ⟨5, 1⟩) (meth := k5m1) (c := k5c1) (by decide +kernel) rfl rfl rfl (by decide +kernel)
def codes1 : List Jvm.Cond := [Jvm.Cond.code x code maxLocals ret, Jvm.Cond.code ({ cls := "com/example/simpagation/simpagation/Term$Int", name := "<init>", desc := "(J)V" } : Jvm.MethodName) prog_60_method_1_code (3 : Nat) (Option.none : Option Jvm.ClassFile.FieldType), Jvm.Cond.code ({ cls := "java/lang/Record", name := "<init>", desc := "()V" } : Jvm.MethodName) jdk_30_method_1_code (1 : Nat) (Option.none : Option Jvm.ClassFile.FieldType), Jvm.Cond.code ({ cls := "java/lang/Object", name := "<init>", desc := "()V" } : Jvm.MethodName) object_method_1_code (1 : Nat) (Option.none : Option Jvm.ClassFile.FieldType), Jvm.Cond.code ({ cls := "com/example/simpagation/simpagation/Bindings", name := "<init>", desc := "(I)V" } : Jvm.MethodName) prog_1_method_1_code (2 : Nat) (Option.none : Option Jvm.ClassFile.FieldType), Jvm.Cond.code ({ cls := "com/example/simpagation/simpagation/Bindings", name := "bind", desc := "(ILcom/example/simpagation/simpagation/Term;)V" } : Jvm.MethodName) prog_1_method_5_code (3 : Nat) (Option.none : Option Jvm.ClassFile.FieldType), Jvm.Cond.code ({ cls := "com/example/simpagation/simpagation/Bindings", name := "undo", desc := "(I)V" } : Jvm.MethodName) prog_1_method_7_code (2 : Nat) (Option.none : Option Jvm.ClassFile.FieldType), Jvm.Cond.code ({ cls := "java/lang/Math", name := "min", desc := "(II)I" } : Jvm.MethodName) jdk_29_method_69_code (2 : Nat) (Option.some Jvm.ClassFile.FieldType.int), Jvm.Cond.code ({ cls := "com/example/simpagation/simpagation/Bindings", name := "mark", desc := "()I" } : Jvm.MethodName) prog_1_method_6_code (1 : Nat) (Option.some Jvm.ClassFile.FieldType.int), Jvm.Cond.code ({ cls := "com/example/simpagation/simpagation/Bindings", name := "get", desc := "(I)Lcom/example/simpagation/simpagation/Term;" } : Jvm.MethodName) prog_1_method_2_code (2 : Nat) (Option.some (Jvm.ClassFile.FieldType.object "com/example/simpagation/simpagation/Term"))]
set_option maxRecDepth 65536 in
theorem codes_eq : words1.filter isCode = codes1 := rfl
theorem w_codes : ∀ c ∈ words1.filter isCode, c.before args0 about1 = true := by
  rw [codes_eq]
  intro c hc
  simp only [codes1, List.mem_cons, List.not_mem_nil, or_false] at hc
  rcases hc with rfl | rfl | rfl | rfl | rfl | rfl | rfl | rfl | rfl | rfl
  · exact w_c0
  · exact w_c1
  · exact w_c2
  · exact w_c3
  · exact w_c4
  · exact w_c5
  · exact w_c6
  · exact w_c7
  · exact w_c8
  · exact w_c9
set_option maxRecDepth 65536 in
theorem w_t1 : (words1.take 24).all (fun c => isCode c || c.before args0 about1) = true := by decide +kernel
set_option maxRecDepth 65536 in
theorem w_t2 : ((words1.drop 24).take 24).all (fun c => isCode c || c.before args0 about1) = true := by decide +kernel
set_option maxRecDepth 65536 in
theorem w_t3 : ((words1.drop 24).drop 24).all (fun c => isCode c || c.before args0 about1) = true := by decide +kernel
theorem w_tables : (allAtoms (Jvm.Cond.code x code maxLocals ret :: tables_1)).before args0 about1 = true := by
  rw [allAtoms_all]
  show words1.all (fun c => c.before args0 about1) = true
  refine all_split ?_ w_codes
  rw [← List.take_append_drop 24 words1, List.all_append, w_t1, ← List.take_append_drop 24 (words1.drop 24), List.all_append, w_t2, w_t3]
  rfl
set_option maxRecDepth 65536 in
theorem w_case : (Jvm.Cond.and given_1 narrow_1).before args0 about1 = true := by decide +kernel
theorem w_applies : (headSpec (Jvm.Cond.code x code maxLocals ret :: tables_1) room_1).applies x e0.platform about1 = true :=
  (Spec.applies_iff w_frames).mpr ⟨w_running, w_runnable, w_alone, w_named, w_hears, w_ripe, w_room, w_tables⟩
theorem atStart : AtStart classFile x code maxLocals ret World_1 tables_1 room_1 Calls_1 rest_1 Pre_1 launch0 p0 e0 about1 theMethod args0 below0 :=
  ⟨lists_1, trivial, launch0.admits_env _ _ _, launch0.least_env, fairChoices_fair.cas, fairChoices_fair.clock, w_frames, w_args, w_heap, w_applies, trivial, trivial, w_case⟩
end start1
theorem witness_1 : WitnessClaimed_1 := ⟨start1.p0, start1.e0, start1.about1, start1.theMethod, start1.args0, start1.below0, start1.atStart⟩
end Jvm.Pilot.@@N@@
