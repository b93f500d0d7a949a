import JvmDerived
import JvmDerived.Pilot.@@N@@Statement
import JvmDerived.Pilot.@@N@@Code
set_option linter.unusedVariables false
set_option linter.unusedSimpArgs false
namespace Jvm.Own
open Sem ClassFile Op Lib Jvm.Stand Jvm.Free Jvm.LawKit Jvm.RoadKit
/-- from here the run goes on to a return that the contract allows -/
def Wk (p : Program) (e : Env) (below : List Frame) (F : Outcome → State → Prop) (T : State) (g : JFrame) : Prop :=
  ∃ s₂ o, Steps p.tables e below (T.setTop g) s₂ ∧ s₂.status = .running ∧ Ended s₂ below o ∧ F o s₂
abbrev FN (s : State) (Q : Option Value → Heap → List Loc → Prop) (kc ks : Nat) : Outcome → State → Prop := fun o s₂ => ∃ v L, o = .returned v ∧ Q v s₂.heap L ∧ FrameEnd s o s₂ L kc ks
section Walk
variable {p : Program} {l : Launch} {e : Env} {R : Room} {s : State} {m : MethodId} {args : Array Value} {below : List Frame} {meth : Method} {c : Code} {T : State} {locs : List Loc} {cells slots : Nat} {Q : Option Value → Heap → List Loc → Prop} {Fe : Outcome → State → Prop} {kc ks pc : Nat} {Ls : Array Slot} {S : List Value} {Z : State} {a0 : Array Value} {h : Heap}
theorem Wk.step {T' : State} {g g' : JFrame} (h : Wk p e below Fe T' g') (st : ∀ t, Steps p.tables e below (T'.setTop g') t → Steps p.tables e below (T.setTop g) t) : Wk p e below Fe T g := by
  obtain ⟨s₂, o, h1, h2⟩ := h
  exact ⟨s₂, o, st _ h1, h2⟩
theorem Wk.come {T' : State} {g g' : JFrame} (h : Wk p e below Fe T' g') (st : Steps p.tables e below (T.setTop g) (T'.setTop g')) : Wk p e below Fe T g := h.step fun _ k => st.trans k
theorem w_iload (X : Stand p l e R s m args below meth c T locs cells slots) (hx : p.tables.exec = Jvm.exec) {k : Nat} (v : Int32) (hd : decode c.code pc = .ok (.iload k, 2)) (pc' : Nat) (hp : pc + 2 = pc') (hl : Ls[k]? = some (.val (.int v))) (h : Wk p e below Fe T (mkF m pc' Ls (.int v :: S))) : Wk p e below Fe T (mkF m pc Ls S) := by
  subst hp; exact h.step fun _ k => XS.iload X.here hx rfl hd hl k
theorem w_iloadN (X : Stand p l e R s m args below meth c T locs cells slots) (hx : p.tables.exec = Jvm.exec) {k : Fin 4} (v : Int32) (hd : decode c.code pc = .ok (.iload_n k, 1)) (pc' : Nat) (hp : pc + 1 = pc') (hl : Ls[k.val]? = some (.val (.int v))) (h : Wk p e below Fe T (mkF m pc' Ls (.int v :: S))) : Wk p e below Fe T (mkF m pc Ls S) := by
  subst hp; exact h.step fun _ k => XS.iloadN X.here hx rfl hd hl k
theorem w_aload (X : Stand p l e R s m args below meth c T locs cells slots) (hx : p.tables.exec = Jvm.exec) {k : Nat} (v : Value) (hd : decode c.code pc = .ok (.aload k, 2)) (pc' : Nat) (hp : pc + 2 = pc') (hl : Ls[k]? = some (.val v)) (hv : v.isRef = true) (h : Wk p e below Fe T (mkF m pc' Ls (v :: S))) : Wk p e below Fe T (mkF m pc Ls S) := by
  subst hp; exact h.step fun _ k => XS.aload X.here hx rfl hd hl hv k
theorem w_aloadN (X : Stand p l e R s m args below meth c T locs cells slots) (hx : p.tables.exec = Jvm.exec) {k : Fin 4} (v : Value) (hd : decode c.code pc = .ok (.aload_n k, 1)) (pc' : Nat) (hp : pc + 1 = pc') (hl : Ls[k.val]? = some (.val v)) (hv : v.isRef = true) (h : Wk p e below Fe T (mkF m pc' Ls (v :: S))) : Wk p e below Fe T (mkF m pc Ls S) := by
  subst hp; exact h.step fun _ k => XS.aloadN X.here hx rfl hd hl hv k
theorem w_istore (X : Stand p l e R s m args below meth c T locs cells slots) (hx : p.tables.exec = Jvm.exec) {k : Nat} {x : Int32} (hd : decode c.code pc = .ok (.istore k, 2)) (pc' : Nat) (hp : pc + 2 = pc') (l' : Array Slot) (hl : storeLocals Ls k (.int x) = some l') (h : Wk p e below Fe T (mkF m pc' l' S)) : Wk p e below Fe T (mkF m pc Ls (.int x :: S)) := by
  subst hp; exact h.step fun _ k => XS.istore X.here hx rfl hd rfl hl k
theorem w_astore (X : Stand p l e R s m args below meth c T locs cells slots) (hx : p.tables.exec = Jvm.exec) {k : Nat} {x : Value} (hd : decode c.code pc = .ok (.astore k, 2)) (pc' : Nat) (hp : pc + 2 = pc') (hv : x.isRef = true) (l' : Array Slot) (hl : storeLocals Ls k x = some l') (h : Wk p e below Fe T (mkF m pc' l' S)) : Wk p e below Fe T (mkF m pc Ls (x :: S)) := by
  subst hp; exact h.step fun _ k => XS.astore X.here hx rfl hd rfl hv hl k
theorem w_iconst (X : Stand p l e R s m args below meth c T locs cells slots) (hx : p.tables.exec = Jvm.exec) {i : Int} (hd : decode c.code pc = .ok (.iconst i, 1)) (pc' : Nat) (hp : pc + 1 = pc') (z : Int32) (hz : Int32.ofInt i = z) (h : Wk p e below Fe T (mkF m pc' Ls (.int z :: S))) : Wk p e below Fe T (mkF m pc Ls S) := by
  subst hp hz; exact h.step fun _ k => XS.iconst X.here hx rfl hd k
theorem w_bipush (X : Stand p l e R s m args below meth c T locs cells slots) (hx : p.tables.exec = Jvm.exec) {i : Int} (hd : decode c.code pc = .ok (.bipush i, 2)) (pc' : Nat) (hp : pc + 2 = pc') (z : Int32) (hz : (Int8.ofInt i).toInt32 = z) (h : Wk p e below Fe T (mkF m pc' Ls (.int z :: S))) : Wk p e below Fe T (mkF m pc Ls S) := by
  subst hp hz; exact h.step fun _ k => XS.bipush X.here hx rfl hd k
theorem w_sipush (X : Stand p l e R s m args below meth c T locs cells slots) (hx : p.tables.exec = Jvm.exec) {i : Int} (hd : decode c.code pc = .ok (.sipush i, 3)) (pc' : Nat) (hp : pc + 3 = pc') (z : Int32) (hz : (Int16.ofInt i).toInt32 = z) (h : Wk p e below Fe T (mkF m pc' Ls (.int z :: S))) : Wk p e below Fe T (mkF m pc Ls S) := by
  subst hp hz; exact h.step fun _ k => XS.sipush X.here hx rfl hd k
theorem w_ldc (X : Stand p l e R s m args below meth c T locs cells slots) (hx : p.tables.exec = Jvm.exec) (hZ : Z.Warmed39 s.vm) {own : String} {index : Nat} {v : Int32} (hown : s.vm.findClass own = some m.cls) (w : (Cond.constant own index v).before a0 Z = true) (hd : decode c.code pc = .ok (.ldc index, 2)) (pc' : Nat) (hp : pc + 2 = pc') (h : Wk p e below Fe T (mkF m pc' Ls (.int v :: S))) : Wk p e below Fe T (mkF m pc Ls S) := by
  subst hp; exact h.step fun _ k => X.ldcInt hx hown (mvT hZ w) (g := mkF m pc Ls S) rfl hd _ k
theorem w_iand (X : Stand p l e R s m args below meth c T locs cells slots) (hx : p.tables.exec = Jvm.exec) {x y : Int32} (hd : decode c.code pc = .ok (.iand, 1)) (pc' : Nat) (hp : pc + 1 = pc') {z : Int32} (hz : z = x &&& y) (h : Wk p e below Fe T (mkF m pc' Ls (.int z :: S))) : Wk p e below Fe T (mkF m pc Ls (.int y :: .int x :: S)) := by
  subst hp hz; exact h.step fun _ k => XS.iand X.here hx rfl hd rfl k
theorem w_ishr (X : Stand p l e R s m args below meth c T locs cells slots) (hx : p.tables.exec = Jvm.exec) {x y : Int32} (hd : decode c.code pc = .ok (.ishr, 1)) (pc' : Nat) (hp : pc + 1 = pc') {z : Int32} (hz : z = x >>> (y &&& 31)) (h : Wk p e below Fe T (mkF m pc' Ls (.int z :: S))) : Wk p e below Fe T (mkF m pc Ls (.int y :: .int x :: S)) := by
  subst hp hz; exact h.step fun _ k => XS.ishr X.here hx rfl hd rfl k
theorem w_iushr (X : Stand p l e R s m args below meth c T locs cells slots) (hx : p.tables.exec = Jvm.exec) {x y : Int32} (hd : decode c.code pc = .ok (.iushr, 1)) (pc' : Nat) (hp : pc + 1 = pc') {z : Int32} (hz : z = (x.toUInt32 >>> (y &&& 31).toUInt32).toInt32) (h : Wk p e below Fe T (mkF m pc' Ls (.int z :: S))) : Wk p e below Fe T (mkF m pc Ls (.int y :: .int x :: S)) := by
  subst hp hz; exact h.step fun _ k => XS.iushr X.here hx rfl hd rfl k
theorem w_irem (X : Stand p l e R s m args below meth c T locs cells slots) (hx : p.tables.exec = Jvm.exec) {x y : Int32} (hd : decode c.code pc = .ok (.irem, 1)) (pc' : Nat) (hp : pc + 1 = pc') (hy : y ≠ 0) {z : Int32} (hz : z = x % y) (h : Wk p e below Fe T (mkF m pc' Ls (.int z :: S))) : Wk p e below Fe T (mkF m pc Ls (.int y :: .int x :: S)) := by
  subst hp hz; exact h.step fun _ k => iremM (g := mkF m pc Ls (.int y :: .int x :: S)) X hx rfl hd rfl hy k
theorem w_i2b (X : Stand p l e R s m args below meth c T locs cells slots) (hx : p.tables.exec = Jvm.exec) {x : Int32} (hd : decode c.code pc = .ok (.i2b, 1)) (pc' : Nat) (hp : pc + 1 = pc') {z : Int32} (hz : z = x.toInt8.toInt32) (h : Wk p e below Fe T (mkF m pc' Ls (.int z :: S))) : Wk p e below Fe T (mkF m pc Ls (.int x :: S)) := by
  subst hp hz; exact h.step fun _ k => XS.i2b X.here hx rfl hd rfl k
theorem w_dup (X : Stand p l e R s m args below meth c T locs cells slots) (hx : p.tables.exec = Jvm.exec) {x : Value} (hd : decode c.code pc = .ok (.dup, 1)) (pc' : Nat) (hp : pc + 1 = pc') (hc : x.category = 1) (h : Wk p e below Fe T (mkF m pc' Ls (x :: x :: S))) : Wk p e below Fe T (mkF m pc Ls (x :: S)) := by
  subst hp; exact h.step fun _ k => XS.dup X.here hx rfl hd rfl hc k
theorem w_goto (X : Stand p l e R s m args below meth c T locs cells slots) (hx : p.tables.exec = Jvm.exec) {o : Int} (hd : decode c.code pc = .ok (.goto o, 3)) (pc' : Nat) (h : Wk p e below Fe T (mkF m pc' Ls S)) (ho : 0 ≤ (pc : Int) + o := by decide) (hp : ((pc : Int) + o).toNat = pc' := by decide) : Wk p e below Fe T (mkF m pc Ls S) := by
  exact h.step fun _ k => XS.goto X.here hx rfl rfl hd ho hp k
theorem holds_eq {x y : Int32} {A B : Int} (ha : x.toInt = A) (hb : y.toInt = B) : ((A = B) → if_icmp.holds .eq x y = true) ∧ ((¬ A = B) → if_icmp.holds .eq x y = false) := by
  subst ha hb
  constructor
  · intro q
    first
    | exact (tlt (x := x) (y := y) (Int32.lt_iff_toInt_lt.mpr (by omega))).1
    | exact (flt (x := x) (y := y) (fun r => by have := Int32.lt_iff_toInt_lt.mp r; omega)).2.1
    | exact (tlt (x := y) (y := x) (Int32.lt_iff_toInt_lt.mpr (by omega))).2.2.1
    | exact (flt (x := y) (y := x) (fun r => by have := Int32.lt_iff_toInt_lt.mp r; omega)).2.2.2
    | exact (teq (x := x) (y := y) (Int32.toInt_inj.mp (by omega))).1
    | exact (feq (x := x) (y := y) (fun r => q (by rw [r]))).2
  · intro q
    first
    | exact (flt (x := x) (y := y) (fun r => by have := Int32.lt_iff_toInt_lt.mp r; omega)).1
    | exact (tlt (x := x) (y := y) (Int32.lt_iff_toInt_lt.mpr (by omega))).2.1
    | exact (flt (x := y) (y := x) (fun r => by have := Int32.lt_iff_toInt_lt.mp r; omega)).2.2.1
    | exact (tlt (x := y) (y := x) (Int32.lt_iff_toInt_lt.mpr (by omega))).2.2.2
    | exact (feq (x := x) (y := y) (fun r => q (by rw [r]))).1
    | exact (teq (x := x) (y := y) (Int32.toInt_inj.mp (by omega))).2
theorem w_if_eq (X : Stand p l e R s m args below meth c T locs cells slots) (hx : p.tables.exec = Jvm.exec) {x : Int32} {o : Int} (A : Int) (ha : x.toInt = A) (hd : decode c.code pc = .ok (.ifCond .eq o, 3)) (pt pn : Nat) (h1 : A = 0 → Wk p e below Fe T (mkF m pt Ls S)) (h2 : ¬ A = 0 → Wk p e below Fe T (mkF m pn Ls S)) (ho : 0 ≤ (pc : Int) + o := by decide) (hp : ((pc : Int) + o).toNat = pt := by decide) (hn : pc + 3 = pn := by rfl) : Wk p e below Fe T (mkF m pc Ls (.int x :: S)) := by
  subst hn
  have hb : (0 : Int32).toInt = 0 := rfl
  by_cases q : A = 0
  · exact (h1 q).step fun _ k => XS.ifYes X.here hx rfl rfl hd rfl ((if0 _ _).trans ((holds_eq ha hb).1 q)) ho hp k
  · have q' : ¬ A = 0 := by omega
    exact (h2 q').step fun _ k => XS.ifNo X.here hx rfl hd rfl ((if0 _ _).trans ((holds_eq ha hb).2 q')) k
theorem holds_ne {x y : Int32} {A B : Int} (ha : x.toInt = A) (hb : y.toInt = B) : ((¬ A = B) → if_icmp.holds .ne x y = true) ∧ ((A = B) → if_icmp.holds .ne x y = false) := by
  subst ha hb
  constructor
  · intro q
    first
    | exact (tlt (x := x) (y := y) (Int32.lt_iff_toInt_lt.mpr (by omega))).1
    | exact (flt (x := x) (y := y) (fun r => by have := Int32.lt_iff_toInt_lt.mp r; omega)).2.1
    | exact (tlt (x := y) (y := x) (Int32.lt_iff_toInt_lt.mpr (by omega))).2.2.1
    | exact (flt (x := y) (y := x) (fun r => by have := Int32.lt_iff_toInt_lt.mp r; omega)).2.2.2
    | exact (teq (x := x) (y := y) (Int32.toInt_inj.mp (by omega))).1
    | exact (feq (x := x) (y := y) (fun r => q (by rw [r]))).2
  · intro q
    first
    | exact (flt (x := x) (y := y) (fun r => by have := Int32.lt_iff_toInt_lt.mp r; omega)).1
    | exact (tlt (x := x) (y := y) (Int32.lt_iff_toInt_lt.mpr (by omega))).2.1
    | exact (flt (x := y) (y := x) (fun r => by have := Int32.lt_iff_toInt_lt.mp r; omega)).2.2.1
    | exact (tlt (x := y) (y := x) (Int32.lt_iff_toInt_lt.mpr (by omega))).2.2.2
    | exact (feq (x := x) (y := y) (fun r => q (by rw [r]))).1
    | exact (teq (x := x) (y := y) (Int32.toInt_inj.mp (by omega))).2
theorem w_icmp_ne (X : Stand p l e R s m args below meth c T locs cells slots) (hx : p.tables.exec = Jvm.exec) {x y : Int32} {o : Int} (A B : Int) (ha : x.toInt = A) (hb : y.toInt = B) (hd : decode c.code pc = .ok (.if_icmp .ne o, 3)) (pt pn : Nat) (h1 : ¬ A = B → Wk p e below Fe T (mkF m pt Ls S)) (h2 : A = B → Wk p e below Fe T (mkF m pn Ls S)) (ho : 0 ≤ (pc : Int) + o := by decide) (hp : ((pc : Int) + o).toNat = pt := by decide) (hn : pc + 3 = pn := by rfl) : Wk p e below Fe T (mkF m pc Ls (.int y :: .int x :: S)) := by
  subst hn
  by_cases q : ¬ A = B
  · exact (h1 q).step fun _ k => XS.icmpYes X.here hx rfl rfl hd rfl ((holds_ne ha hb).1 q) ho hp k
  · have q' : A = B := by omega
    exact (h2 q').step fun _ k => XS.icmpNo X.here hx rfl hd rfl ((holds_ne ha hb).2 q') k
theorem w_if_ne (X : Stand p l e R s m args below meth c T locs cells slots) (hx : p.tables.exec = Jvm.exec) {x : Int32} {o : Int} (A : Int) (ha : x.toInt = A) (hd : decode c.code pc = .ok (.ifCond .ne o, 3)) (pt pn : Nat) (h1 : ¬ A = 0 → Wk p e below Fe T (mkF m pt Ls S)) (h2 : A = 0 → Wk p e below Fe T (mkF m pn Ls S)) (ho : 0 ≤ (pc : Int) + o := by decide) (hp : ((pc : Int) + o).toNat = pt := by decide) (hn : pc + 3 = pn := by rfl) : Wk p e below Fe T (mkF m pc Ls (.int x :: S)) := by
  subst hn
  have hb : (0 : Int32).toInt = 0 := rfl
  by_cases q : ¬ A = 0
  · exact (h1 q).step fun _ k => XS.ifYes X.here hx rfl rfl hd rfl ((if0 _ _).trans ((holds_ne ha hb).1 q)) ho hp k
  · have q' : A = 0 := by omega
    exact (h2 q').step fun _ k => XS.ifNo X.here hx rfl hd rfl ((if0 _ _).trans ((holds_ne ha hb).2 q')) k
theorem holds_lt {x y : Int32} {A B : Int} (ha : x.toInt = A) (hb : y.toInt = B) : ((A < B) → if_icmp.holds .lt x y = true) ∧ ((B ≤ A) → if_icmp.holds .lt x y = false) := by
  subst ha hb
  constructor
  · intro q
    first
    | exact (tlt (x := x) (y := y) (Int32.lt_iff_toInt_lt.mpr (by omega))).1
    | exact (flt (x := x) (y := y) (fun r => by have := Int32.lt_iff_toInt_lt.mp r; omega)).2.1
    | exact (tlt (x := y) (y := x) (Int32.lt_iff_toInt_lt.mpr (by omega))).2.2.1
    | exact (flt (x := y) (y := x) (fun r => by have := Int32.lt_iff_toInt_lt.mp r; omega)).2.2.2
    | exact (teq (x := x) (y := y) (Int32.toInt_inj.mp (by omega))).1
    | exact (feq (x := x) (y := y) (fun r => q (by rw [r]))).2
  · intro q
    first
    | exact (flt (x := x) (y := y) (fun r => by have := Int32.lt_iff_toInt_lt.mp r; omega)).1
    | exact (tlt (x := x) (y := y) (Int32.lt_iff_toInt_lt.mpr (by omega))).2.1
    | exact (flt (x := y) (y := x) (fun r => by have := Int32.lt_iff_toInt_lt.mp r; omega)).2.2.1
    | exact (tlt (x := y) (y := x) (Int32.lt_iff_toInt_lt.mpr (by omega))).2.2.2
    | exact (feq (x := x) (y := y) (fun r => q (by rw [r]))).1
    | exact (teq (x := x) (y := y) (Int32.toInt_inj.mp (by omega))).2
theorem w_icmp_lt (X : Stand p l e R s m args below meth c T locs cells slots) (hx : p.tables.exec = Jvm.exec) {x y : Int32} {o : Int} (A B : Int) (ha : x.toInt = A) (hb : y.toInt = B) (hd : decode c.code pc = .ok (.if_icmp .lt o, 3)) (pt pn : Nat) (h1 : A < B → Wk p e below Fe T (mkF m pt Ls S)) (h2 : B ≤ A → Wk p e below Fe T (mkF m pn Ls S)) (ho : 0 ≤ (pc : Int) + o := by decide) (hp : ((pc : Int) + o).toNat = pt := by decide) (hn : pc + 3 = pn := by rfl) : Wk p e below Fe T (mkF m pc Ls (.int y :: .int x :: S)) := by
  subst hn
  by_cases q : A < B
  · exact (h1 q).step fun _ k => XS.icmpYes X.here hx rfl rfl hd rfl ((holds_lt ha hb).1 q) ho hp k
  · have q' : B ≤ A := by omega
    exact (h2 q').step fun _ k => XS.icmpNo X.here hx rfl hd rfl ((holds_lt ha hb).2 q') k
theorem w_if_lt (X : Stand p l e R s m args below meth c T locs cells slots) (hx : p.tables.exec = Jvm.exec) {x : Int32} {o : Int} (A : Int) (ha : x.toInt = A) (hd : decode c.code pc = .ok (.ifCond .lt o, 3)) (pt pn : Nat) (h1 : A < 0 → Wk p e below Fe T (mkF m pt Ls S)) (h2 : 0 ≤ A → Wk p e below Fe T (mkF m pn Ls S)) (ho : 0 ≤ (pc : Int) + o := by decide) (hp : ((pc : Int) + o).toNat = pt := by decide) (hn : pc + 3 = pn := by rfl) : Wk p e below Fe T (mkF m pc Ls (.int x :: S)) := by
  subst hn
  have hb : (0 : Int32).toInt = 0 := rfl
  by_cases q : A < 0
  · exact (h1 q).step fun _ k => XS.ifYes X.here hx rfl rfl hd rfl ((if0 _ _).trans ((holds_lt ha hb).1 q)) ho hp k
  · have q' : 0 ≤ A := by omega
    exact (h2 q').step fun _ k => XS.ifNo X.here hx rfl hd rfl ((if0 _ _).trans ((holds_lt ha hb).2 q')) k
theorem holds_le {x y : Int32} {A B : Int} (ha : x.toInt = A) (hb : y.toInt = B) : ((A ≤ B) → if_icmp.holds .le x y = true) ∧ ((B < A) → if_icmp.holds .le x y = false) := by
  subst ha hb
  constructor
  · intro q
    first
    | exact (tlt (x := x) (y := y) (Int32.lt_iff_toInt_lt.mpr (by omega))).1
    | exact (flt (x := x) (y := y) (fun r => by have := Int32.lt_iff_toInt_lt.mp r; omega)).2.1
    | exact (tlt (x := y) (y := x) (Int32.lt_iff_toInt_lt.mpr (by omega))).2.2.1
    | exact (flt (x := y) (y := x) (fun r => by have := Int32.lt_iff_toInt_lt.mp r; omega)).2.2.2
    | exact (teq (x := x) (y := y) (Int32.toInt_inj.mp (by omega))).1
    | exact (feq (x := x) (y := y) (fun r => q (by rw [r]))).2
  · intro q
    first
    | exact (flt (x := x) (y := y) (fun r => by have := Int32.lt_iff_toInt_lt.mp r; omega)).1
    | exact (tlt (x := x) (y := y) (Int32.lt_iff_toInt_lt.mpr (by omega))).2.1
    | exact (flt (x := y) (y := x) (fun r => by have := Int32.lt_iff_toInt_lt.mp r; omega)).2.2.1
    | exact (tlt (x := y) (y := x) (Int32.lt_iff_toInt_lt.mpr (by omega))).2.2.2
    | exact (feq (x := x) (y := y) (fun r => q (by rw [r]))).1
    | exact (teq (x := x) (y := y) (Int32.toInt_inj.mp (by omega))).2
theorem w_icmp_le (X : Stand p l e R s m args below meth c T locs cells slots) (hx : p.tables.exec = Jvm.exec) {x y : Int32} {o : Int} (A B : Int) (ha : x.toInt = A) (hb : y.toInt = B) (hd : decode c.code pc = .ok (.if_icmp .le o, 3)) (pt pn : Nat) (h1 : A ≤ B → Wk p e below Fe T (mkF m pt Ls S)) (h2 : B < A → Wk p e below Fe T (mkF m pn Ls S)) (ho : 0 ≤ (pc : Int) + o := by decide) (hp : ((pc : Int) + o).toNat = pt := by decide) (hn : pc + 3 = pn := by rfl) : Wk p e below Fe T (mkF m pc Ls (.int y :: .int x :: S)) := by
  subst hn
  by_cases q : A ≤ B
  · exact (h1 q).step fun _ k => XS.icmpYes X.here hx rfl rfl hd rfl ((holds_le ha hb).1 q) ho hp k
  · have q' : B < A := by omega
    exact (h2 q').step fun _ k => XS.icmpNo X.here hx rfl hd rfl ((holds_le ha hb).2 q') k
theorem w_acmp (X : Stand p l e R s m args below meth c T locs cells slots) (hx : p.tables.exec = Jvm.exec) {cd : ACond} {x y : Value} {o : Int} (h1 : x.isRef = true) (h2 : y.isRef = true) (hd : decode c.code pc = .ok (.if_acmp cd o, 3)) (same : Bool) (hq : decide (x = y) = same) (pc' : Nat) (ho : 0 ≤ (pc : Int) + o) (hp : pc' = if acV cd same = true then ((pc : Int) + o).toNat else pc + 3) (h : Wk p e below Fe T (mkF m pc' Ls S)) : Wk p e below Fe T (mkF m pc Ls (y :: x :: S)) :=
  h.step fun _ k => Jvm.RoadKit.acmp (g := mkF m pc Ls (y :: x :: S)) X hx rfl h1 h2 rfl hd rfl hq ho hp k
theorem w_retN (X : Stand p l e R s m args below meth c T locs cells slots) (hx : p.tables.exec = Jvm.exec) (hlocks : meth.locks = false) {t : FieldType} {z : Int32} (hret : meth.sig.returnType = some t) (ht : t = .boolean ∨ t = .byte ∨ t = .char ∨ t = .short) (hd : decode c.code pc = .ok (.ireturn, 1)) (hc : cells ≤ kc) (hs : slots ≤ ks) (hQ : Q (some (.int (nar t z))) T.heap locs) : Wk p e below (FN s Q kc ks) T (mkF m pc Ls (.int z :: S)) := by
  obtain ⟨fs, hr, hrun, hended, hW, hsame⟩ := X.leave (v := some (.int (nar t z))) (fun h => by rw [hret] at h; cases h) hlocks
  exact ⟨_, _, retN X hx hret ht hd hr, hrun, hended, _, _, rfl, hQ, ⟨_, rfl⟩, hW, hsame.mono hc hs⟩
theorem w_retO (X : Stand p l e R s m args below meth c T locs cells slots) (hx : p.tables.exec = Jvm.exec) (hlocks : meth.locks = false) {t : FieldType} {w : Value} {i : Instr} (hret : meth.sig.returnType = some t) (hn : narrow t w = w)
    (hi : (i = .ireturn ∧ (t = .int ∨ t = .boolean ∨ t = .byte ∨ t = .char ∨ t = .short) ∧ ∃ z, w = .int z) ∨ (i = .lreturn ∧ t = .long ∧ ∃ z, w = .long z) ∨ (i = .dreturn ∧ t = .double ∧ ∃ z, w = .double z) ∨ (i = .freturn ∧ t = .float ∧ ∃ z, w = .float z) ∨ (i = .areturn ∧ t.isReference = true ∧ w.isRef = true))
    (hd : decode c.code pc = .ok (i, 1)) (hc : cells ≤ kc) (hs : slots ≤ ks) (hQ : Q (some w) T.heap locs) : Wk p e below (FN s Q kc ks) T (mkF m pc Ls (w :: S)) := by
  obtain ⟨fs, hr, hrun, hended, hW, hsame⟩ := X.leave (v := some w) (fun h => by rw [hret] at h; cases h) hlocks
  exact ⟨_, _, retOut X hx hret hn hi hd hr, hrun, hended, _, _, rfl, hQ, ⟨_, rfl⟩, hW, hsame.mono hc hs⟩
theorem w_retA (X : Stand p l e R s m args below meth c T locs cells slots) (hx : p.tables.exec = Jvm.exec) (hlocks : meth.locks = false) {t : FieldType} {w : Value} (hret : meth.sig.returnType = some t) (ht : t.isReference = true) (hw : w.isRef = true) (hd : decode c.code pc = .ok (.areturn, 1)) (hc : cells ≤ kc) (hs : slots ≤ ks) (hQ : Q (some w) T.heap locs) : Wk p e below (FN s Q kc ks) T (mkF m pc Ls (w :: S)) :=
  w_retO X hx hlocks hret (by cases t <;> first | (cases ht; done) | (cases w <;> first | rfl | (cases hw; done))) (Or.inr (Or.inr (Or.inr (Or.inr ⟨rfl, ht, hw⟩)))) hd hc hs hQ
theorem w_ret0 (X : Stand p l e R s m args below meth c T locs cells slots) (hx : p.tables.exec = Jvm.exec) (hlocks : meth.locks = false) (hret : meth.sig.returnType = none) (hd : decode c.code pc = .ok (.return_, 1)) (hc : cells ≤ kc) (hs : slots ≤ ks) (hQ : Q none T.heap locs) : Wk p e below (FN s Q kc ks) T (mkF m pc Ls []) := by
  obtain ⟨fs, hr, hrun, hended, hW, hsame⟩ := X.leave (v := none) (fun _ => rfl) hlocks
  exact ⟨_, _, X.returnOut hx hret hd hr, hrun, hended, _, _, rfl, hQ, ⟨_, rfl⟩, hW, hsame.mono hc hs⟩
theorem w_callS (X : Stand p l e R s m args below meth c T locs cells slots) (hx : p.tables.exec = Jvm.exec) (hZ : Z.Warmed39 s.vm) {own : String} {index : Nat} {y : MethodName} {bytes : ByteArray} {maxL : Nat} {ret : Option FieldType} {rm : Room} {as' : Array Value} {Qc : Option Value → Heap → List Loc → Prop} (hown : s.vm.findClass own = some m.cls) (eT : T.heap = h)
    (hM : MetFree l y (head1 [Cond.code y bytes maxL ret] rm) (fun a U => a = as' ∧ Z.Warmed39 U.vm ∧ U.heap = h) (fun _ _ _ _ _ => True) (fun _ U o U' => ∃ v L, o = .returned v ∧ Qc v U'.heap L ∧ FrameEnd U o U' L rm.cells rm.slots))
    (w1 : (Cond.methodLink own index y).before a0 Z = true) (w2 : (Cond.static y).before a0 Z = true) (w3 : (Cond.initialized y.cls).before a0 Z = true) (w4 : (Cond.code y bytes maxL ret).before a0 Z = true) (hy : y.cls ≠ "java/lang/invoke/MethodHandle" ∧ y.cls ≠ "java/lang/invoke/VarHandle")
    (hsize : Ls.size = c.maxLocals) (argsL rest : List Value) (hlen : ∀ sig, parseMethodDescriptor y.desc = some sig → argsL.length = sig.parameters.length) (hst : S = argsL.reverse ++ rest) (has : argsL.toArray = as')
    (hf : rm.frames + 1 ≤ R.frames) (W : Nat) (hW : (rest.map fun v => v.category).sum = W) (hl : W + (maxL + 11) + rm.locals ≤ R.locals) (hc : cells + rm.cells ≤ R.cells) (hs : slots + rm.slots ≤ R.slots) (hd : decode c.code pc = .ok (.invokestatic index, 3)) (pc' : Nat) (hp : pc + 3 = pc')
    (k : ∀ (v : Option Value) (T' : State) (L : List Loc), Stand p l e R s m args below meth c T' (locs ++ L) (cells + rm.cells) (slots + rm.slots) → Qc v T'.heap L → Wk p e below Fe T' (mkF m pc' Ls (v.toList ++ rest))) : Wk p e below Fe T (mkF m pc Ls S) := by
  subst hp hst has hW
  obtain ⟨v, _, ⟨T', L', k', n'⟩, -, X', ⟨Lc, q1, q2, q3, q4⟩, st⟩ := Jvm.LawKit.callS X hx hown (mvT hZ w1) (mvT hZ w2) (mvT hZ w3) (mvT hZ w4) hy (backOf hM hZ w4 w3 hf hl) (g := mkF m pc Ls (argsL.reverse ++ rest)) rfl hsize hlen rfl (by show 2 * 0 + _ ≤ _; rw [Nat.mul_zero, Nat.zero_add]; exact Nat.le_refl _) hd (fun _ _ => ⟨rfl, eT, hc, hs⟩)
  dsimp only [Pt.U, Pt.locs, Pt.cells, Pt.slots] at X' q2 q3 q4 st q1
  subst q2 q3 q4
  exact (k v T' Lc X' q1).step st
theorem w_init (X : Stand p l e R s m args below meth c T locs cells slots) (hx : p.tables.exec = Jvm.exec) (hZ : Z.Warmed39 s.vm) {own : String} {index : Nat} {y : MethodName} {bytes : ByteArray} {maxL : Nat} {rm : Room} {as' : Array Value} {Qc : Option Value → Heap → List Loc → Prop} (hy1 : y.name = "<init>") (hown : s.vm.findClass own = some m.cls) (eT : T.heap = h)
    (hM : MetFree l y (head1 [Cond.code y bytes maxL none] rm) (fun a U => a = as' ∧ Z.Warmed39 U.vm ∧ U.heap = h) (fun _ _ _ _ _ => True) (fun _ U o U' => ∃ v L, o = .returned v ∧ Qc v U'.heap L ∧ FrameEnd U o U' L rm.cells rm.slots))
    (w1 : (Cond.methodLink own index y).before a0 Z = true) (w2 : (Cond.instanceMethod y).before a0 Z = true) (w3 : (Cond.initialized y.cls).before a0 Z = true) (w4 : (Cond.code y bytes maxL none).before a0 Z = true) (hy : y.cls ≠ "java/lang/invoke/MethodHandle" ∧ y.cls ≠ "java/lang/invoke/VarHandle")
    (hsize : Ls.size = c.maxLocals) (a : Addr) (argsL rest : List Value) (hlen : ∀ sig, parseMethodDescriptor y.desc = some sig → argsL.length = sig.parameters.length) (hst : S = argsL.reverse ++ .ref a :: rest) (has : (Value.ref a :: argsL).toArray = as')
    (hf : rm.frames + 1 ≤ R.frames) (W : Nat) (hW : (rest.map fun v => v.category).sum = W) (hl : W + (maxL + 11) + rm.locals ≤ R.locals) (hc : cells + rm.cells ≤ R.cells) (hs : slots + rm.slots ≤ R.slots) (hd : decode c.code pc = .ok (.invokespecial index, 3)) (pc' : Nat) (hp : pc + 3 = pc')
    (k : ∀ (v : Option Value) (T' : State) (L : List Loc), Stand p l e R s m args below meth c T' (locs ++ L) (cells + rm.cells) (slots + rm.slots) → Qc v T'.heap L → Wk p e below Fe T' (mkF m pc' Ls (v.toList ++ rest))) : Wk p e below Fe T (mkF m pc Ls S) := by
  subst hp hst has hW
  obtain ⟨v, _, ⟨T', L', k', n'⟩, -, X', ⟨Lc, q1, q2, q3, q4⟩, st⟩ := X.specialBack hx hy1 hown (mvT hZ w1) (mvT hZ w2) (mvT hZ w4) hy (backOf hM hZ w4 w3 hf hl) (g := mkF m pc Ls (argsL.reverse ++ .ref a :: rest)) rfl hsize (Steps.refl _) hlen rfl (by show 2 * 0 + _ ≤ _; rw [Nat.mul_zero, Nat.zero_add]; exact Nat.le_refl _) hd (fun _ _ => ⟨rfl, eT, hc, hs⟩)
  dsimp only [Pt.U, Pt.locs, Pt.cells, Pt.slots] at X' q2 q3 q4 st q1
  subst q2 q3 q4
  exact (k v T' Lc X' q1).come st
theorem w_virt (X : Stand p l e R s m args below meth c T locs cells slots) (hx : p.tables.exec = Jvm.exec) (hZ : Z.Warmed39 s.vm) {own : String} {index : Nat} {y : MethodName} {bytes : ByteArray} {maxL : Nat} {ret : Option FieldType} {rm : Room} {as' : Array Value} {Qc : Option Value → Heap → List Loc → Prop} {C : String} {y0 : MethodName} (hown : s.vm.findClass own = some m.cls) (eT : T.heap = h)
    (hM : MetFree l y (head1 [Cond.code y bytes maxL ret] rm) (fun a U => a = as' ∧ Z.Warmed39 U.vm ∧ U.heap = h) (fun _ _ _ _ _ => True) (fun _ U o U' => ∃ v L, o = .returned v ∧ Qc v U'.heap L ∧ FrameEnd U o U' L rm.cells rm.slots))
    (w1 : (Cond.methodLink own index y0).before a0 Z = true) (w2 : (Cond.declares y0).before a0 Z = true) (nf : NotFace s y0) (w5 : (Cond.selects C y0 y).before a0 Z = true) (w6 : (Cond.instanceMethod y).before a0 Z = true) (w3 : (Cond.initialized y.cls).before a0 Z = true) (w4 : (Cond.code y bytes maxL ret).before a0 Z = true) (hy : y0.cls ≠ "java/lang/invoke/MethodHandle" ∧ y0.cls ≠ "java/lang/invoke/VarHandle")
    (a : Addr) (E : Exa Z h a C)
    (hsize : Ls.size = c.maxLocals) (argsL rest : List Value) (hlen : ∀ sig, parseMethodDescriptor y0.desc = some sig → argsL.length = sig.parameters.length) (hst : S = argsL.reverse ++ .ref a :: rest) (has : (Value.ref a :: argsL).toArray = as')
    (hf : rm.frames + 1 ≤ R.frames) (W : Nat) (hW : (rest.map fun v => v.category).sum = W) (hl : W + (maxL + 11) + rm.locals ≤ R.locals) (hc : cells + rm.cells ≤ R.cells) (hs : slots + rm.slots ≤ R.slots) (hd : decode c.code pc = .ok (.invokevirtual index, 3)) (pc' : Nat) (hp : pc + 3 = pc')
    (k : ∀ (v : Option Value) (T' : State) (L : List Loc), Stand p l e R s m args below meth c T' (locs ++ L) (cells + rm.cells) (slots + rm.slots) → Qc v T'.heap L → Wk p e below Fe T' (mkF m pc' Ls (v.toList ++ rest))) : Wk p e below Fe T (mkF m pc Ls S) := by
  subst hp hst has hW
  obtain ⟨cq, kq, qa, qb, qc⟩ := isOf hZ eT E
  obtain ⟨v, _, ⟨T', L', k', n'⟩, -, X', ⟨Lc, q1, q2, q3, q4⟩, st⟩ := X.virtualBack hx hown (mvT hZ w1) (mvT hZ w2) nf (mvT hZ w5) (mvT hZ w6) hy (backOf hM hZ w4 w3 hf hl) qa qc (g := mkF m pc Ls (argsL.reverse ++ .ref a :: rest)) rfl hsize (Steps.refl _) hlen rfl (by show 2 * 0 + _ ≤ _; rw [Nat.mul_zero, Nat.zero_add]; exact Nat.le_refl _) hd (fun _ _ => ⟨rfl, eT, hc, hs⟩)
  dsimp only [Pt.U, Pt.locs, Pt.cells, Pt.slots] at X' q2 q3 q4 st q1
  subst q2 q3 q4
  exact (k v T' Lc X' q1).come st
theorem w_objinit (X : Stand p l e R s m args below meth c T locs cells slots) (hx : p.tables.exec = Jvm.exec) (hZ : Z.Warmed39 s.vm) {own : String} {idx : Nat} (hown : s.vm.findClass own = some m.cls) (eT : T.heap = h) (w1 : (Cond.methodLink own idx Lib.objectInit).before a0 Z = true) (w2 : (Cond.instanceMethod Lib.objectInit).before a0 Z = true) (w3 : (Cond.code Lib.objectInit ⟨#[0xb1]⟩ 1 none).before a0 Z = true)
    (hsize : Ls.size = c.maxLocals) {a : Addr} (hf : 1 ≤ R.frames) (W : Nat) (hW : (S.map fun v => v.category).sum = W) (hl : W + 12 ≤ R.locals) (hd : decode c.code pc = .ok (.invokespecial idx, 3)) (pc' : Nat) (hp : pc + 3 = pc')
    (k : ∀ T' : State, Stand p l e R s m args below meth c T' locs cells slots → T'.heap = h → Wk p e below Fe T' (mkF m pc' Ls S)) : Wk p e below Fe T (mkF m pc Ls (.ref a :: S)) := by
  subst hp hW
  obtain ⟨T', X', e', st⟩ := initO X hx hZ hown w1 w2 w3 eT (g := mkF m pc Ls (.ref a :: S)) rfl hsize rfl hd hf (by show 2 * 0 + _ ≤ _; rw [Nat.mul_zero, Nat.zero_add]; exact Nat.le_refl _) hl
  exact (k T' X' e').step st
theorem w_getS (X : Stand p l e R s m args below meth c T locs cells slots) (hx : p.tables.exec = Jvm.exec) (hZ : Z.Warmed39 s.vm) {own R0 O n d host : String} {index : Nat} (hown : s.vm.findClass own = some m.cls) (eT : T.heap = h) (w : (Cond.fieldLink own index R0 n d).before a0 Z = true ∨ (Cond.fieldLinkNest own index R0 n d host).before a0 Z = true) (via : Via Z R0 O n d)
    {v : Value} (F : Sta Z h O n d v) (hd : decode c.code pc = .ok (.getstatic index, 3)) (pc' : Nat) (hp : pc + 3 = pc')
    (k : ∀ T' : State, Stand p l e R s m args below meth c T' locs cells slots → T'.heap = h → Wk p e below Fe T' (mkF m pc' Ls (v :: S))) : Wk p e below Fe T (mkF m pc Ls S) := by
  subst hp
  obtain ⟨T', X', e', st⟩ := getS2 X hx hZ hown w via eT F (g := mkF m pc Ls S) rfl hd
  exact (k T' X' e').step st
theorem w_putF (X : Stand p l e R s m args below meth c T locs cells slots) (hx : p.tables.exec = Jvm.exec) (hZ : Z.Warmed39 s.vm) {own R0 O n d host C : String} {index kk : Nat} {ty : FieldType} (hown : s.vm.findClass own = some m.cls) (eT : T.heap = h) (w : (Cond.fieldLink own index R0 n d).before a0 Z = true ∨ (Cond.fieldLinkNest own index R0 n d host).before a0 Z = true) (via : Via Z R0 O n d)
    {a : Addr} {v old : Value} (F : Fld Z h a O n d old) (E : Exa Z h a C) (L : (Cond.lays C O n d).before a0 Z = true ∨ ((Cond.laysFinal C O n d).before a0 Z = true ∧ own = O ∧ meth.name = "<init>")) (wi : (Cond.instantiable C kk).before a0 Z = true)
    (hty : parseFieldDescriptor d = some ty) (hn : narrow ty v = v) (hf : fits ty v = true) (hd : decode c.code pc = .ok (.putfield index, 3)) (pc' : Nat) (hp : pc + 3 = pc')
    (k : ∀ (T' : State) (h' : Heap), Stand p l e R s m args below meth c T' (locs ++ [⟨a, Jvm.RoadKit.slotOf Z O n d⟩]) cells slots → T'.heap = h' → Wr h h' a (Jvm.RoadKit.slotOf Z O n d) v → Wk p e below Fe T' (mkF m pc' Ls S)) : Wk p e below Fe T (mkF m pc Ls (v :: .ref a :: S)) := by
  subst hp
  obtain ⟨T', h', X', e', W', st⟩ := putF X hx hZ hown w via eT F E L wi hty hn hf (g := mkF m pc Ls (v :: .ref a :: S)) rfl rfl hd
  exact (k T' h' X' e' W').step st
theorem w_new (X : Stand p l e R s m args below meth c T locs cells slots) (hx : p.tables.exec = Jvm.exec) (hZ : Z.Warmed39 s.vm) {own C : String} {index n : Nat} (hown : s.vm.findClass own = some m.cls) (eT : T.heap = h) (w : (Cond.classLink own index C).before a0 Z = true) (wi : (Cond.instantiable C n).before a0 Z = true) (wz : (Cond.initialized C).before a0 Z = true)
    (hc : cells + 1 ≤ R.cells) (hl : slots + n ≤ R.slots) (hd : decode c.code pc = .ok (.new index, 3)) (pc' : Nat) (hp : pc + 3 = pc')
    (k : ∀ (T' : State) (h' : Heap) (a : Addr), Stand p l e R s m args below meth c T' locs (cells + 1) (slots + n) → T'.heap = h' → a = h.size → Ext h h' → Exa Z h' a C → (∀ {O nm d : String} {ty : FieldType}, Laid Z a0 C O nm d → parseFieldDescriptor d = some ty → Fld Z h' a O nm d (defaultValue ty)) → Wk p e below Fe T' (mkF m pc' Ls (.ref a :: S))) : Wk p e below Fe T (mkF m pc Ls S) := by
  subst hp
  obtain ⟨T', h', X', e', E', A', D', -, st⟩ := newO X hx hZ hown w wi wz eT (g := mkF m pc Ls S) rfl hd hc hl
  exact (k T' h' _ X' e' rfl E' A' D').step st
theorem w_newP (X : Stand p l e R s m args below meth c T locs cells slots) (hx : p.tables.exec = Jvm.exec) (hZ : Z.Warmed39 s.vm) (eT : T.heap = h) {aty : ArrayType} (w : (Cond.arrayClass (newarray.typeOf aty)).before a0 Z = true) {n : Int32} (hn : ¬ n < 0) (cap : Nat) (hcap : n.toNatClampNeg ≤ cap) (hb : cap * 8 ≤ 536870912) (hc : cells + 1 ≤ R.cells) (hl : slots + cap ≤ R.slots) (hd : decode c.code pc = .ok (.newarray aty, 2)) (pc' : Nat) (hp : pc + 2 = pc')
    (k : ∀ (T' : State) (h' : Heap) (a : Addr) (cA : ClassId), Stand p l e R s m args below meth c T' locs (cells + 1) (slots + cap) → T'.heap = h' → a = h.size → Ext h h' → Arv Z h' a cA (newarray.typeOf aty) n [] (defaultValue (newarray.typeOf aty)) → Wk p e below Fe T' (mkF m pc' Ls (.ref a :: S))) : Wk p e below Fe T (mkF m pc Ls (.int n :: S)) := by
  subst hp
  obtain ⟨T', h', cA, X', e', E', A', st⟩ := newP X hx hZ w eT (g := mkF m pc Ls (.int n :: S)) rfl hd rfl hn hcap hb hc hl
  exact (k T' h' _ cA X' e' rfl E' (Arv.new A' hn)).step st
theorem w_length (X : Stand p l e R s m args below meth c T locs cells slots) (hx : p.tables.exec = Jvm.exec) (hZ : Z.Warmed39 s.vm) (eT : T.heap = h) {a : Addr} {kA : ClassId} {ty : FieldType} {z : Int32} {vs : List Value} {dv : Value} (A : Arv Z h a kA ty z vs dv) (hd : decode c.code pc = .ok (.arraylength, 1)) (pc' : Nat) (hp : pc + 1 = pc')
    (k : Wk p e below Fe T (mkF m pc' Ls (.int z :: S))) : Wk p e below Fe T (mkF m pc Ls (.ref a :: S)) := by
  subst hp
  obtain ⟨cl, Ar, -, Sz, Nz, -, -⟩ := A
  refine k.step fun t q => X.arraylength hx (by rw [eT]; exact Ar.1) (State.isArrayOf_alike hZ.alike Ar.2.1) (g := mkF m pc Ls (.ref a :: S)) rfl rfl hd t ?_
  rw [len_of Sz Nz]; exact q
theorem w_bastore (X : Stand p l e R s m args below meth c T locs cells slots) (hx : p.tables.exec = Jvm.exec) (hZ : Z.Warmed39 s.vm) (eT : T.heap = h) {a : Addr} {kA : ClassId} {z : Int32} {vs : List Value} {dv : Value} (A : Arv Z h a kA .byte z vs dv) {j x : Int32} (hj : 0 ≤ j.toInt ∧ j.toInt < z.toInt) (i : Nat) (hi : j.toNatClampNeg = i) (hv : i < vs.length) (hd : decode c.code pc = .ok (.bastore, 1)) (pc' : Nat) (hp : pc + 1 = pc')
    (k : ∀ (T' : State) (h' : Heap), Stand p l e R s m args below meth c T' (locs ++ [⟨a, j.toNatClampNeg⟩]) cells slots → T'.heap = h' → Wr h h' a j.toNatClampNeg (.int x.toInt8.toInt32) → Arv Z h' a kA .byte z (vs.set i (.int x.toInt8.toInt32)) dv → Wk p e below Fe T' (mkF m pc' Ls S)) : Wk p e below Fe T (mkF m pc Ls (.int x :: .int j :: .ref a :: S)) := by
  subst hp
  obtain ⟨cl, Ar, q, Sz, Nz, H, G⟩ := A
  have hin : ¬ (j < 0 ∨ cl.slots.size ≤ j.toNatClampNeg) := inb_of Sz ⟨fun r => by have := Int32.lt_iff_toInt_lt.mp r; have h0 : (0 : Int32).toInt = 0 := rfl; omega, Int32.lt_iff_toInt_lt.mpr hj.2⟩
  obtain ⟨T', h', X', e', W', st⟩ := stB X hx hZ eT Ar hin (g := mkF m pc Ls (.int x :: .int j :: .ref a :: S)) rfl rfl hd
  exact (k T' h' X' e' W' (Arv.set Ar q Sz Nz H G (fits_nar_byte _) W' i hi hv)).step st
theorem w_baload (X : Stand p l e R s m args below meth c T locs cells slots) (hx : p.tables.exec = Jvm.exec) (hZ : Z.Warmed39 s.vm) (eT : T.heap = h) {a : Addr} {kA : ClassId} {z : Int32} {vs : List Value} {dv : Value} (A : Arv Z h a kA .byte z vs dv) {j : Int32} (hj : 0 ≤ j.toInt ∧ j.toInt < z.toInt) {v : Value} (hv : vs.getD j.toNatClampNeg dv = v) (hd : decode c.code pc = .ok (.baload, 1)) (pc' : Nat) (hp : pc + 1 = pc')
    (k : Wk p e below Fe T (mkF m pc' Ls (v :: S))) : Wk p e below Fe T (mkF m pc Ls (.int j :: .ref a :: S)) := by
  subst hp
  obtain ⟨cl, Ar, q, Sz, Nz, H, G⟩ := A
  have hin : ¬ (j < 0 ∨ cl.slots.size ≤ j.toNatClampNeg) := inb_of Sz ⟨fun r => by have := Int32.lt_iff_toInt_lt.mp r; have h0 : (0 : Int32).toInt = 0 := rfl; omega, Int32.lt_iff_toInt_lt.mpr hj.2⟩
  exact k.step fun t r => X.baloadBytes hx (by rw [eT]; exact Ar.1) (State.isArrayOf_alike hZ.alike Ar.2.1) Ar.2.2 hin (Has.at H hin hv) (g := mkF m pc Ls (.int j :: .ref a :: S)) rfl rfl hd t r
theorem w_newPE (X : Stand p l e R s m args below meth c T locs cells slots) (hx : p.tables.exec = Jvm.exec) (hZ : Z.Warmed39 s.vm) (eT : T.heap = h) {aty : ArrayType} (w : (Cond.arrayClass (newarray.typeOf aty)).before a0 Z = true) {n : Int32} (hn : ¬ n < 0) (cap : Nat) (hcap : n.toNatClampNeg ≤ cap) (hb : cap * 8 ≤ 536870912) (hc : cells + 1 ≤ R.cells) (hl : slots + cap ≤ R.slots) (ad : String) (had : "[" ++ (newarray.typeOf aty).toString = ad) (hd : decode c.code pc = .ok (.newarray aty, 2)) (pc' : Nat) (hp : pc + 2 = pc')
    (k : ∀ (T' : State) (h' : Heap) (a : Addr) (cA : ClassId), Stand p l e R s m args below meth c T' locs (cells + 1) (slots + cap) → T'.heap = h' → a = h.size → Ext h h' → Arv Z h' a cA (newarray.typeOf aty) n [] (defaultValue (newarray.typeOf aty)) → Exa Z h' a ad → Wk p e below Fe T' (mkF m pc' Ls (.ref a :: S))) : Wk p e below Fe T (mkF m pc Ls (.int n :: S)) := by
  subst hp
  obtain ⟨T', h', cA, X', e', E', A', Ex, st⟩ := newPE X hx hZ w eT (g := mkF m pc Ls (.int n :: S)) rfl hd rfl hn hcap hb hc hl had
  exact (k T' h' _ cA X' e' rfl E' (Arv.new A' hn) Ex).step st
theorem w_clone (X : Stand p l e R s m args below meth c T locs cells slots) (hx : p.tables.exec = Jvm.exec) (hZ : Z.Warmed39 s.vm) {own ad : String} {index : Nat} (hown : s.vm.findClass own = some m.cls) (eT : T.heap = h)
    (w1 : (Cond.methodLink own index ⟨ad, "clone", "()Ljava/lang/Object;"⟩).before a0 Z = true) (w2 : (Cond.sameMethod ad "java/lang/Object" "clone" "()Ljava/lang/Object;").before a0 Z = true) (w3 : (Cond.native ⟨"java/lang/Object", "clone", "()Ljava/lang/Object;"⟩).before a0 Z = true)
    (w4 : (Cond.instanceMethod ⟨"java/lang/Object", "clone", "()Ljava/lang/Object;"⟩).before a0 Z = true) (w5 : (Cond.selects ad ⟨ad, "clone", "()Ljava/lang/Object;"⟩ ⟨"java/lang/Object", "clone", "()Ljava/lang/Object;"⟩).before a0 Z = true) (w6 : (Cond.castable ad "java/lang/Cloneable").before a0 Z = true)
    {a : Addr} {kA : ClassId} {ty : FieldType} {z : Int32} {vs : List Value} {dv : Value} (F : Arv Z h a kA ty z vs dv) (E : Exa Z h a ad) (hsize : Ls.size = c.maxLocals) (hf : 1 ≤ R.frames) (W : Nat) (hW : (S.map fun v => v.category).sum = W) (hl : W + 14 ≤ R.locals) (cap : Nat) (hcap : z.toNatClampNeg ≤ cap) (hc : cells + 1 ≤ R.cells) (hsl : slots + cap ≤ R.slots)
    (hd : decode c.code pc = .ok (.invokevirtual index, 3)) (pc' : Nat) (hp : pc + 3 = pc')
    (k : ∀ (T' : State) (h' : Heap) (b : Addr), Stand p l e R s m args below meth c T' locs (cells + 1) (slots + cap) → T'.heap = h' → b = h.size → Ext h h' → Arv Z h' b kA ty z vs dv → Exa Z h' b ad → Wk p e below Fe T' (mkF m pc' Ls (.ref b :: S))) : Wk p e below Fe T (mkF m pc Ls (.ref a :: S)) := by
  subst hp hW
  obtain ⟨T', h', X', e', E', A', Ex, st⟩ := cloneH X hx hZ hown w1 w2 w3 w4 w5 w6 eT F.arh E (g := mkF m pc Ls (.ref a :: S)) rfl hsize rfl hd hf (by show 2 * 0 + _ ≤ _; rw [Nat.mul_zero, Nat.zero_add]; exact Nat.le_refl _) hl hcap hc hsl
  exact (k T' h' _ X' e' rfl E' A' Ex).step st
theorem w_cast (X : Stand p l e R s m args below meth c T locs cells slots) (hx : p.tables.exec = Jvm.exec) (hZ : Z.Warmed39 s.vm) {own K : String} {index : Nat} (hown : s.vm.findClass own = some m.cls) (eT : T.heap = h) (w : (Cond.classLink own index K).before a0 Z = true) {a : Addr} (F : Ins Z h a K true) (hd : decode c.code pc = .ok (.checkcast index, 3)) (pc' : Nat) (hp : pc + 3 = pc')
    (k : ∀ T' : State, Stand p l e R s m args below meth c T' locs cells slots → T'.heap = h → Wk p e below Fe T' (mkF m pc' Ls (.ref a :: S))) : Wk p e below Fe T (mkF m pc Ls (.ref a :: S)) := by
  subst hp
  obtain ⟨T', X', e', st⟩ := castY X hx hZ hown w eT F (g := mkF m pc Ls (.ref a :: S)) rfl rfl hd
  exact (k T' X' e').step st
abbrev CT (l : Launch) (y : MethodName) (bytes : ByteArray) (maxL : Nat) (ret : Option FieldType) (ws : List Cond) (rm : Room) (as' : Array Value) (Z : State) (h0 : Heap) (Q : Option Value → Heap → List Loc → Prop) : Prop :=
  MetFree l y (head1 (Cond.code y bytes maxL ret :: ws) rm) (fun a U => a = as' ∧ Z.Warmed39 U.vm ∧ U.heap = h0) (fun _ _ _ _ _ => True) (fun _ U o U' => ∃ v L, o = .returned v ∧ Q v U'.heap L ∧ FrameEnd U o U' L rm.cells rm.slots)
theorem body_of {y : MethodName} {bytes : ByteArray} {maxL : Nat} {ret : Option FieldType} {ws : List Cond} {rm : Room} {as' : Array Value} {h0 : Heap} (hpl : plainFor y = true)
    (k : ∀ (p : Program) (e : Env) (s : State) (m : MethodId) (below : List Frame) (meth : Method) (c : Code) (s₁ : State), p.tables.exec = Jvm.exec → (∀ {pc : Nat} {r : Except DecodeError (Instr × Nat)}, decode bytes pc = r → decode c.code pc = r) → meth.sig.returnType = ret → meth.locks = false → c.maxLocals = maxL → s.vm.findClass y.cls = some m.cls → meth.name = y.name → Stand p l e rm s m as' below meth c s₁ [] 0 0 → s₁.heap = h0 → Z.Warmed39 s.vm → Wk p e below (FN s Q kc ks) s₁ (entryFrame m as' maxL)) :
    MetFree l y (head1 (Cond.code y bytes maxL ret :: ws) rm) (fun a U => a = as' ∧ Z.Warmed39 U.vm ∧ U.heap = h0) (fun _ _ _ _ _ => True) (fun _ U o U' => ∃ v L, o = .returned v ∧ Q v U'.heap L ∧ FrameEnd U o U' L kc ks) := by
  refine MetFree.of_bodySF hpl hisR ?_
  intro p e s m args below meth c s₁ Bd hml0 hP hK
  obtain ⟨rfl, hZ, hh⟩ := hP
  obtain ⟨s₂, o, h1, h2⟩ := k p e s m below meth c s₁ Bd.exec (fun q => hb Bd.bytes q) Bd.returns Bd.notSynchronized hml0 (findClass_of_methodNamed Bd.named) (name_of_methodNamed Bd.named Bd.method).1 (Stand.of_body Bd) (by rw [← hh, Bd.state]; rfl) hZ
  exact ⟨s₂, o, h1, h2⟩
theorem ne_arv {a b : Addr} {C : String} {k : Nat} {kA : ClassId} {ty : FieldType} {z : Int32} {vs : List Value} {dv : Value} (F : Exa Z h a C) (wi : (Cond.instantiable C k).before a0 Z = true) (G : Arv Z h b kA ty z vs dv) : a ≠ b := by
  obtain ⟨c, A, -⟩ := G; exact ne_arr F wi A
theorem exa_plain {a : Addr} {C : String} (E : Exa Z h a C) : ∃ cell : Cell, h[a]? = some cell ∧ cell.vm.isStatics = false := by
  obtain ⟨cell, k, h1, -, -, h4, -⟩ := E; exact ⟨cell, h1, h4⟩
theorem sta_keep {h' : Heap} {ws : List Addr} {C n d : String} {v : Value} (F : Sta Z h C n d v) (K : Keep h h' ws) (q : ∀ x ∈ ws, ∃ cell : Cell, h[x]? = some cell ∧ cell.vm.isStatics = false) : Sta Z h' C n d v := by
  obtain ⟨cf, i, k, f, st, cell, h1, h2, h3, h4, h5, h6, h7⟩ := F
  refine ⟨cf, i, k, f, st, cell, h1, h2, h3, h4, K.2.1 st cell h5 (fun hm => ?_), h6, h7⟩
  obtain ⟨c2, g1, g2⟩ := q st hm
  cases h5.symm.trans g1
  rw [g2] at h6; cases h6
end Walk
/-! plain facts on Int32 and Int64, in Ints -/
theorem eqI {x y : Int32} (h : x.toInt = y.toInt) : x = y := Int32.toInt_inj.mp h
theorem maskX {x m : Int32} {A : Int} (k : Nat) (ha : x.toInt = A) (hk : k ≤ 31) (hm : m.toBitVec.toNat = 2 ^ k - 1) : (x &&& m).toInt = A % (2 ^ k : Nat) := by subst ha; exact c_mask x m k hk hm
theorem ishrX {x q : Int32} {A : Int} (k : Nat) (ha : x.toInt = A) (hk : q.toBitVec.toNat % 32 = k) : (x >>> (q &&& 31)).toInt = A / (2 ^ k : Nat) := by subst ha; exact c_ishr x q k hk
theorem iushrX {x q : Int32} {A : Int} (k : Nat) (ha : x.toInt = A) (hk : q.toBitVec.toNat % 32 = k) (h0 : 0 < k) : ((x.toUInt32 >>> (q &&& 31).toUInt32).toInt32).toInt = (A % 4294967296) / (2 ^ k : Nat) := by subst ha; exact c_iushr x q k hk h0
theorem iremX {x y : Int32} {A d : Int} (ha : x.toInt = A) (hy : y.toInt = d) (h0 : 0 ≤ A) : (x % y).toInt = A % d := by subst ha; exact (c_irem x y d hy).1 h0
theorem i2bX {x : Int32} {A : Int} (ha : x.toInt = A) : (x.toInt8.toInt32.toInt - A) % 256 = 0 ∧ -128 ≤ x.toInt8.toInt32.toInt ∧ x.toInt8.toInt32.toInt < 128 := by
  subst ha; exact c_i2b x
theorem byteE {x : Int32} {A : Int} (ha : x.toInt = A) (h0 : -128 ≤ A) (h1 : A < 128) : x.toInt8.toInt32.toInt = x.toInt := by
  have := c_i2b x; omega
theorem clampN {x : Int32} {A : Int} (ha : x.toInt = A) (h : 0 ≤ A) : (x.toNatClampNeg : Int) = A := by
  simp only [Int32.toNatClampNeg]; omega
end Jvm.Own
namespace Jvm.Pilot.@@N@@
open Jvm Jvm.ClassFile Sem Op Lib Jvm.Free Jvm.Stand Jvm.LawKit Jvm.RoadKit Bundle Jvm.Own Jvm.Pilot.@@N@@.Jvm.D
abbrev cN_0 : String := "java/lang/Record"
abbrev cN_1 : String := "com/example/nodecard/nodecard/card/AccessCondition"
abbrev cN_2 : String := "Lcom/example/nodecard/nodecard/card/AccessCondition;"
abbrev cN_3 : String := "com/example/nodecard/nodecard/card/TransparentFileDescriptorPinLaw"
abbrev cN_4 : String := "com/example/nodecard/nodecard/card/FileHeader"
abbrev cN_5 : String := "com/example/nodecard/nodecard/card/TransparentFile"
abbrev cN_6 : String := "com/example/nodecard/nodecard/card/ElementaryFile"
abbrev cN_7 : String := "Lcom/example/nodecard/nodecard/card/FileHeader;"
theorem tw_0 {Z : State} {a0 : Array Value} (hw : ∀ d ∈ tables_1, d.before a0 Z = true) : (Jvm.Cond.constant "com/example/nodecard/nodecard/card/TransparentFileDescriptorPinLaw" (22 : Nat) (65535 : Int32)).before a0 Z = true := hw _ (List.mem_of_getElem? (i := 0) rfl)
theorem tw_1 {Z : State} {a0 : Array Value} (hw : ∀ d ∈ tables_1, d.before a0 Z = true) : (Jvm.Cond.constant "com/example/nodecard/nodecard/card/TransparentFileDescriptorPinLaw" (23 : Nat) (2147483647 : Int32)).before a0 Z = true := hw _ (List.mem_of_getElem? (i := 1) rfl)
theorem tw_2 {Z : State} {a0 : Array Value} (hw : ∀ d ∈ tables_1, d.before a0 Z = true) : (Jvm.Cond.methodLink "com/example/nodecard/nodecard/card/TransparentFileDescriptorPinLaw" (24 : Nat) ({ cls := "com/example/nodecard/nodecard/card/TransparentFileDescriptorPinLaw", name := "pick", desc := "(I)Lcom/example/nodecard/nodecard/card/AccessCondition;" } : Jvm.MethodName)).before a0 Z = true := hw _ (List.mem_of_getElem? (i := 2) rfl)
theorem tw_3 {Z : State} {a0 : Array Value} (hw : ∀ d ∈ tables_1, d.before a0 Z = true) : (Jvm.Cond.static ({ cls := "com/example/nodecard/nodecard/card/TransparentFileDescriptorPinLaw", name := "pick", desc := "(I)Lcom/example/nodecard/nodecard/card/AccessCondition;" } : Jvm.MethodName)).before a0 Z = true := hw _ (List.mem_of_getElem? (i := 3) rfl)
theorem tw_4 {Z : State} {a0 : Array Value} (hw : ∀ d ∈ tables_1, d.before a0 Z = true) : (Jvm.Cond.initialized "com/example/nodecard/nodecard/card/TransparentFileDescriptorPinLaw").before a0 Z = true := hw _ (List.mem_of_getElem? (i := 4) rfl)
theorem tw_5 {Z : State} {a0 : Array Value} (hw : ∀ d ∈ tables_1, d.before a0 Z = true) : (Jvm.Cond.code ({ cls := "com/example/nodecard/nodecard/card/TransparentFileDescriptorPinLaw", name := "pick", desc := "(I)Lcom/example/nodecard/nodecard/card/AccessCondition;" } : Jvm.MethodName) method_2_code (1 : Nat) (Option.some (Jvm.ClassFile.FieldType.object "com/example/nodecard/nodecard/card/AccessCondition"))).before a0 Z = true := hw _ (List.mem_of_getElem? (i := 5) rfl)
theorem tw_6 {Z : State} {a0 : Array Value} (hw : ∀ d ∈ tables_1, d.before a0 Z = true) : (Jvm.Cond.fieldLink "com/example/nodecard/nodecard/card/TransparentFileDescriptorPinLaw" (16 : Nat) "com/example/nodecard/nodecard/card/AccessCondition" "ADM1" "Lcom/example/nodecard/nodecard/card/AccessCondition;").before a0 Z = true := hw _ (List.mem_of_getElem? (i := 6) rfl)
theorem tw_7 {Z : State} {a0 : Array Value} (hw : ∀ d ∈ tables_1, d.before a0 Z = true) : (Jvm.Cond.initialized "com/example/nodecard/nodecard/card/AccessCondition").before a0 Z = true := hw _ (List.mem_of_getElem? (i := 7) rfl)
theorem tw_8 {Z : State} {a0 : Array Value} (hw : ∀ d ∈ tables_1, d.before a0 Z = true) : (Jvm.Cond.laysStatic "com/example/nodecard/nodecard/card/AccessCondition" "ADM1" "Lcom/example/nodecard/nodecard/card/AccessCondition;").before a0 Z = true := hw _ (List.mem_of_getElem? (i := 8) rfl)
theorem tw_9 {Z : State} {a0 : Array Value} (hw : ∀ d ∈ tables_1, d.before a0 Z = true) : (Jvm.Cond.fieldLink "com/example/nodecard/nodecard/card/TransparentFileDescriptorPinLaw" (7 : Nat) "com/example/nodecard/nodecard/card/AccessCondition" "ALWAYS" "Lcom/example/nodecard/nodecard/card/AccessCondition;").before a0 Z = true := hw _ (List.mem_of_getElem? (i := 9) rfl)
theorem tw_10 {Z : State} {a0 : Array Value} (hw : ∀ d ∈ tables_1, d.before a0 Z = true) : (Jvm.Cond.laysStatic "com/example/nodecard/nodecard/card/AccessCondition" "ALWAYS" "Lcom/example/nodecard/nodecard/card/AccessCondition;").before a0 Z = true := hw _ (List.mem_of_getElem? (i := 10) rfl)
theorem tw_11 {Z : State} {a0 : Array Value} (hw : ∀ d ∈ tables_1, d.before a0 Z = true) : (Jvm.Cond.arrayClass Jvm.ClassFile.FieldType.byte).before a0 Z = true := hw _ (List.mem_of_getElem? (i := 11) rfl)
theorem tw_12 {Z : State} {a0 : Array Value} (hw : ∀ d ∈ tables_1, d.before a0 Z = true) : (Jvm.Cond.classLink "com/example/nodecard/nodecard/card/TransparentFileDescriptorPinLaw" (30 : Nat) "com/example/nodecard/nodecard/card/FileHeader").before a0 Z = true := hw _ (List.mem_of_getElem? (i := 12) rfl)
theorem tw_13 {Z : State} {a0 : Array Value} (hw : ∀ d ∈ tables_1, d.before a0 Z = true) : (Jvm.Cond.instantiable "com/example/nodecard/nodecard/card/FileHeader" (4 : Nat)).before a0 Z = true := hw _ (List.mem_of_getElem? (i := 13) rfl)
theorem tw_14 {Z : State} {a0 : Array Value} (hw : ∀ d ∈ tables_1, d.before a0 Z = true) : (Jvm.Cond.initialized "com/example/nodecard/nodecard/card/FileHeader").before a0 Z = true := hw _ (List.mem_of_getElem? (i := 14) rfl)
theorem tw_15 {Z : State} {a0 : Array Value} (hw : ∀ d ∈ tables_1, d.before a0 Z = true) : (Jvm.Cond.methodLink "com/example/nodecard/nodecard/card/TransparentFileDescriptorPinLaw" (32 : Nat) ({ cls := "com/example/nodecard/nodecard/card/FileHeader", name := "<init>", desc := "(IILcom/example/nodecard/nodecard/card/AccessCondition;Lcom/example/nodecard/nodecard/card/AccessCondition;)V" } : Jvm.MethodName)).before a0 Z = true := hw _ (List.mem_of_getElem? (i := 15) rfl)
theorem tw_16 {Z : State} {a0 : Array Value} (hw : ∀ d ∈ tables_1, d.before a0 Z = true) : (Jvm.Cond.instanceMethod ({ cls := "com/example/nodecard/nodecard/card/FileHeader", name := "<init>", desc := "(IILcom/example/nodecard/nodecard/card/AccessCondition;Lcom/example/nodecard/nodecard/card/AccessCondition;)V" } : Jvm.MethodName)).before a0 Z = true := hw _ (List.mem_of_getElem? (i := 16) rfl)
theorem tw_17 {Z : State} {a0 : Array Value} (hw : ∀ d ∈ tables_1, d.before a0 Z = true) : (Jvm.Cond.code ({ cls := "com/example/nodecard/nodecard/card/FileHeader", name := "<init>", desc := "(IILcom/example/nodecard/nodecard/card/AccessCondition;Lcom/example/nodecard/nodecard/card/AccessCondition;)V" } : Jvm.MethodName) prog_18_method_1_code (5 : Nat) (Option.none : Option Jvm.ClassFile.FieldType)).before a0 Z = true := hw _ (List.mem_of_getElem? (i := 17) rfl)
theorem tw_18 {Z : State} {a0 : Array Value} (hw : ∀ d ∈ tables_1, d.before a0 Z = true) : (Jvm.Cond.methodLink "com/example/nodecard/nodecard/card/FileHeader" (1 : Nat) ({ cls := "java/lang/Record", name := "<init>", desc := "()V" } : Jvm.MethodName)).before a0 Z = true := hw _ (List.mem_of_getElem? (i := 18) rfl)
theorem tw_19 {Z : State} {a0 : Array Value} (hw : ∀ d ∈ tables_1, d.before a0 Z = true) : (Jvm.Cond.instanceMethod ({ cls := "java/lang/Record", name := "<init>", desc := "()V" } : Jvm.MethodName)).before a0 Z = true := hw _ (List.mem_of_getElem? (i := 19) rfl)
theorem tw_21 {Z : State} {a0 : Array Value} (hw : ∀ d ∈ tables_1, d.before a0 Z = true) : (Jvm.Cond.initialized "java/lang/Record").before a0 Z = true := hw _ (List.mem_of_getElem? (i := 21) rfl)
theorem tw_22 {Z : State} {a0 : Array Value} (hw : ∀ d ∈ tables_1, d.before a0 Z = true) : (Jvm.Cond.code ({ cls := "java/lang/Record", name := "<init>", desc := "()V" } : Jvm.MethodName) jdk_30_method_1_code (1 : Nat) (Option.none : Option Jvm.ClassFile.FieldType)).before a0 Z = true := hw _ (List.mem_of_getElem? (i := 22) rfl)
theorem tw_23 {Z : State} {a0 : Array Value} (hw : ∀ d ∈ tables_1, d.before a0 Z = true) : (Jvm.Cond.methodLink "java/lang/Record" (1 : Nat) ({ cls := "java/lang/Object", name := "<init>", desc := "()V" } : Jvm.MethodName)).before a0 Z = true := hw _ (List.mem_of_getElem? (i := 23) rfl)
theorem tw_24 {Z : State} {a0 : Array Value} (hw : ∀ d ∈ tables_1, d.before a0 Z = true) : (Jvm.Cond.instanceMethod ({ cls := "java/lang/Object", name := "<init>", desc := "()V" } : Jvm.MethodName)).before a0 Z = true := hw _ (List.mem_of_getElem? (i := 24) rfl)
theorem tw_25 {Z : State} {a0 : Array Value} (hw : ∀ d ∈ tables_1, d.before a0 Z = true) : (Jvm.Cond.code ({ cls := "java/lang/Object", name := "<init>", desc := "()V" } : Jvm.MethodName) object_method_1_code (1 : Nat) (Option.none : Option Jvm.ClassFile.FieldType)).before a0 Z = true := hw _ (List.mem_of_getElem? (i := 25) rfl)
theorem tw_26 {Z : State} {a0 : Array Value} (hw : ∀ d ∈ tables_1, d.before a0 Z = true) : (Jvm.Cond.constant "com/example/nodecard/nodecard/card/FileHeader" (7 : Nat) (65535 : Int32)).before a0 Z = true := hw _ (List.mem_of_getElem? (i := 26) rfl)
theorem tw_27 {Z : State} {a0 : Array Value} (hw : ∀ d ∈ tables_1, d.before a0 Z = true) : (Jvm.Cond.fieldLink "com/example/nodecard/nodecard/card/FileHeader" (20 : Nat) "com/example/nodecard/nodecard/card/FileHeader" "fileId" "I").before a0 Z = true := hw _ (List.mem_of_getElem? (i := 27) rfl)
theorem tw_28 {Z : State} {a0 : Array Value} (hw : ∀ d ∈ tables_1, d.before a0 Z = true) : (Jvm.Cond.laysFinal "com/example/nodecard/nodecard/card/FileHeader" "com/example/nodecard/nodecard/card/FileHeader" "fileId" "I").before a0 Z = true := hw _ (List.mem_of_getElem? (i := 28) rfl)
theorem tw_29 {Z : State} {a0 : Array Value} (hw : ∀ d ∈ tables_1, d.before a0 Z = true) : (Jvm.Cond.fieldLink "com/example/nodecard/nodecard/card/FileHeader" (24 : Nat) "com/example/nodecard/nodecard/card/FileHeader" "sfi" "I").before a0 Z = true := hw _ (List.mem_of_getElem? (i := 29) rfl)
theorem tw_30 {Z : State} {a0 : Array Value} (hw : ∀ d ∈ tables_1, d.before a0 Z = true) : (Jvm.Cond.laysFinal "com/example/nodecard/nodecard/card/FileHeader" "com/example/nodecard/nodecard/card/FileHeader" "sfi" "I").before a0 Z = true := hw _ (List.mem_of_getElem? (i := 30) rfl)
theorem tw_31 {Z : State} {a0 : Array Value} (hw : ∀ d ∈ tables_1, d.before a0 Z = true) : (Jvm.Cond.fieldLink "com/example/nodecard/nodecard/card/FileHeader" (27 : Nat) "com/example/nodecard/nodecard/card/FileHeader" "readCondition" "Lcom/example/nodecard/nodecard/card/AccessCondition;").before a0 Z = true := hw _ (List.mem_of_getElem? (i := 31) rfl)
theorem tw_32 {Z : State} {a0 : Array Value} (hw : ∀ d ∈ tables_1, d.before a0 Z = true) : (Jvm.Cond.laysFinal "com/example/nodecard/nodecard/card/FileHeader" "com/example/nodecard/nodecard/card/FileHeader" "readCondition" "Lcom/example/nodecard/nodecard/card/AccessCondition;").before a0 Z = true := hw _ (List.mem_of_getElem? (i := 32) rfl)
theorem tw_33 {Z : State} {a0 : Array Value} (hw : ∀ d ∈ tables_1, d.before a0 Z = true) : (Jvm.Cond.fieldLink "com/example/nodecard/nodecard/card/FileHeader" (31 : Nat) "com/example/nodecard/nodecard/card/FileHeader" "updateCondition" "Lcom/example/nodecard/nodecard/card/AccessCondition;").before a0 Z = true := hw _ (List.mem_of_getElem? (i := 33) rfl)
theorem tw_34 {Z : State} {a0 : Array Value} (hw : ∀ d ∈ tables_1, d.before a0 Z = true) : (Jvm.Cond.laysFinal "com/example/nodecard/nodecard/card/FileHeader" "com/example/nodecard/nodecard/card/FileHeader" "updateCondition" "Lcom/example/nodecard/nodecard/card/AccessCondition;").before a0 Z = true := hw _ (List.mem_of_getElem? (i := 34) rfl)
theorem tw_35 {Z : State} {a0 : Array Value} (hw : ∀ d ∈ tables_1, d.before a0 Z = true) : (Jvm.Cond.classLink "com/example/nodecard/nodecard/card/TransparentFileDescriptorPinLaw" (35 : Nat) "com/example/nodecard/nodecard/card/TransparentFile").before a0 Z = true := hw _ (List.mem_of_getElem? (i := 35) rfl)
theorem tw_36 {Z : State} {a0 : Array Value} (hw : ∀ d ∈ tables_1, d.before a0 Z = true) : (Jvm.Cond.instantiable "com/example/nodecard/nodecard/card/TransparentFile" (2 : Nat)).before a0 Z = true := hw _ (List.mem_of_getElem? (i := 36) rfl)
theorem tw_37 {Z : State} {a0 : Array Value} (hw : ∀ d ∈ tables_1, d.before a0 Z = true) : (Jvm.Cond.initialized "com/example/nodecard/nodecard/card/TransparentFile").before a0 Z = true := hw _ (List.mem_of_getElem? (i := 37) rfl)
theorem tw_38 {Z : State} {a0 : Array Value} (hw : ∀ d ∈ tables_1, d.before a0 Z = true) : (Jvm.Cond.methodLink "com/example/nodecard/nodecard/card/TransparentFileDescriptorPinLaw" (37 : Nat) ({ cls := "com/example/nodecard/nodecard/card/TransparentFile", name := "<init>", desc := "(Lcom/example/nodecard/nodecard/card/FileHeader;[B)V" } : Jvm.MethodName)).before a0 Z = true := hw _ (List.mem_of_getElem? (i := 38) rfl)
theorem tw_39 {Z : State} {a0 : Array Value} (hw : ∀ d ∈ tables_1, d.before a0 Z = true) : (Jvm.Cond.instanceMethod ({ cls := "com/example/nodecard/nodecard/card/TransparentFile", name := "<init>", desc := "(Lcom/example/nodecard/nodecard/card/FileHeader;[B)V" } : Jvm.MethodName)).before a0 Z = true := hw _ (List.mem_of_getElem? (i := 39) rfl)
theorem tw_40 {Z : State} {a0 : Array Value} (hw : ∀ d ∈ tables_1, d.before a0 Z = true) : (Jvm.Cond.code ({ cls := "com/example/nodecard/nodecard/card/TransparentFile", name := "<init>", desc := "(Lcom/example/nodecard/nodecard/card/FileHeader;[B)V" } : Jvm.MethodName) prog_33_method_1_code (3 : Nat) (Option.none : Option Jvm.ClassFile.FieldType)).before a0 Z = true := hw _ (List.mem_of_getElem? (i := 40) rfl)
theorem tw_41 {Z : State} {a0 : Array Value} (hw : ∀ d ∈ tables_1, d.before a0 Z = true) : (Jvm.Cond.methodLink "com/example/nodecard/nodecard/card/TransparentFile" (1 : Nat) ({ cls := "com/example/nodecard/nodecard/card/ElementaryFile", name := "<init>", desc := "(Lcom/example/nodecard/nodecard/card/FileHeader;)V" } : Jvm.MethodName)).before a0 Z = true := hw _ (List.mem_of_getElem? (i := 41) rfl)
theorem tw_42 {Z : State} {a0 : Array Value} (hw : ∀ d ∈ tables_1, d.before a0 Z = true) : (Jvm.Cond.instanceMethod ({ cls := "com/example/nodecard/nodecard/card/ElementaryFile", name := "<init>", desc := "(Lcom/example/nodecard/nodecard/card/FileHeader;)V" } : Jvm.MethodName)).before a0 Z = true := hw _ (List.mem_of_getElem? (i := 42) rfl)
theorem tw_44 {Z : State} {a0 : Array Value} (hw : ∀ d ∈ tables_1, d.before a0 Z = true) : (Jvm.Cond.initialized "com/example/nodecard/nodecard/card/ElementaryFile").before a0 Z = true := hw _ (List.mem_of_getElem? (i := 44) rfl)
theorem tw_45 {Z : State} {a0 : Array Value} (hw : ∀ d ∈ tables_1, d.before a0 Z = true) : (Jvm.Cond.code ({ cls := "com/example/nodecard/nodecard/card/ElementaryFile", name := "<init>", desc := "(Lcom/example/nodecard/nodecard/card/FileHeader;)V" } : Jvm.MethodName) prog_16_method_1_code (2 : Nat) (Option.none : Option Jvm.ClassFile.FieldType)).before a0 Z = true := hw _ (List.mem_of_getElem? (i := 45) rfl)
theorem tw_46 {Z : State} {a0 : Array Value} (hw : ∀ d ∈ tables_1, d.before a0 Z = true) : (Jvm.Cond.methodLink "com/example/nodecard/nodecard/card/ElementaryFile" (1 : Nat) ({ cls := "java/lang/Object", name := "<init>", desc := "()V" } : Jvm.MethodName)).before a0 Z = true := hw _ (List.mem_of_getElem? (i := 46) rfl)
theorem tw_47 {Z : State} {a0 : Array Value} (hw : ∀ d ∈ tables_1, d.before a0 Z = true) : (Jvm.Cond.fieldLink "com/example/nodecard/nodecard/card/ElementaryFile" (7 : Nat) "com/example/nodecard/nodecard/card/ElementaryFile" "header" "Lcom/example/nodecard/nodecard/card/FileHeader;").before a0 Z = true := hw _ (List.mem_of_getElem? (i := 47) rfl)
theorem tw_48 {Z : State} {a0 : Array Value} (hw : ∀ d ∈ tables_1, d.before a0 Z = true) : (Jvm.Cond.laysFinal "com/example/nodecard/nodecard/card/TransparentFile" "com/example/nodecard/nodecard/card/ElementaryFile" "header" "Lcom/example/nodecard/nodecard/card/FileHeader;").before a0 Z = true := hw _ (List.mem_of_getElem? (i := 48) rfl)
theorem tw_49 {Z : State} {a0 : Array Value} (hw : ∀ d ∈ tables_1, d.before a0 Z = true) : (Jvm.Cond.methodLink "com/example/nodecard/nodecard/card/TransparentFile" (7 : Nat) ({ cls := "com/example/nodecard/nodecard/card/TransparentFile", name := "requireSize", desc := "(I)V" } : Jvm.MethodName)).before a0 Z = true := hw _ (List.mem_of_getElem? (i := 49) rfl)
theorem tw_50 {Z : State} {a0 : Array Value} (hw : ∀ d ∈ tables_1, d.before a0 Z = true) : (Jvm.Cond.static ({ cls := "com/example/nodecard/nodecard/card/TransparentFile", name := "requireSize", desc := "(I)V" } : Jvm.MethodName)).before a0 Z = true := hw _ (List.mem_of_getElem? (i := 50) rfl)
theorem tw_51 {Z : State} {a0 : Array Value} (hw : ∀ d ∈ tables_1, d.before a0 Z = true) : (Jvm.Cond.code ({ cls := "com/example/nodecard/nodecard/card/TransparentFile", name := "requireSize", desc := "(I)V" } : Jvm.MethodName) prog_33_method_3_code (1 : Nat) (Option.none : Option Jvm.ClassFile.FieldType)).before a0 Z = true := hw _ (List.mem_of_getElem? (i := 51) rfl)
theorem tw_52 {Z : State} {a0 : Array Value} (hw : ∀ d ∈ tables_1, d.before a0 Z = true) : (Jvm.Cond.methodLink "com/example/nodecard/nodecard/card/TransparentFile" (13 : Nat) ({ cls := "[B", name := "clone", desc := "()Ljava/lang/Object;" } : Jvm.MethodName)).before a0 Z = true := hw _ (List.mem_of_getElem? (i := 52) rfl)
theorem tw_53 {Z : State} {a0 : Array Value} (hw : ∀ d ∈ tables_1, d.before a0 Z = true) : (Jvm.Cond.sameMethod "[B" "java/lang/Object" "clone" "()Ljava/lang/Object;").before a0 Z = true := hw _ (List.mem_of_getElem? (i := 53) rfl)
theorem tw_55 {Z : State} {a0 : Array Value} (hw : ∀ d ∈ tables_1, d.before a0 Z = true) : (Jvm.Cond.instanceMethod ({ cls := "java/lang/Object", name := "clone", desc := "()Ljava/lang/Object;" } : Jvm.MethodName)).before a0 Z = true := hw _ (List.mem_of_getElem? (i := 55) rfl)
theorem tw_56 {Z : State} {a0 : Array Value} (hw : ∀ d ∈ tables_1, d.before a0 Z = true) : (Jvm.Cond.selects "[B" ({ cls := "[B", name := "clone", desc := "()Ljava/lang/Object;" } : Jvm.MethodName) ({ cls := "java/lang/Object", name := "clone", desc := "()Ljava/lang/Object;" } : Jvm.MethodName)).before a0 Z = true := hw _ (List.mem_of_getElem? (i := 56) rfl)
theorem tw_57 {Z : State} {a0 : Array Value} (hw : ∀ d ∈ tables_1, d.before a0 Z = true) : (Jvm.Cond.native ({ cls := "java/lang/Object", name := "clone", desc := "()Ljava/lang/Object;" } : Jvm.MethodName)).before a0 Z = true := hw _ (List.mem_of_getElem? (i := 57) rfl)
theorem tw_58 {Z : State} {a0 : Array Value} (hw : ∀ d ∈ tables_1, d.before a0 Z = true) : (Jvm.Cond.castable "[B" "java/lang/Cloneable").before a0 Z = true := hw _ (List.mem_of_getElem? (i := 58) rfl)
theorem tw_59 {Z : State} {a0 : Array Value} (hw : ∀ d ∈ tables_1, d.before a0 Z = true) : (Jvm.Cond.classLink "com/example/nodecard/nodecard/card/TransparentFile" (14 : Nat) "[B").before a0 Z = true := hw _ (List.mem_of_getElem? (i := 59) rfl)
theorem tw_61 {Z : State} {a0 : Array Value} (hw : ∀ d ∈ tables_1, d.before a0 Z = true) : (Jvm.Cond.fieldLink "com/example/nodecard/nodecard/card/TransparentFile" (19 : Nat) "com/example/nodecard/nodecard/card/TransparentFile" "content" "[B").before a0 Z = true := hw _ (List.mem_of_getElem? (i := 61) rfl)
theorem tw_62 {Z : State} {a0 : Array Value} (hw : ∀ d ∈ tables_1, d.before a0 Z = true) : (Jvm.Cond.laysFinal "com/example/nodecard/nodecard/card/TransparentFile" "com/example/nodecard/nodecard/card/TransparentFile" "content" "[B").before a0 Z = true := hw _ (List.mem_of_getElem? (i := 62) rfl)
theorem tw_63 {Z : State} {a0 : Array Value} (hw : ∀ d ∈ tables_1, d.before a0 Z = true) : (Jvm.Cond.methodLink "com/example/nodecard/nodecard/card/TransparentFileDescriptorPinLaw" (40 : Nat) ({ cls := "com/example/nodecard/nodecard/card/TransparentFile", name := "descriptor", desc := "()[B" } : Jvm.MethodName)).before a0 Z = true := hw _ (List.mem_of_getElem? (i := 63) rfl)
theorem tw_64 {Z : State} {a0 : Array Value} (hw : ∀ d ∈ tables_1, d.before a0 Z = true) : (Jvm.Cond.declares ({ cls := "com/example/nodecard/nodecard/card/TransparentFile", name := "descriptor", desc := "()[B" } : Jvm.MethodName)).before a0 Z = true := hw _ (List.mem_of_getElem? (i := 64) rfl)
theorem tw_65 {Z : State} {a0 : Array Value} (hw : ∀ d ∈ tables_1, d.before a0 Z = true) : (Jvm.Cond.instanceMethod ({ cls := "com/example/nodecard/nodecard/card/TransparentFile", name := "descriptor", desc := "()[B" } : Jvm.MethodName)).before a0 Z = true := hw _ (List.mem_of_getElem? (i := 65) rfl)
theorem tw_66 {Z : State} {a0 : Array Value} (hw : ∀ d ∈ tables_1, d.before a0 Z = true) : (Jvm.Cond.selects "com/example/nodecard/nodecard/card/TransparentFile" ({ cls := "com/example/nodecard/nodecard/card/TransparentFile", name := "descriptor", desc := "()[B" } : Jvm.MethodName) ({ cls := "com/example/nodecard/nodecard/card/TransparentFile", name := "descriptor", desc := "()[B" } : Jvm.MethodName)).before a0 Z = true := hw _ (List.mem_of_getElem? (i := 66) rfl)
theorem tw_67 {Z : State} {a0 : Array Value} (hw : ∀ d ∈ tables_1, d.before a0 Z = true) : (Jvm.Cond.code ({ cls := "com/example/nodecard/nodecard/card/TransparentFile", name := "descriptor", desc := "()[B" } : Jvm.MethodName) prog_33_method_5_code (1 : Nat) (Option.some (Jvm.ClassFile.FieldType.array Jvm.ClassFile.FieldType.byte))).before a0 Z = true := hw _ (List.mem_of_getElem? (i := 67) rfl)
theorem tw_68 {Z : State} {a0 : Array Value} (hw : ∀ d ∈ tables_1, d.before a0 Z = true) : (Jvm.Cond.fieldLink "com/example/nodecard/nodecard/card/TransparentFileDescriptorPinLaw" (13 : Nat) "com/example/nodecard/nodecard/card/AccessCondition" "PIN1" "Lcom/example/nodecard/nodecard/card/AccessCondition;").before a0 Z = true := hw _ (List.mem_of_getElem? (i := 68) rfl)
theorem tw_69 {Z : State} {a0 : Array Value} (hw : ∀ d ∈ tables_1, d.before a0 Z = true) : (Jvm.Cond.laysStatic "com/example/nodecard/nodecard/card/AccessCondition" "PIN1" "Lcom/example/nodecard/nodecard/card/AccessCondition;").before a0 Z = true := hw _ (List.mem_of_getElem? (i := 69) rfl)
theorem tw_70 {Z : State} {a0 : Array Value} (hw : ∀ d ∈ tables_1, d.before a0 Z = true) : (Jvm.Cond.fieldLink "com/example/nodecard/nodecard/card/TransparentFileDescriptorPinLaw" (19 : Nat) "com/example/nodecard/nodecard/card/AccessCondition" "PIN1_OR_ADM1" "Lcom/example/nodecard/nodecard/card/AccessCondition;").before a0 Z = true := hw _ (List.mem_of_getElem? (i := 70) rfl)
theorem tw_71 {Z : State} {a0 : Array Value} (hw : ∀ d ∈ tables_1, d.before a0 Z = true) : (Jvm.Cond.laysStatic "com/example/nodecard/nodecard/card/AccessCondition" "PIN1_OR_ADM1" "Lcom/example/nodecard/nodecard/card/AccessCondition;").before a0 Z = true := hw _ (List.mem_of_getElem? (i := 71) rfl)
theorem d3_0 : decode jdk_30_method_1_code 0 = .ok (.aload_n 0, 1) := by decide +kernel
theorem d3_1 : decode jdk_30_method_1_code 1 = .ok (.invokespecial 1, 3) := by decide +kernel
theorem d3_4 : decode jdk_30_method_1_code 4 = .ok (.return_, 1) := by decide +kernel
theorem pn_0 : plainName "java/lang/Record" = true := by first | (simp [plainName, overriddenIn]; done) | decide +kernel
abbrev mN_3 : MethodName := ⟨"java/lang/Record", "<init>", "()V"⟩
theorem d1_0 : decode method_2_code 0 = .ok (.iload_n 0, 1) := by decide +kernel
theorem d1_1 : decode method_2_code 1 = .ok (.ifCond .ne 7, 3) := by decide +kernel
theorem d1_4 : decode method_2_code 4 = .ok (.getstatic 7, 3) := by decide +kernel
theorem d1_7 : decode method_2_code 7 = .ok (.areturn, 1) := by decide +kernel
theorem d1_8 : decode method_2_code 8 = .ok (.iload_n 0, 1) := by decide +kernel
theorem d1_9 : decode method_2_code 9 = .ok (.iconst 1, 1) := by decide +kernel
theorem d1_10 : decode method_2_code 10 = .ok (.if_icmp .ne 7, 3) := by decide +kernel
theorem d1_13 : decode method_2_code 13 = .ok (.getstatic 13, 3) := by decide +kernel
theorem d1_16 : decode method_2_code 16 = .ok (.areturn, 1) := by decide +kernel
theorem d1_17 : decode method_2_code 17 = .ok (.iload_n 0, 1) := by decide +kernel
theorem d1_18 : decode method_2_code 18 = .ok (.iconst 2, 1) := by decide +kernel
theorem d1_19 : decode method_2_code 19 = .ok (.if_icmp .ne 7, 3) := by decide +kernel
theorem d1_22 : decode method_2_code 22 = .ok (.getstatic 16, 3) := by decide +kernel
theorem d1_25 : decode method_2_code 25 = .ok (.areturn, 1) := by decide +kernel
theorem d1_26 : decode method_2_code 26 = .ok (.getstatic 19, 3) := by decide +kernel
theorem d1_29 : decode method_2_code 29 = .ok (.areturn, 1) := by decide +kernel
theorem pn_1 : plainName "com/example/nodecard/nodecard/card/TransparentFileDescriptorPinLaw" = true := by first | (simp [plainName, overriddenIn]; done) | decide +kernel
abbrev mN_1 : MethodName := ⟨"com/example/nodecard/nodecard/card/TransparentFileDescriptorPinLaw", "pick", "(I)Lcom/example/nodecard/nodecard/card/AccessCondition;"⟩
theorem pd_0 : parseMethodDescriptor "()V" = some ⟨[], none⟩ := by decide +kernel
theorem d2_0 : decode prog_18_method_1_code 0 = .ok (.aload_n 0, 1) := by decide +kernel
theorem d2_1 : decode prog_18_method_1_code 1 = .ok (.invokespecial 1, 3) := by decide +kernel
theorem d2_4 : decode prog_18_method_1_code 4 = .ok (.iload_n 1, 1) := by decide +kernel
theorem d2_5 : decode prog_18_method_1_code 5 = .ok (.ifCond .lt 9, 3) := by decide +kernel
theorem d2_8 : decode prog_18_method_1_code 8 = .ok (.iload_n 1, 1) := by decide +kernel
theorem d2_9 : decode prog_18_method_1_code 9 = .ok (.ldc 7, 2) := by decide +kernel
theorem d2_11 : decode prog_18_method_1_code 11 = .ok (.if_icmp .le 17, 3) := by decide +kernel
theorem d2_28 : decode prog_18_method_1_code 28 = .ok (.iload_n 2, 1) := by decide +kernel
theorem d2_29 : decode prog_18_method_1_code 29 = .ok (.ifCond .lt 9, 3) := by decide +kernel
theorem d2_32 : decode prog_18_method_1_code 32 = .ok (.iload_n 2, 1) := by decide +kernel
theorem d2_33 : decode prog_18_method_1_code 33 = .ok (.bipush 30, 2) := by decide +kernel
theorem d2_35 : decode prog_18_method_1_code 35 = .ok (.if_icmp .le 17, 3) := by decide +kernel
theorem d2_52 : decode prog_18_method_1_code 52 = .ok (.aload_n 0, 1) := by decide +kernel
theorem d2_53 : decode prog_18_method_1_code 53 = .ok (.iload_n 1, 1) := by decide +kernel
theorem d2_54 : decode prog_18_method_1_code 54 = .ok (.putfield 20, 3) := by decide +kernel
theorem d2_57 : decode prog_18_method_1_code 57 = .ok (.aload_n 0, 1) := by decide +kernel
theorem d2_58 : decode prog_18_method_1_code 58 = .ok (.iload_n 2, 1) := by decide +kernel
theorem d2_59 : decode prog_18_method_1_code 59 = .ok (.putfield 24, 3) := by decide +kernel
theorem d2_62 : decode prog_18_method_1_code 62 = .ok (.aload_n 0, 1) := by decide +kernel
theorem d2_63 : decode prog_18_method_1_code 63 = .ok (.aload_n 3, 1) := by decide +kernel
theorem d2_64 : decode prog_18_method_1_code 64 = .ok (.putfield 27, 3) := by decide +kernel
theorem d2_67 : decode prog_18_method_1_code 67 = .ok (.aload_n 0, 1) := by decide +kernel
theorem d2_68 : decode prog_18_method_1_code 68 = .ok (.aload 4, 2) := by decide +kernel
theorem d2_70 : decode prog_18_method_1_code 70 = .ok (.putfield 31, 3) := by decide +kernel
theorem d2_73 : decode prog_18_method_1_code 73 = .ok (.return_, 1) := by decide +kernel
theorem pn_2 : plainName "com/example/nodecard/nodecard/card/FileHeader" = true := by first | (simp [plainName, overriddenIn]; done) | decide +kernel
abbrev mN_2 : MethodName := ⟨"com/example/nodecard/nodecard/card/FileHeader", "<init>", "(IILcom/example/nodecard/nodecard/card/AccessCondition;Lcom/example/nodecard/nodecard/card/AccessCondition;)V"⟩
theorem d6_0 : decode prog_16_method_1_code 0 = .ok (.aload_n 0, 1) := by decide +kernel
theorem d6_1 : decode prog_16_method_1_code 1 = .ok (.invokespecial 1, 3) := by decide +kernel
theorem d6_4 : decode prog_16_method_1_code 4 = .ok (.aload_n 0, 1) := by decide +kernel
theorem d6_5 : decode prog_16_method_1_code 5 = .ok (.aload_n 1, 1) := by decide +kernel
theorem d6_6 : decode prog_16_method_1_code 6 = .ok (.putfield 7, 3) := by decide +kernel
theorem d6_9 : decode prog_16_method_1_code 9 = .ok (.return_, 1) := by decide +kernel
theorem pn_3 : plainName "com/example/nodecard/nodecard/card/ElementaryFile" = true := by first | (simp [plainName, overriddenIn]; done) | decide +kernel
abbrev mN_6 : MethodName := ⟨"com/example/nodecard/nodecard/card/ElementaryFile", "<init>", "(Lcom/example/nodecard/nodecard/card/FileHeader;)V"⟩
theorem d7_0 : decode prog_33_method_3_code 0 = .ok (.iload_n 0, 1) := by decide +kernel
theorem d7_1 : decode prog_33_method_3_code 1 = .ok (.iconst 1, 1) := by decide +kernel
theorem d7_2 : decode prog_33_method_3_code 2 = .ok (.if_icmp .lt 10, 3) := by decide +kernel
theorem d7_5 : decode prog_33_method_3_code 5 = .ok (.iload_n 0, 1) := by decide +kernel
theorem d7_6 : decode prog_33_method_3_code 6 = .ok (.sipush 32767, 3) := by decide +kernel
theorem d7_9 : decode prog_33_method_3_code 9 = .ok (.if_icmp .le 17, 3) := by decide +kernel
theorem d7_26 : decode prog_33_method_3_code 26 = .ok (.return_, 1) := by decide +kernel
theorem pn_4 : plainName "com/example/nodecard/nodecard/card/TransparentFile" = true := by first | (simp [plainName, overriddenIn]; done) | decide +kernel
abbrev mN_7 : MethodName := ⟨"com/example/nodecard/nodecard/card/TransparentFile", "requireSize", "(I)V"⟩
theorem pd_1 : parseMethodDescriptor "(Lcom/example/nodecard/nodecard/card/FileHeader;)V" = some ⟨[(.object "com/example/nodecard/nodecard/card/FileHeader")], none⟩ := by decide +kernel
theorem pd_2 : parseMethodDescriptor "(I)V" = some ⟨[.int], none⟩ := by decide +kernel
theorem d5_0 : decode prog_33_method_1_code 0 = .ok (.aload_n 0, 1) := by decide +kernel
theorem d5_1 : decode prog_33_method_1_code 1 = .ok (.aload_n 1, 1) := by decide +kernel
theorem d5_2 : decode prog_33_method_1_code 2 = .ok (.invokespecial 1, 3) := by decide +kernel
theorem d5_5 : decode prog_33_method_1_code 5 = .ok (.aload_n 2, 1) := by decide +kernel
theorem d5_6 : decode prog_33_method_1_code 6 = .ok (.arraylength, 1) := by decide +kernel
theorem d5_7 : decode prog_33_method_1_code 7 = .ok (.invokestatic 7, 3) := by decide +kernel
theorem d5_10 : decode prog_33_method_1_code 10 = .ok (.aload_n 0, 1) := by decide +kernel
theorem d5_11 : decode prog_33_method_1_code 11 = .ok (.aload_n 2, 1) := by decide +kernel
theorem d5_12 : decode prog_33_method_1_code 12 = .ok (.invokevirtual 13, 3) := by decide +kernel
theorem d5_15 : decode prog_33_method_1_code 15 = .ok (.checkcast 14, 3) := by decide +kernel
theorem d5_18 : decode prog_33_method_1_code 18 = .ok (.putfield 19, 3) := by decide +kernel
theorem d5_21 : decode prog_33_method_1_code 21 = .ok (.return_, 1) := by decide +kernel
abbrev mN_5 : MethodName := ⟨"com/example/nodecard/nodecard/card/TransparentFile", "<init>", "(Lcom/example/nodecard/nodecard/card/FileHeader;[B)V"⟩
theorem d8_0 : decode prog_33_method_5_code 0 = .ok (.iconst 2, 1) := by decide +kernel
theorem d8_1 : decode prog_33_method_5_code 1 = .ok (.newarray .byte, 2) := by decide +kernel
theorem d8_3 : decode prog_33_method_5_code 3 = .ok (.dup, 1) := by decide +kernel
theorem d8_4 : decode prog_33_method_5_code 4 = .ok (.iconst 0, 1) := by decide +kernel
theorem d8_5 : decode prog_33_method_5_code 5 = .ok (.bipush 65, 2) := by decide +kernel
theorem d8_7 : decode prog_33_method_5_code 7 = .ok (.bastore, 1) := by decide +kernel
theorem d8_8 : decode prog_33_method_5_code 8 = .ok (.dup, 1) := by decide +kernel
theorem d8_9 : decode prog_33_method_5_code 9 = .ok (.iconst 1, 1) := by decide +kernel
theorem d8_10 : decode prog_33_method_5_code 10 = .ok (.bipush 33, 2) := by decide +kernel
theorem d8_12 : decode prog_33_method_5_code 12 = .ok (.bastore, 1) := by decide +kernel
theorem d8_13 : decode prog_33_method_5_code 13 = .ok (.areturn, 1) := by decide +kernel
abbrev mN_8 : MethodName := ⟨"com/example/nodecard/nodecard/card/TransparentFile", "descriptor", "()[B"⟩
theorem pd_3 : parseMethodDescriptor "(I)Lcom/example/nodecard/nodecard/card/AccessCondition;" = some ⟨[.int], some (.object "com/example/nodecard/nodecard/card/AccessCondition")⟩ := by decide +kernel
theorem pd_4 : parseMethodDescriptor "(IILcom/example/nodecard/nodecard/card/AccessCondition;Lcom/example/nodecard/nodecard/card/AccessCondition;)V" = some ⟨[.int, .int, (.object "com/example/nodecard/nodecard/card/AccessCondition"), (.object "com/example/nodecard/nodecard/card/AccessCondition")], none⟩ := by decide +kernel
theorem pd_5 : parseMethodDescriptor "(Lcom/example/nodecard/nodecard/card/FileHeader;[B)V" = some ⟨[(.object "com/example/nodecard/nodecard/card/FileHeader"), (.array .byte)], none⟩ := by decide +kernel
theorem pd_6 : parseMethodDescriptor "()[B" = some ⟨[], some (.array .byte)⟩ := by decide +kernel
theorem ef_3 (m : MethodId) (x0 : Addr) : entryFrame m #[(.ref x0)] 1 = mkF m 0 #[.val (.ref x0)] [] := by first | (simp [entryFrame, mkF, argsToLocals, Value.category]; done) | rfl
def Q3 (Z : State) (a : Addr) (h0 : Heap) (n0 : Nat) (v : Option Value) (h : Heap) (L : List Loc) : Prop := v = none ∧ Fr n0 L ∧ h = h0
set_option maxRecDepth 65536 in
set_option maxHeartbeats 40000000 in
theorem rm3 (l : Launch) (Z : State) (a0 : Array Value) (hw : ∀ d ∈ tables_1, d.before a0 Z = true) (ws : List Jvm.Cond) (a : Addr) (h0 : Heap) (n0 : Nat) (Z0 : n0 ≤ h0.size) :
    CT l mN_3 jdk_30_method_1_code 1 none ws ({ frames := 1, cells := 0, slots := 0, locals := 12 } : Room) #[(.ref a)] Z h0 (Q3 Z a h0 n0) := by
  refine body_of (plainFor_of_name pn_0) ?_
  intro p e s m below meth c s₁ hx dB hret hlk hml hown0 hnm X0 e0 hZ
  have hown : s.vm.findClass cN_0 = some m.cls := hown0
  have N0 := Fr.nil n0
  rw [ef_3]
  show Wk p e below (FN s (Q3 Z a h0 n0) 0 0) s₁ (mkF m 0 #[.val (.ref a)] [])
  refine w_aloadN X0 hx (.ref a) (dB d3_0) 1 rfl rfl rfl ?_
  refine w_objinit X0 hx hZ hown e0 (tw_23 hw) (tw_24 hw) (tw_25 hw) (by rw [hml]; rfl) (by decide) 0 rfl (by decide) (dB d3_1) 4 rfl (fun T1 X1 e1 => ?_)
  refine w_ret0 X1 hx hlk hret (dB d3_4) (by decide) (by decide) ?_
  rw [e1]
  exact ⟨rfl, N0, rfl⟩
theorem ef_1 (m : MethodId) (x0 : Int32) : entryFrame m #[(.int x0)] 1 = mkF m 0 #[.val (.int x0)] [] := by first | (simp [entryFrame, mkF, argsToLocals, Value.category]; done) | rfl
def Q1 (Z : State) (xk : Int32) (q_ALWAYS : Addr) (q_PIN1 : Addr) (q_ADM1 : Addr) (q_PIN1_OR_ADM1 : Addr) (h0 : Heap) (n0 : Nat) (v : Option Value) (h : Heap) (L : List Loc) : Prop := ∃ rr : Addr, v = some (.ref rr) ∧ Fr n0 L ∧ Keep h0 h []
set_option maxRecDepth 65536 in
set_option maxHeartbeats 40000000 in
theorem rm1 (l : Launch) (Z : State) (a0 : Array Value) (hw : ∀ d ∈ tables_1, d.before a0 Z = true) (ws : List Jvm.Cond) (xk : Int32) (q_ALWAYS : Addr) (q_PIN1 : Addr) (q_ADM1 : Addr) (q_PIN1_OR_ADM1 : Addr) (h0 : Heap) (n0 : Nat) (Z0 : n0 ≤ h0.size) (S_ALWAYS : Sta Z h0 cN_1 "ALWAYS" cN_2 (.ref q_ALWAYS)) (S_PIN1 : Sta Z h0 cN_1 "PIN1" cN_2 (.ref q_PIN1)) (S_ADM1 : Sta Z h0 cN_1 "ADM1" cN_2 (.ref q_ADM1)) (S_PIN1_OR_ADM1 : Sta Z h0 cN_1 "PIN1_OR_ADM1" cN_2 (.ref q_PIN1_OR_ADM1)) :
    CT l mN_1 method_2_code 1 (some (.object "com/example/nodecard/nodecard/card/AccessCondition")) ws ({ frames := 0, cells := 0, slots := 0, locals := 0 } : Room) #[(.int xk)] Z h0 (Q1 Z xk q_ALWAYS q_PIN1 q_ADM1 q_PIN1_OR_ADM1 h0 n0) := by
  refine body_of (plainFor_of_name pn_1) ?_
  intro p e s m below meth c s₁ hx dB hret hlk hml hown0 hnm X0 e0 hZ
  have hown : s.vm.findClass cN_3 = some m.cls := hown0
  have N0 := Fr.nil n0
  rw [ef_1]
  show Wk p e below (FN s (Q1 Z xk q_ALWAYS q_PIN1 q_ADM1 q_PIN1_OR_ADM1 h0 n0) 0 0) s₁ (mkF m 0 #[.val (.int xk)] [])
  have r_xk := rng32 xk
  refine w_iloadN X0 hx xk (dB d1_0) 1 rfl rfl ?_
  refine w_if_ne X0 hx xk.toInt rfl (dB d1_1) 8 4 (fun c2 => ?_) (fun c2 => ?_)
  ·refine w_iloadN X0 hx xk (dB d1_8) 9 rfl rfl ?_
   refine w_iconst X0 hx (dB d1_9) 10 rfl (1 : Int32) (by decide) ?_
   refine w_icmp_ne X0 hx xk.toInt 1 rfl (by decide) (dB d1_10) 17 13 (fun c3 => ?_) (fun c3 => ?_)
   ·refine w_iloadN X0 hx xk (dB d1_17) 18 rfl rfl ?_
    refine w_iconst X0 hx (dB d1_18) 19 rfl (2 : Int32) (by decide) ?_
    refine w_icmp_ne X0 hx xk.toInt 2 rfl (by decide) (dB d1_19) 26 22 (fun c4 => ?_) (fun c4 => ?_)
    ·refine w_getS X0 hx hZ hown e0 (host := "") (Or.inl (tw_70 hw)) Via.refl S_PIN1_OR_ADM1 (dB d1_26) 29 rfl (fun T5 X5 e5 => ?_)
     refine w_retA X5 hx hlk hret rfl rfl (dB d1_29) (by decide) (by decide) ?_
     rw [e5]
     exact ⟨q_PIN1_OR_ADM1, rfl, N0, (Keep.refl h0 [])⟩
    ·refine w_getS X0 hx hZ hown e0 (host := "") (Or.inl (tw_6 hw)) Via.refl S_ADM1 (dB d1_22) 25 rfl (fun T6 X6 e6 => ?_)
     refine w_retA X6 hx hlk hret rfl rfl (dB d1_25) (by decide) (by decide) ?_
     rw [e6]
     exact ⟨q_ADM1, rfl, N0, (Keep.refl h0 [])⟩
   ·refine w_getS X0 hx hZ hown e0 (host := "") (Or.inl (tw_68 hw)) Via.refl S_PIN1 (dB d1_13) 16 rfl (fun T7 X7 e7 => ?_)
    refine w_retA X7 hx hlk hret rfl rfl (dB d1_16) (by decide) (by decide) ?_
    rw [e7]
    exact ⟨q_PIN1, rfl, N0, (Keep.refl h0 [])⟩
  ·refine w_getS X0 hx hZ hown e0 (host := "") (Or.inl (tw_9 hw)) Via.refl S_ALWAYS (dB d1_4) 7 rfl (fun T8 X8 e8 => ?_)
   refine w_retA X8 hx hlk hret rfl rfl (dB d1_7) (by decide) (by decide) ?_
   rw [e8]
   exact ⟨q_ALWAYS, rfl, N0, (Keep.refl h0 [])⟩
theorem ef_2 (m : MethodId) (x0 : Addr) (x1 : Int32) (x2 : Int32) (x3 : Addr) (x4 : Addr) : entryFrame m #[(.ref x0), (.int x1), (.int x2), (.ref x3), (.ref x4)] 5 = mkF m 0 #[.val (.ref x0), .val (.int x1), .val (.int x2), .val (.ref x3), .val (.ref x4)] [] := by first | (simp [entryFrame, mkF, argsToLocals, Value.category]; done) | rfl
def Q2 (Z : State) (a : Addr) (xi : Int32) (xs : Int32) (r1 : Addr) (r2 : Addr) (h0 : Heap) (n0 : Nat) (v : Option Value) (h : Heap) (L : List Loc) : Prop := v = none ∧ Fr n0 L ∧ Keep h0 h [a]
set_option maxRecDepth 65536 in
set_option maxHeartbeats 40000000 in
theorem rm2 (l : Launch) (Z : State) (a0 : Array Value) (hw : ∀ d ∈ tables_1, d.before a0 Z = true) (ws : List Jvm.Cond) (a : Addr) (xi : Int32) (xs : Int32) (r1 : Addr) (r2 : Addr) (h0 : Heap) (n0 : Nat) (Z0 : n0 ≤ h0.size) (E_a : Exa Z h0 a cN_4) (F_fileId_a : Fld Z h0 a cN_4 "fileId" "I" (.int (0 : Int32))) (F_sfi_a : Fld Z h0 a cN_4 "sfi" "I" (.int (0 : Int32))) (F_readCondition_a : Fld Z h0 a cN_4 "readCondition" cN_2 .null) (F_updateCondition_a : Fld Z h0 a cN_4 "updateCondition" cN_2 .null) (g_a : n0 ≤ a) (p0 : 0 ≤ xi.toInt) (p1 : xi.toInt ≤ 65535) (p2 : 0 ≤ xs.toInt) (p3 : xs.toInt ≤ 30) :
    CT l mN_2 prog_18_method_1_code 5 none ws ({ frames := 2, cells := 0, slots := 0, locals := 24 } : Room) #[(.ref a), (.int xi), (.int xs), (.ref r1), (.ref r2)] Z h0 (Q2 Z a xi xs r1 r2 h0 n0) := by
  refine body_of (plainFor_of_name pn_2) ?_
  intro p e s m below meth c s₁ hx dB hret hlk hml hown0 hnm X0 e0 hZ
  have hown : s.vm.findClass cN_4 = some m.cls := hown0
  have N0 := Fr.nil n0
  rw [ef_2]
  show Wk p e below (FN s (Q2 Z a xi xs r1 r2 h0 n0) 0 0) s₁ (mkF m 0 #[.val (.ref a), .val (.int xi), .val (.int xs), .val (.ref r1), .val (.ref r2)] [])
  have r_xi := rng32 xi
  have r_xs := rng32 xs
  refine w_aloadN X0 hx (.ref a) (dB d2_0) 1 rfl rfl rfl ?_
  refine w_init X0 hx hZ rfl hown e0 (rm3 l Z a0 hw [] a h0 n0 Z0 ) (tw_18 hw) (tw_19 hw) (tw_21 hw) (tw_22 hw) (by decide) (by rw [hml]; rfl) a [] [] (lenOf pd_0 rfl) rfl rfl (by decide) 0 rfl (by decide) (by decide) (by decide) (dB d2_1) 4 rfl (fun r9 T9 L9 X9 q9 => ?_)
  obtain ⟨rfl, Nq9, eq9⟩ := q9
  have N9 := Fr.app N0 Nq9
  dsimp only [Option.toList_some, Option.toList_none, List.cons_append, List.nil_append]
  refine w_iloadN X9 hx xi (dB d2_4) 5 rfl rfl ?_
  refine w_if_lt X9 hx xi.toInt rfl (dB d2_5) 14 8 (fun c10 => ?_) (fun c10 => ?_)
  ·exfalso; omega
  ·refine w_iloadN X9 hx xi (dB d2_8) 9 rfl rfl ?_
   refine w_ldc X9 hx hZ hown (tw_26 hw) (dB d2_9) 11 rfl ?_
   refine w_icmp_le X9 hx xi.toInt 65535 rfl (by decide) (dB d2_11) 28 14 (fun c11 => ?_) (fun c11 => ?_)
   ·refine w_iloadN X9 hx xs (dB d2_28) 29 rfl rfl ?_
    refine w_if_lt X9 hx xs.toInt rfl (dB d2_29) 38 32 (fun c12 => ?_) (fun c12 => ?_)
    ·exfalso; omega
    ·refine w_iloadN X9 hx xs (dB d2_32) 33 rfl rfl ?_
     refine w_bipush X9 hx (dB d2_33) 35 rfl (30 : Int32) (by decide) ?_
     refine w_icmp_le X9 hx xs.toInt 30 rfl (by decide) (dB d2_35) 52 38 (fun c13 => ?_) (fun c13 => ?_)
     ·refine w_aloadN X9 hx (.ref a) (dB d2_52) 53 rfl rfl rfl ?_
      refine w_iloadN X9 hx xi (dB d2_53) 54 rfl rfl ?_
      refine w_putF X9 hx hZ hown eq9 (host := "") (Or.inl (tw_27 hw)) Via.refl F_fileId_a E_a (Or.inr ⟨(tw_28 hw), rfl, hnm⟩) (tw_13 hw) (ty := .int) (by decide) rfl rfl (dB d2_54) 57 rfl (fun T14 h14 X14 e14 W14 => ?_)
      have F15 : Exa Z h14 a cN_4 := E_a.wr W14
      have F16 : Fld Z h14 a cN_4 "fileId" "I" (.int xi) := F_fileId_a.same W14
      have F17 : Fld Z h14 a cN_4 "sfi" "I" (.int (0 : Int32)) := F_sfi_a.other W14 (Or.inr (slot_ne (Or.inr (tw_30 hw)) (Or.inr (tw_28 hw)) (by decide) (t := .int) (t' := .int) (by decide) (by decide)))
      have F18 : Fld Z h14 a cN_4 "readCondition" cN_2 .null := F_readCondition_a.other W14 (Or.inr (slot_ne (Or.inr (tw_32 hw)) (Or.inr (tw_28 hw)) (by decide) (t := (.object "com/example/nodecard/nodecard/card/AccessCondition")) (t' := .int) (by decide) (by decide)))
      have F19 : Fld Z h14 a cN_4 "updateCondition" cN_2 .null := F_updateCondition_a.other W14 (Or.inr (slot_ne (Or.inr (tw_34 hw)) (Or.inr (tw_28 hw)) (by decide) (t := (.object "com/example/nodecard/nodecard/card/AccessCondition")) (t' := .int) (by decide) (by decide)))
      have Z14 : n0 ≤ h14.size := by rw [W14.size]; exact Z0
      have K14 : Keep h0 h14 [a] := (Keep.refl h0 [a]).wr W14 (Or.inl (List.mem_of_getElem? (i := 0) rfl))
      have N14 := Fr.snoc X14 N9 g_a
      refine w_aloadN X14 hx (.ref a) (dB d2_57) 58 rfl rfl rfl ?_
      refine w_iloadN X14 hx xs (dB d2_58) 59 rfl rfl ?_
      refine w_putF X14 hx hZ hown e14 (host := "") (Or.inl (tw_29 hw)) Via.refl F17 F15 (Or.inr ⟨(tw_30 hw), rfl, hnm⟩) (tw_13 hw) (ty := .int) (by decide) rfl rfl (dB d2_59) 62 rfl (fun T20 h20 X20 e20 W20 => ?_)
      have F21 : Exa Z h20 a cN_4 := F15.wr W20
      have F22 : Fld Z h20 a cN_4 "fileId" "I" (.int xi) := F16.other W20 (Or.inr (slot_ne (Or.inr (tw_28 hw)) (Or.inr (tw_30 hw)) (by decide) (t := .int) (t' := .int) (by decide) (by decide)))
      have F23 : Fld Z h20 a cN_4 "sfi" "I" (.int xs) := F17.same W20
      have F24 : Fld Z h20 a cN_4 "readCondition" cN_2 .null := F18.other W20 (Or.inr (slot_ne (Or.inr (tw_32 hw)) (Or.inr (tw_30 hw)) (by decide) (t := (.object "com/example/nodecard/nodecard/card/AccessCondition")) (t' := .int) (by decide) (by decide)))
      have F25 : Fld Z h20 a cN_4 "updateCondition" cN_2 .null := F19.other W20 (Or.inr (slot_ne (Or.inr (tw_34 hw)) (Or.inr (tw_30 hw)) (by decide) (t := (.object "com/example/nodecard/nodecard/card/AccessCondition")) (t' := .int) (by decide) (by decide)))
      have Z20 : n0 ≤ h20.size := by rw [W20.size]; exact Z14
      have K20 : Keep h0 h20 [a] := K14.wr W20 (Or.inl (List.mem_of_getElem? (i := 0) rfl))
      have N20 := Fr.snoc X20 N14 g_a
      refine w_aloadN X20 hx (.ref a) (dB d2_62) 63 rfl rfl rfl ?_
      refine w_aloadN X20 hx (.ref r1) (dB d2_63) 64 rfl rfl rfl ?_
      refine w_putF X20 hx hZ hown e20 (host := "") (Or.inl (tw_31 hw)) Via.refl F24 F21 (Or.inr ⟨(tw_32 hw), rfl, hnm⟩) (tw_13 hw) (ty := (.object "com/example/nodecard/nodecard/card/AccessCondition")) (by decide) rfl rfl (dB d2_64) 67 rfl (fun T26 h26 X26 e26 W26 => ?_)
      have F27 : Exa Z h26 a cN_4 := F21.wr W26
      have F28 : Fld Z h26 a cN_4 "fileId" "I" (.int xi) := F22.other W26 (Or.inr (slot_ne (Or.inr (tw_28 hw)) (Or.inr (tw_32 hw)) (by decide) (t := .int) (t' := (.object "com/example/nodecard/nodecard/card/AccessCondition")) (by decide) (by decide)))
      have F29 : Fld Z h26 a cN_4 "sfi" "I" (.int xs) := F23.other W26 (Or.inr (slot_ne (Or.inr (tw_30 hw)) (Or.inr (tw_32 hw)) (by decide) (t := .int) (t' := (.object "com/example/nodecard/nodecard/card/AccessCondition")) (by decide) (by decide)))
      have F30 : Fld Z h26 a cN_4 "readCondition" cN_2 (.ref r1) := F24.same W26
      have F31 : Fld Z h26 a cN_4 "updateCondition" cN_2 .null := F25.other W26 (Or.inr (slot_ne (Or.inr (tw_34 hw)) (Or.inr (tw_32 hw)) (by decide) (t := (.object "com/example/nodecard/nodecard/card/AccessCondition")) (t' := (.object "com/example/nodecard/nodecard/card/AccessCondition")) (by decide) (by decide)))
      have Z26 : n0 ≤ h26.size := by rw [W26.size]; exact Z20
      have K26 : Keep h0 h26 [a] := K20.wr W26 (Or.inl (List.mem_of_getElem? (i := 0) rfl))
      have N26 := Fr.snoc X26 N20 g_a
      refine w_aloadN X26 hx (.ref a) (dB d2_67) 68 rfl rfl rfl ?_
      refine w_aload X26 hx (.ref r2) (dB d2_68) 70 rfl rfl rfl ?_
      refine w_putF X26 hx hZ hown e26 (host := "") (Or.inl (tw_33 hw)) Via.refl F31 F27 (Or.inr ⟨(tw_34 hw), rfl, hnm⟩) (tw_13 hw) (ty := (.object "com/example/nodecard/nodecard/card/AccessCondition")) (by decide) rfl rfl (dB d2_70) 73 rfl (fun T32 h32 X32 e32 W32 => ?_)
      have F33 : Exa Z h32 a cN_4 := F27.wr W32
      have F34 : Fld Z h32 a cN_4 "fileId" "I" (.int xi) := F28.other W32 (Or.inr (slot_ne (Or.inr (tw_28 hw)) (Or.inr (tw_34 hw)) (by decide) (t := .int) (t' := (.object "com/example/nodecard/nodecard/card/AccessCondition")) (by decide) (by decide)))
      have F35 : Fld Z h32 a cN_4 "sfi" "I" (.int xs) := F29.other W32 (Or.inr (slot_ne (Or.inr (tw_30 hw)) (Or.inr (tw_34 hw)) (by decide) (t := .int) (t' := (.object "com/example/nodecard/nodecard/card/AccessCondition")) (by decide) (by decide)))
      have F36 : Fld Z h32 a cN_4 "readCondition" cN_2 (.ref r1) := F30.other W32 (Or.inr (slot_ne (Or.inr (tw_32 hw)) (Or.inr (tw_34 hw)) (by decide) (t := (.object "com/example/nodecard/nodecard/card/AccessCondition")) (t' := (.object "com/example/nodecard/nodecard/card/AccessCondition")) (by decide) (by decide)))
      have F37 : Fld Z h32 a cN_4 "updateCondition" cN_2 (.ref r2) := F31.same W32
      have Z32 : n0 ≤ h32.size := by rw [W32.size]; exact Z26
      have K32 : Keep h0 h32 [a] := K26.wr W32 (Or.inl (List.mem_of_getElem? (i := 0) rfl))
      have N32 := Fr.snoc X32 N26 g_a
      refine w_ret0 X32 hx hlk hret (dB d2_73) (by decide) (by decide) ?_
      rw [e32]
      exact ⟨rfl, N32, K32⟩
     ·exfalso; omega
   ·exfalso; omega
theorem ef_6 (m : MethodId) (x0 : Addr) (x1 : Addr) : entryFrame m #[(.ref x0), (.ref x1)] 2 = mkF m 0 #[.val (.ref x0), .val (.ref x1)] [] := by first | (simp [entryFrame, mkF, argsToLocals, Value.category]; done) | rfl
def Q6 (Z : State) (a : Addr) (hd_ : Addr) (h0 : Heap) (n0 : Nat) (v : Option Value) (h : Heap) (L : List Loc) : Prop := v = none ∧ Fr n0 L ∧ Keep h0 h [a] ∧ Fld Z h a cN_6 "header" cN_7 (.ref hd_) ∧ Fld Z h a cN_5 "content" "[B" .null
set_option maxRecDepth 65536 in
set_option maxHeartbeats 40000000 in
theorem rm6 (l : Launch) (Z : State) (a0 : Array Value) (hw : ∀ d ∈ tables_1, d.before a0 Z = true) (ws : List Jvm.Cond) (a : Addr) (hd_ : Addr) (h0 : Heap) (n0 : Nat) (Z0 : n0 ≤ h0.size) (E_a : Exa Z h0 a cN_5) (F_header_a : Fld Z h0 a cN_6 "header" cN_7 .null) (F_content_a : Fld Z h0 a cN_5 "content" "[B" .null) (g_a : n0 ≤ a) :
    CT l mN_6 prog_16_method_1_code 2 none ws ({ frames := 1, cells := 0, slots := 0, locals := 12 } : Room) #[(.ref a), (.ref hd_)] Z h0 (Q6 Z a hd_ h0 n0) := by
  refine body_of (plainFor_of_name pn_3) ?_
  intro p e s m below meth c s₁ hx dB hret hlk hml hown0 hnm X0 e0 hZ
  have hown : s.vm.findClass cN_6 = some m.cls := hown0
  have N0 := Fr.nil n0
  rw [ef_6]
  show Wk p e below (FN s (Q6 Z a hd_ h0 n0) 0 0) s₁ (mkF m 0 #[.val (.ref a), .val (.ref hd_)] [])
  refine w_aloadN X0 hx (.ref a) (dB d6_0) 1 rfl rfl rfl ?_
  refine w_objinit X0 hx hZ hown e0 (tw_46 hw) (tw_24 hw) (tw_25 hw) (by rw [hml]; rfl) (by decide) 0 rfl (by decide) (dB d6_1) 4 rfl (fun T38 X38 e38 => ?_)
  refine w_aloadN X38 hx (.ref a) (dB d6_4) 5 rfl rfl rfl ?_
  refine w_aloadN X38 hx (.ref hd_) (dB d6_5) 6 rfl rfl rfl ?_
  refine w_putF X38 hx hZ hown e38 (host := "") (Or.inl (tw_47 hw)) Via.refl F_header_a E_a (Or.inr ⟨(tw_48 hw), rfl, hnm⟩) (tw_36 hw) (ty := (.object "com/example/nodecard/nodecard/card/FileHeader")) (by decide) rfl rfl (dB d6_6) 9 rfl (fun T39 h39 X39 e39 W39 => ?_)
  have F40 : Exa Z h39 a cN_5 := E_a.wr W39
  have F41 : Fld Z h39 a cN_6 "header" cN_7 (.ref hd_) := F_header_a.same W39
  have F42 : Fld Z h39 a cN_5 "content" "[B" .null := F_content_a.other W39 (Or.inr (slot_ne (Or.inr (tw_62 hw)) (Or.inr (tw_48 hw)) (by decide) (t := (.array .byte)) (t' := (.object "com/example/nodecard/nodecard/card/FileHeader")) (by decide) (by decide)))
  have Z39 : n0 ≤ h39.size := by rw [W39.size]; exact Z0
  have K39 : Keep h0 h39 [a] := (Keep.refl h0 [a]).wr W39 (Or.inl (List.mem_of_getElem? (i := 0) rfl))
  have N39 := Fr.snoc X39 N0 g_a
  refine w_ret0 X39 hx hlk hret (dB d6_9) (by decide) (by decide) ?_
  rw [e39]
  exact ⟨rfl, N39, K39, F41, F42⟩
theorem ef_7 (m : MethodId) (x0 : Int32) : entryFrame m #[(.int x0)] 1 = mkF m 0 #[.val (.int x0)] [] := by first | (simp [entryFrame, mkF, argsToLocals, Value.category]; done) | rfl
def Q7 (Z : State) (x : Int32) (h0 : Heap) (n0 : Nat) (v : Option Value) (h : Heap) (L : List Loc) : Prop := v = none ∧ Fr n0 L ∧ h = h0
set_option maxRecDepth 65536 in
set_option maxHeartbeats 40000000 in
theorem rm7 (l : Launch) (Z : State) (a0 : Array Value) (hw : ∀ d ∈ tables_1, d.before a0 Z = true) (ws : List Jvm.Cond) (x : Int32) (h0 : Heap) (n0 : Nat) (Z0 : n0 ≤ h0.size) (p0 : 1 ≤ x.toInt) (p1 : x.toInt ≤ 32767) :
    CT l mN_7 prog_33_method_3_code 1 none ws ({ frames := 0, cells := 0, slots := 0, locals := 0 } : Room) #[(.int x)] Z h0 (Q7 Z x h0 n0) := by
  refine body_of (plainFor_of_name pn_4) ?_
  intro p e s m below meth c s₁ hx dB hret hlk hml hown0 hnm X0 e0 hZ
  have hown : s.vm.findClass cN_5 = some m.cls := hown0
  have N0 := Fr.nil n0
  rw [ef_7]
  show Wk p e below (FN s (Q7 Z x h0 n0) 0 0) s₁ (mkF m 0 #[.val (.int x)] [])
  have r_x := rng32 x
  refine w_iloadN X0 hx x (dB d7_0) 1 rfl rfl ?_
  refine w_iconst X0 hx (dB d7_1) 2 rfl (1 : Int32) (by decide) ?_
  refine w_icmp_lt X0 hx x.toInt 1 rfl (by decide) (dB d7_2) 12 5 (fun c43 => ?_) (fun c43 => ?_)
  ·exfalso; omega
  ·refine w_iloadN X0 hx x (dB d7_5) 6 rfl rfl ?_
   refine w_sipush X0 hx (dB d7_6) 9 rfl (32767 : Int32) (by decide) ?_
   refine w_icmp_le X0 hx x.toInt 32767 rfl (by decide) (dB d7_9) 26 12 (fun c44 => ?_) (fun c44 => ?_)
   ·refine w_ret0 X0 hx hlk hret (dB d7_26) (by decide) (by decide) ?_
    rw [e0]
    exact ⟨rfl, N0, rfl⟩
   ·exfalso; omega
theorem ef_5 (m : MethodId) (x0 : Addr) (x1 : Addr) (x2 : Addr) : entryFrame m #[(.ref x0), (.ref x1), (.ref x2)] 3 = mkF m 0 #[.val (.ref x0), .val (.ref x1), .val (.ref x2)] [] := by first | (simp [entryFrame, mkF, argsToLocals, Value.category]; done) | rfl
def Q5 (Z : State) (a : Addr) (hd_ : Addr) (ar : Addr) (kb : ClassId) (zz : Int32) (el0 : Int32) (el1 : Int32) (el2 : Int32) (h0 : Heap) (n0 : Nat) (v : Option Value) (h : Heap) (L : List Loc) : Prop := v = none ∧ Fr n0 L ∧ Keep h0 h [a]
set_option maxRecDepth 65536 in
set_option maxHeartbeats 40000000 in
theorem rm5 (l : Launch) (Z : State) (a0 : Array Value) (hw : ∀ d ∈ tables_1, d.before a0 Z = true) (ws : List Jvm.Cond) (a : Addr) (hd_ : Addr) (ar : Addr) (kb : ClassId) (zz : Int32) (el0 : Int32) (el1 : Int32) (el2 : Int32) (h0 : Heap) (n0 : Nat) (Z0 : n0 ≤ h0.size) (E_a : Exa Z h0 a cN_5) (F_header_a : Fld Z h0 a cN_6 "header" cN_7 .null) (F_content_a : Fld Z h0 a cN_5 "content" "[B" .null) (V_ar : Arv Z h0 ar kb .byte zz [(.int el0), (.int el1), (.int el2)] (.int (0 : Int32))) (E_ar : Exa Z h0 ar "[B") (g_a : n0 ≤ a) (p0 : 1 ≤ zz.toInt) (p1 : zz.toInt ≤ 3) :
    CT l mN_5 prog_33_method_1_code 3 none ws ({ frames := 2, cells := 1, slots := 3, locals := 25 } : Room) #[(.ref a), (.ref hd_), (.ref ar)] Z h0 (Q5 Z a hd_ ar kb zz el0 el1 el2 h0 n0) := by
  refine body_of (plainFor_of_name pn_4) ?_
  intro p e s m below meth c s₁ hx dB hret hlk hml hown0 hnm X0 e0 hZ
  have hown : s.vm.findClass cN_5 = some m.cls := hown0
  have N0 := Fr.nil n0
  rw [ef_5]
  show Wk p e below (FN s (Q5 Z a hd_ ar kb zz el0 el1 el2 h0 n0) 1 3) s₁ (mkF m 0 #[.val (.ref a), .val (.ref hd_), .val (.ref ar)] [])
  refine w_aloadN X0 hx (.ref a) (dB d5_0) 1 rfl rfl rfl ?_
  refine w_aloadN X0 hx (.ref hd_) (dB d5_1) 2 rfl rfl rfl ?_
  refine w_init X0 hx hZ rfl hown e0 (rm6 l Z a0 hw [] a hd_ h0 n0 Z0 E_a F_header_a F_content_a g_a) (tw_41 hw) (tw_42 hw) (tw_44 hw) (tw_45 hw) (by decide) (by rw [hml]; rfl) a [(.ref hd_)] [] (lenOf pd_1 rfl) rfl rfl (by decide) 0 rfl (by decide) (by decide) (by decide) (dB d5_2) 5 rfl (fun r45 T45 L45 X45 q45 => ?_)
  obtain ⟨rfl, Nq45, Kq45, G45_0, G45_1⟩ := q45
  have N45 := Fr.app N0 Nq45
  have F46 : Exa Z T45.heap a cN_5 := E_a.keep Kq45
  have F47 : Arv Z T45.heap ar kb .byte zz [(.int el0), (.int el1), (.int el2)] (.int (0 : Int32)) := V_ar.keep Kq45 (ninS (Ne.symm (ne_arv E_a (tw_36 hw) V_ar)) nin0)
  have F48 : Exa Z T45.heap ar "[B" := E_ar.keep Kq45
  have Z45 : n0 ≤ T45.heap.size := Nat.le_trans Z0 Kq45.1
  have K45 : Keep h0 T45.heap [a] := (Keep.refl h0 [a]).trans Kq45 (allS (Or.inl (List.mem_of_getElem? (i := 0) rfl)) all0)
  dsimp only [Option.toList_some, Option.toList_none, List.cons_append, List.nil_append]
  refine w_aloadN X45 hx (.ref ar) (dB d5_5) 6 rfl rfl rfl ?_
  refine w_length X45 hx hZ rfl F47 (dB d5_6) 7 rfl ?_
  refine w_callS X45 hx hZ hown rfl (rm7 l Z a0 hw [] zz T45.heap n0 Z45 (by omega) (by omega)) (tw_49 hw) (tw_50 hw) (tw_37 hw) (tw_51 hw) (by decide) (by rw [hml]; rfl) [(.int zz)] [] (lenOf pd_2 rfl) rfl rfl (by decide) 0 rfl (by decide) (by decide) (by decide) (dB d5_7) 10 rfl (fun r49 T49 L49 X49 q49 => ?_)
  obtain ⟨rfl, Nq49, eq49⟩ := q49
  have N49 := Fr.app N45 Nq49
  dsimp only [Option.toList_some, Option.toList_none, List.cons_append, List.nil_append]
  refine w_aloadN X49 hx (.ref a) (dB d5_10) 11 rfl rfl rfl ?_
  refine w_aloadN X49 hx (.ref ar) (dB d5_11) 12 rfl rfl rfl ?_
  refine w_clone X49 hx hZ hown eq49 (tw_52 hw) (tw_53 hw) (tw_57 hw) (tw_55 hw) (tw_56 hw) (tw_58 hw) F47 F48 (by rw [hml]; rfl) (by decide) 1 rfl (by decide) 3 (by have := clampN (x := zz) rfl (by omega); omega) (by decide) (by decide) (dB d5_12) 15 rfl (fun T50 h50 a50 X50 e50 g50 E50 V50 A50 => ?_)
  have ne_a_a50 : a ≠ a50 := Nat.ne_of_lt (Nat.lt_of_lt_of_le F46.lt (Nat.le_of_eq g50.symm))
  have ne_ar_a50 : ar ≠ a50 := Nat.ne_of_lt (Nat.lt_of_lt_of_le F47.lt (Nat.le_of_eq g50.symm))
  have g_a50 : n0 ≤ a50 := Nat.le_trans Z45 (Nat.le_of_eq g50.symm)
  have s_a50 : h0.size ≤ a50 := Nat.le_trans K45.1 (Nat.le_of_eq g50.symm)
  have F51 : Exa Z h50 a cN_5 := F46.ext E50
  have F52 : Arv Z h50 ar kb .byte zz [(.int el0), (.int el1), (.int el2)] (.int (0 : Int32)) := F47.ext E50
  have F53 : Exa Z h50 ar "[B" := F48.ext E50
  have F54 : Fld Z h50 a cN_6 "header" cN_7 (.ref hd_) := G45_0.ext E50
  have F55 : Fld Z h50 a cN_5 "content" "[B" .null := G45_1.ext E50
  have Z50 : n0 ≤ h50.size := Nat.le_trans Z45 E50.1
  have K50 : Keep h0 h50 [a] := K45.ext E50
  refine w_cast X50 hx hZ hown e50 (tw_59 hw) (Ins.self A50) (dB d5_15) 18 rfl (fun T56 X56 e56 => ?_)
  refine w_putF X56 hx hZ hown e56 (host := "") (Or.inl (tw_61 hw)) Via.refl F55 F51 (Or.inr ⟨(tw_62 hw), rfl, hnm⟩) (tw_36 hw) (ty := (.array .byte)) (by decide) rfl rfl (dB d5_18) 21 rfl (fun T57 h57 X57 e57 W57 => ?_)
  have F58 : Exa Z h57 a cN_5 := F51.wr W57
  have F59 : Arv Z h57 ar kb .byte zz [(.int el0), (.int el1), (.int el2)] (.int (0 : Int32)) := F52.other W57 (Ne.symm (ne_arv F51 (tw_36 hw) F52))
  have F60 : Exa Z h57 ar "[B" := F53.wr W57
  have F61 : Fld Z h57 a cN_6 "header" cN_7 (.ref hd_) := F54.other W57 (Or.inr (slot_ne (Or.inr (tw_48 hw)) (Or.inr (tw_62 hw)) (by decide) (t := (.object "com/example/nodecard/nodecard/card/FileHeader")) (t' := (.array .byte)) (by decide) (by decide)))
  have F62 : Fld Z h57 a cN_5 "content" "[B" (.ref a50) := F55.same W57
  have F63 : Arv Z h57 a50 kb .byte zz [(.int el0), (.int el1), (.int el2)] (.int (0 : Int32)) := V50.other W57 (Ne.symm ne_a_a50)
  have F64 : Exa Z h57 a50 "[B" := A50.wr W57
  have Z57 : n0 ≤ h57.size := by rw [W57.size]; exact Z50
  have K57 : Keep h0 h57 [a] := K50.wr W57 (Or.inl (List.mem_of_getElem? (i := 0) rfl))
  have N57 := Fr.snoc X57 N49 g_a
  refine w_ret0 X57 hx hlk hret (dB d5_21) (by decide) (by decide) ?_
  rw [e57]
  exact ⟨rfl, N57, K57⟩
theorem ef_8 (m : MethodId) (x0 : Addr) : entryFrame m #[(.ref x0)] 1 = mkF m 0 #[.val (.ref x0)] [] := by first | (simp [entryFrame, mkF, argsToLocals, Value.category]; done) | rfl
def Q8 (Z : State) (a : Addr) (h0 : Heap) (n0 : Nat) (v : Option Value) (h : Heap) (L : List Loc) : Prop := ∃ bb : Addr, ∃ kb : ClassId, v = some (.ref bb) ∧ Fr n0 L ∧ Keep h0 h [] ∧ h0.size ≤ bb ∧ Arv Z h bb kb .byte (2 : Int32) [(.int (65 : Int32)), (.int (33 : Int32))] (.int (0 : Int32))
set_option maxRecDepth 65536 in
set_option maxHeartbeats 40000000 in
theorem rm8 (l : Launch) (Z : State) (a0 : Array Value) (hw : ∀ d ∈ tables_1, d.before a0 Z = true) (ws : List Jvm.Cond) (a : Addr) (h0 : Heap) (n0 : Nat) (Z0 : n0 ≤ h0.size) :
    CT l mN_8 prog_33_method_5_code 1 (some (.array .byte)) ws ({ frames := 0, cells := 1, slots := 2, locals := 0 } : Room) #[(.ref a)] Z h0 (Q8 Z a h0 n0) := by
  refine body_of (plainFor_of_name pn_4) ?_
  intro p e s m below meth c s₁ hx dB hret hlk hml hown0 hnm X0 e0 hZ
  have hown : s.vm.findClass cN_5 = some m.cls := hown0
  have N0 := Fr.nil n0
  rw [ef_8]
  show Wk p e below (FN s (Q8 Z a h0 n0) 1 2) s₁ (mkF m 0 #[.val (.ref a)] [])
  refine w_iconst X0 hx (dB d8_0) 1 rfl (2 : Int32) (by decide) ?_
  refine w_newP X0 hx hZ e0 (aty := .byte) (tw_11 hw) (by decide) 2 (by decide) (by decide) (by decide) (by decide) (dB d8_1) 3 rfl (fun T65 h65 a65 k65 X65 e65 g65 E65 A65 => ?_)
  have g_a65 : n0 ≤ a65 := Nat.le_trans Z0 (Nat.le_of_eq g65.symm)
  have s_a65 : h0.size ≤ a65 := Nat.le_trans (Keep.refl h0 []).1 (Nat.le_of_eq g65.symm)
  have Z65 : n0 ≤ h65.size := Nat.le_trans Z0 E65.1
  have K65 : Keep h0 h65 [] := (Keep.refl h0 []).ext E65
  have V65 : Arv Z h65 a65 k65 .byte (2 : Int32) [(.int (0 : Int32)), (.int (0 : Int32))] (.int (0 : Int32)) := A65.pad (pad_rep [] (.int (0 : Int32)) 2)
  refine w_dup X65 hx (dB d8_3) 4 rfl rfl ?_
  refine w_iconst X65 hx (dB d8_4) 5 rfl (0 : Int32) (by decide) ?_
  refine w_bipush X65 hx (dB d8_5) 7 rfl (65 : Int32) (by decide) ?_
  refine w_bastore X65 hx hZ e65 V65 ⟨by decide, by decide⟩ 0 (by decide) (show 0 < 2 from (by decide)) (dB d8_7) 8 rfl (fun T66 h66 X66 e66 W66 V66 => ?_)
  have b66 : (65 : Int32).toInt8.toInt32 = (65 : Int32) := by decide
  rw [b66] at W66 V66
  have F67 : Arv Z h66 a65 k65 .byte (2 : Int32) [(.int (65 : Int32)), (.int (0 : Int32))] (.int (0 : Int32)) := V66
  have Z66 : n0 ≤ h66.size := by rw [W66.size]; exact Z65
  have K66 : Keep h0 h66 [] := K65.wr W66 (Or.inr s_a65)
  have N66 := Fr.snoc X66 N0 g_a65
  refine w_dup X66 hx (dB d8_8) 9 rfl rfl ?_
  refine w_iconst X66 hx (dB d8_9) 10 rfl (1 : Int32) (by decide) ?_
  refine w_bipush X66 hx (dB d8_10) 12 rfl (33 : Int32) (by decide) ?_
  refine w_bastore X66 hx hZ e66 F67 ⟨by decide, by decide⟩ 1 (by decide) (show 1 < 2 from (by decide)) (dB d8_12) 13 rfl (fun T68 h68 X68 e68 W68 V68 => ?_)
  have b68 : (33 : Int32).toInt8.toInt32 = (33 : Int32) := by decide
  rw [b68] at W68 V68
  have F69 : Arv Z h68 a65 k65 .byte (2 : Int32) [(.int (65 : Int32)), (.int (33 : Int32))] (.int (0 : Int32)) := V68
  have Z68 : n0 ≤ h68.size := by rw [W68.size]; exact Z66
  have K68 : Keep h0 h68 [] := K66.wr W68 (Or.inr s_a65)
  have N68 := Fr.snoc X68 N66 g_a65
  refine w_retA X68 hx hlk hret rfl rfl (dB d8_13) (by decide) (by decide) ?_
  rw [e68]
  exact ⟨a65, k65, rfl, N68, K68, s_a65, F69⟩
theorem ef_0 (m : MethodId) (x0 : Int32) (x1 : Int32) (x2 : Int32) (x3 : Int32) (x4 : Int32) : entryFrame m #[(.int x0), (.int x1), (.int x2), (.int x3), (.int x4)] maxLocals = mkF m 0 #[.val (.int x0), .val (.int x1), .val (.int x2), .val (.int x3), .val (.int x4), .unset, .unset, .unset, .unset, .unset, .unset, .unset, .unset, .unset, .unset, .unset, .unset] [] := by first | (simp [entryFrame, mkF, argsToLocals, Value.category, maxLocals]; done) | rfl
def Q0 (Z : State) (id_ : Int32) (sf : Int32) (cn : Int32) (da : Int32) (pk : Int32) (st_ADM1 : Addr) (st_ALWAYS : Addr) (st_PIN1 : Addr) (st_PIN1_OR_ADM1 : Addr) (h0 : Heap) (n0 : Nat) (v : Option Value) (h : Heap) (L : List Loc) : Prop := v = some (.int 1) ∧ Fr n0 L
set_option maxRecDepth 65536 in
set_option maxHeartbeats 40000000 in
theorem rm0 (l : Launch) (Z : State) (a0 : Array Value) (hw : ∀ d ∈ tables_1, d.before a0 Z = true) (ws : List Jvm.Cond) (id_ : Int32) (sf : Int32) (cn : Int32) (da : Int32) (pk : Int32) (st_ADM1 : Addr) (st_ALWAYS : Addr) (st_PIN1 : Addr) (st_PIN1_OR_ADM1 : Addr) (h0 : Heap) (n0 : Nat) (Z0 : n0 ≤ h0.size) (S_st_ADM1 : Sta Z h0 cN_1 "ADM1" cN_2 (.ref st_ADM1)) (E_st_ADM1 : Exa Z h0 st_ADM1 cN_1) (S_st_ALWAYS : Sta Z h0 cN_1 "ALWAYS" cN_2 (.ref st_ALWAYS)) (E_st_ALWAYS : Exa Z h0 st_ALWAYS cN_1) (S_st_PIN1 : Sta Z h0 cN_1 "PIN1" cN_2 (.ref st_PIN1)) (E_st_PIN1 : Exa Z h0 st_PIN1 cN_1) (S_st_PIN1_OR_ADM1 : Sta Z h0 cN_1 "PIN1_OR_ADM1" cN_2 (.ref st_PIN1_OR_ADM1)) (E_st_PIN1_OR_ADM1 : Exa Z h0 st_PIN1_OR_ADM1 cN_1) :
    MetFree l x (head1 (Jvm.Cond.code x code maxLocals ret :: ws) room_1) (fun as_ U => as_ = #[(.int id_), (.int sf), (.int cn), (.int da), (.int pk)] ∧ Z.Warmed39 U.vm ∧ U.heap = h0) (fun _ _ _ _ _ => True) (fun _ U o U' => ∃ v L, o = .returned v ∧ Q0 Z id_ sf cn da pk st_ADM1 st_ALWAYS st_PIN1 st_PIN1_OR_ADM1 h0 n0 v U'.heap L ∧ FrameEnd U o U' L 7 17) := by
  refine body_of (plainFor_of_name pn_1) ?_
  intro p e s m below meth c s₁ hx dB hret hlk hml hown0 hnm X0 e0 hZ
  have hown : s.vm.findClass cN_3 = some m.cls := hown0
  have N0 := Fr.nil n0
  rw [ef_0]
  show Wk p e below (FN s (Q0 Z id_ sf cn da pk st_ADM1 st_ALWAYS st_PIN1 st_PIN1_OR_ADM1 h0 n0) 7 17) s₁ (mkF m 0 #[.val (.int id_), .val (.int sf), .val (.int cn), .val (.int da), .val (.int pk), .unset, .unset, .unset, .unset, .unset, .unset, .unset, .unset, .unset, .unset, .unset, .unset] [])
  have r_id_ := rng32 id_
  have r_sf := rng32 sf
  have r_cn := rng32 cn
  have r_da := rng32 da
  have r_pk := rng32 pk
  refine w_iloadN X0 hx id_ (dB at_0) 1 rfl rfl ?_
  refine w_ldc X0 hx hZ hown (tw_0 hw) (dB at_1) 3 rfl ?_
  obtain ⟨v70, e70⟩ : ∃ z : Int32, z = id_ &&& (65535 : Int32) := ⟨_, rfl⟩
  have n70 : v70.toInt = id_.toInt % 65536 := by rw [e70]; exact maskX 16 rfl (by decide) (by decide)
  refine w_iand X0 hx (dB at_3) 4 rfl e70 ?_
  refine w_istore X0 hx (dB at_4) 6 rfl #[.val (.int id_), .val (.int sf), .val (.int cn), .val (.int da), .val (.int pk), .val (.int v70), .unset, .unset, .unset, .unset, .unset, .unset, .unset, .unset, .unset, .unset, .unset] rfl ?_
  refine w_iloadN X0 hx sf (dB at_6) 7 rfl rfl ?_
  refine w_ldc X0 hx hZ hown (tw_1 hw) (dB at_7) 9 rfl ?_
  obtain ⟨v71, e71⟩ : ∃ z : Int32, z = sf &&& (2147483647 : Int32) := ⟨_, rfl⟩
  have n71 : v71.toInt = sf.toInt % 2147483648 := by rw [e71]; exact maskX 31 rfl (by decide) (by decide)
  refine w_iand X0 hx (dB at_9) 10 rfl e71 ?_
  refine w_bipush X0 hx (dB at_10) 12 rfl (31 : Int32) (by decide) ?_
  obtain ⟨v72, e72⟩ : ∃ z : Int32, z = v71 % (31 : Int32) := ⟨_, rfl⟩
  have n72 : v72.toInt = v71.toInt % 31 := by rw [e72]; exact iremX rfl (by decide) (by omega)
  refine w_irem X0 hx (dB at_12) 13 rfl (by decide) e72 ?_
  refine w_istore X0 hx (dB at_13) 15 rfl #[.val (.int id_), .val (.int sf), .val (.int cn), .val (.int da), .val (.int pk), .val (.int v70), .val (.int v72), .unset, .unset, .unset, .unset, .unset, .unset, .unset, .unset, .unset, .unset] rfl ?_
  refine w_iloadN X0 hx cn (dB at_15) 16 rfl rfl ?_
  refine w_iconst X0 hx (dB at_16) 17 rfl (3 : Int32) (by decide) ?_
  obtain ⟨v73, e73⟩ : ∃ z : Int32, z = cn &&& (3 : Int32) := ⟨_, rfl⟩
  have n73 : v73.toInt = cn.toInt % 4 := by rw [e73]; exact maskX 2 rfl (by decide) (by decide)
  refine w_iand X0 hx (dB at_17) 18 rfl e73 ?_
  refine w_callS X0 hx hZ hown e0 (rm1 l Z a0 hw [] v73 st_ALWAYS st_PIN1 st_ADM1 st_PIN1_OR_ADM1 h0 n0 Z0 S_st_ALWAYS S_st_PIN1 S_st_ADM1 S_st_PIN1_OR_ADM1) (tw_2 hw) (tw_3 hw) (tw_4 hw) (tw_5 hw) (by decide) (by rw [hml]; rfl) [(.int v73)] [] (lenOf pd_3 rfl) rfl rfl (by decide) 0 rfl (by decide) (by decide) (by decide) (dB at_18) 21 rfl (fun r74 T74 L74 X74 q74 => ?_)
  obtain ⟨rr74, rfl, Nq74, Kq74⟩ := q74
  have N74 := Fr.app N0 Nq74
  have F75 : Sta Z T74.heap cN_1 "ADM1" cN_2 (.ref st_ADM1) := sta_keep S_st_ADM1 Kq74 all0
  have F76 : Exa Z T74.heap st_ADM1 cN_1 := E_st_ADM1.keep Kq74
  have F77 : Sta Z T74.heap cN_1 "ALWAYS" cN_2 (.ref st_ALWAYS) := sta_keep S_st_ALWAYS Kq74 all0
  have F78 : Exa Z T74.heap st_ALWAYS cN_1 := E_st_ALWAYS.keep Kq74
  have F79 : Sta Z T74.heap cN_1 "PIN1" cN_2 (.ref st_PIN1) := sta_keep S_st_PIN1 Kq74 all0
  have F80 : Exa Z T74.heap st_PIN1 cN_1 := E_st_PIN1.keep Kq74
  have F81 : Sta Z T74.heap cN_1 "PIN1_OR_ADM1" cN_2 (.ref st_PIN1_OR_ADM1) := sta_keep S_st_PIN1_OR_ADM1 Kq74 all0
  have F82 : Exa Z T74.heap st_PIN1_OR_ADM1 cN_1 := E_st_PIN1_OR_ADM1.keep Kq74
  have Z74 : n0 ≤ T74.heap.size := Nat.le_trans Z0 Kq74.1
  have K74 : Keep h0 T74.heap [] := (Keep.refl h0 []).trans Kq74 all0
  dsimp only [Option.toList_some, Option.toList_none, List.cons_append, List.nil_append]
  refine w_astore X74 hx (dB at_21) 23 rfl rfl #[.val (.int id_), .val (.int sf), .val (.int cn), .val (.int da), .val (.int pk), .val (.int v70), .val (.int v72), .val (.ref rr74), .unset, .unset, .unset, .unset, .unset, .unset, .unset, .unset, .unset] rfl ?_
  refine w_iloadN X74 hx cn (dB at_23) 24 rfl rfl ?_
  refine w_iconst X74 hx (dB at_24) 25 rfl (2 : Int32) (by decide) ?_
  obtain ⟨v83, e83⟩ : ∃ z : Int32, z = (cn.toUInt32 >>> ((2 : Int32) &&& 31).toUInt32).toInt32 := ⟨_, rfl⟩
  have n83 : v83.toInt = (cn.toInt % 4294967296) / 4 := by rw [e83]; exact iushrX 2 rfl (by decide) (by decide)
  refine w_iushr X74 hx (dB at_25) 26 rfl e83 ?_
  refine w_iconst X74 hx (dB at_26) 27 rfl (3 : Int32) (by decide) ?_
  obtain ⟨v84, e84⟩ : ∃ z : Int32, z = v83 &&& (3 : Int32) := ⟨_, rfl⟩
  have n84 : v84.toInt = v83.toInt % 4 := by rw [e84]; exact maskX 2 rfl (by decide) (by decide)
  refine w_iand X74 hx (dB at_27) 28 rfl e84 ?_
  refine w_callS X74 hx hZ hown rfl (rm1 l Z a0 hw [] v84 st_ALWAYS st_PIN1 st_ADM1 st_PIN1_OR_ADM1 T74.heap n0 Z74 F77 F79 F75 F81) (tw_2 hw) (tw_3 hw) (tw_4 hw) (tw_5 hw) (by decide) (by rw [hml]; rfl) [(.int v84)] [] (lenOf pd_3 rfl) rfl rfl (by decide) 0 rfl (by decide) (by decide) (by decide) (dB at_28) 31 rfl (fun r85 T85 L85 X85 q85 => ?_)
  obtain ⟨rr85, rfl, Nq85, Kq85⟩ := q85
  have N85 := Fr.app N74 Nq85
  have F86 : Sta Z T85.heap cN_1 "ADM1" cN_2 (.ref st_ADM1) := sta_keep F75 Kq85 all0
  have F87 : Exa Z T85.heap st_ADM1 cN_1 := F76.keep Kq85
  have F88 : Sta Z T85.heap cN_1 "ALWAYS" cN_2 (.ref st_ALWAYS) := sta_keep F77 Kq85 all0
  have F89 : Exa Z T85.heap st_ALWAYS cN_1 := F78.keep Kq85
  have F90 : Sta Z T85.heap cN_1 "PIN1" cN_2 (.ref st_PIN1) := sta_keep F79 Kq85 all0
  have F91 : Exa Z T85.heap st_PIN1 cN_1 := F80.keep Kq85
  have F92 : Sta Z T85.heap cN_1 "PIN1_OR_ADM1" cN_2 (.ref st_PIN1_OR_ADM1) := sta_keep F81 Kq85 all0
  have F93 : Exa Z T85.heap st_PIN1_OR_ADM1 cN_1 := F82.keep Kq85
  have Z85 : n0 ≤ T85.heap.size := Nat.le_trans Z74 Kq85.1
  have K85 : Keep h0 T85.heap [] := K74.trans Kq85 all0
  dsimp only [Option.toList_some, Option.toList_none, List.cons_append, List.nil_append]
  refine w_astore X85 hx (dB at_31) 33 rfl rfl #[.val (.int id_), .val (.int sf), .val (.int cn), .val (.int da), .val (.int pk), .val (.int v70), .val (.int v72), .val (.ref rr74), .val (.ref rr85), .unset, .unset, .unset, .unset, .unset, .unset, .unset, .unset] rfl ?_
  refine w_iconst X85 hx (dB at_33) 34 rfl (1 : Int32) (by decide) ?_
  refine w_newPE X85 hx hZ rfl (aty := .byte) (tw_11 hw) (by decide) 1 (by decide) (by decide) (by decide) (by decide) "[B" (by decide) (dB at_34) 36 rfl (fun T94 h94 a94 k94 X94 e94 g94 E94 A94 B94 => ?_)
  have ne_st_ADM1_a94 : st_ADM1 ≠ a94 := Nat.ne_of_lt (Nat.lt_of_lt_of_le F87.lt (Nat.le_of_eq g94.symm))
  have ne_st_ALWAYS_a94 : st_ALWAYS ≠ a94 := Nat.ne_of_lt (Nat.lt_of_lt_of_le F89.lt (Nat.le_of_eq g94.symm))
  have ne_st_PIN1_a94 : st_PIN1 ≠ a94 := Nat.ne_of_lt (Nat.lt_of_lt_of_le F91.lt (Nat.le_of_eq g94.symm))
  have ne_st_PIN1_OR_ADM1_a94 : st_PIN1_OR_ADM1 ≠ a94 := Nat.ne_of_lt (Nat.lt_of_lt_of_le F93.lt (Nat.le_of_eq g94.symm))
  have g_a94 : n0 ≤ a94 := Nat.le_trans Z85 (Nat.le_of_eq g94.symm)
  have s_a94 : h0.size ≤ a94 := Nat.le_trans K85.1 (Nat.le_of_eq g94.symm)
  have F95 : Sta Z h94 cN_1 "ADM1" cN_2 (.ref st_ADM1) := F86.ext E94
  have F96 : Exa Z h94 st_ADM1 cN_1 := F87.ext E94
  have F97 : Sta Z h94 cN_1 "ALWAYS" cN_2 (.ref st_ALWAYS) := F88.ext E94
  have F98 : Exa Z h94 st_ALWAYS cN_1 := F89.ext E94
  have F99 : Sta Z h94 cN_1 "PIN1" cN_2 (.ref st_PIN1) := F90.ext E94
  have F100 : Exa Z h94 st_PIN1 cN_1 := F91.ext E94
  have F101 : Sta Z h94 cN_1 "PIN1_OR_ADM1" cN_2 (.ref st_PIN1_OR_ADM1) := F92.ext E94
  have F102 : Exa Z h94 st_PIN1_OR_ADM1 cN_1 := F93.ext E94
  have Z94 : n0 ≤ h94.size := Nat.le_trans Z85 E94.1
  have K94 : Keep h0 h94 [] := K85.ext E94
  have V94 : Arv Z h94 a94 k94 .byte (1 : Int32) [(.int (0 : Int32)), (.int (0 : Int32)), (.int (0 : Int32))] (.int (0 : Int32)) := A94.pad (pad_rep [] (.int (0 : Int32)) 3)
  refine w_dup X94 hx (dB at_36) 37 rfl rfl ?_
  refine w_iconst X94 hx (dB at_37) 38 rfl (0 : Int32) (by decide) ?_
  refine w_iloadN X94 hx da (dB at_38) 39 rfl rfl ?_
  obtain ⟨v103, e103⟩ : ∃ z : Int32, z = da.toInt8.toInt32 := ⟨_, rfl⟩
  have n103 : (v103.toInt - da.toInt) % 256 = 0 ∧ -128 ≤ v103.toInt ∧ v103.toInt < 128 := by rw [e103]; exact i2bX rfl
  refine w_i2b X94 hx (dB at_39) 40 rfl e103 ?_
  refine w_bastore X94 hx hZ e94 V94 ⟨by decide, by decide⟩ 0 (by decide) (show 0 < 3 from (by decide)) (dB at_40) 41 rfl (fun T104 h104 X104 e104 W104 V104 => ?_)
  have b104 : v103.toInt8.toInt32 = v103 := eqI (byteE rfl (by omega) (by omega))
  rw [b104] at W104 V104
  have F105 : Sta Z h104 cN_1 "ADM1" cN_2 (.ref st_ADM1) := F95.wr W104
  have F106 : Exa Z h104 st_ADM1 cN_1 := F96.wr W104
  have F107 : Sta Z h104 cN_1 "ALWAYS" cN_2 (.ref st_ALWAYS) := F97.wr W104
  have F108 : Exa Z h104 st_ALWAYS cN_1 := F98.wr W104
  have F109 : Sta Z h104 cN_1 "PIN1" cN_2 (.ref st_PIN1) := F99.wr W104
  have F110 : Exa Z h104 st_PIN1 cN_1 := F100.wr W104
  have F111 : Sta Z h104 cN_1 "PIN1_OR_ADM1" cN_2 (.ref st_PIN1_OR_ADM1) := F101.wr W104
  have F112 : Exa Z h104 st_PIN1_OR_ADM1 cN_1 := F102.wr W104
  have F113 : Arv Z h104 a94 k94 .byte (1 : Int32) [(.int v103), (.int (0 : Int32)), (.int (0 : Int32))] (.int (0 : Int32)) := V104
  have F114 : Exa Z h104 a94 "[B" := B94.wr W104
  have Z104 : n0 ≤ h104.size := by rw [W104.size]; exact Z94
  have K104 : Keep h0 h104 [] := K94.wr W104 (Or.inr s_a94)
  have N104 := Fr.snoc X104 N85 g_a94
  refine w_astore X104 hx (dB at_41) 43 rfl rfl #[.val (.int id_), .val (.int sf), .val (.int cn), .val (.int da), .val (.int pk), .val (.int v70), .val (.int v72), .val (.ref rr74), .val (.ref rr85), .val (.ref a94), .unset, .unset, .unset, .unset, .unset, .unset, .unset] rfl ?_
  refine w_iconst X104 hx (dB at_43) 44 rfl (3 : Int32) (by decide) ?_
  refine w_newPE X104 hx hZ e104 (aty := .byte) (tw_11 hw) (by decide) 3 (by decide) (by decide) (by decide) (by decide) "[B" (by decide) (dB at_44) 46 rfl (fun T115 h115 a115 k115 X115 e115 g115 E115 A115 B115 => ?_)
  have ne_st_ADM1_a115 : st_ADM1 ≠ a115 := Nat.ne_of_lt (Nat.lt_of_lt_of_le F106.lt (Nat.le_of_eq g115.symm))
  have ne_st_ALWAYS_a115 : st_ALWAYS ≠ a115 := Nat.ne_of_lt (Nat.lt_of_lt_of_le F108.lt (Nat.le_of_eq g115.symm))
  have ne_st_PIN1_a115 : st_PIN1 ≠ a115 := Nat.ne_of_lt (Nat.lt_of_lt_of_le F110.lt (Nat.le_of_eq g115.symm))
  have ne_st_PIN1_OR_ADM1_a115 : st_PIN1_OR_ADM1 ≠ a115 := Nat.ne_of_lt (Nat.lt_of_lt_of_le F112.lt (Nat.le_of_eq g115.symm))
  have ne_a94_a115 : a94 ≠ a115 := Nat.ne_of_lt (Nat.lt_of_lt_of_le F113.lt (Nat.le_of_eq g115.symm))
  have g_a115 : n0 ≤ a115 := Nat.le_trans Z104 (Nat.le_of_eq g115.symm)
  have s_a115 : h0.size ≤ a115 := Nat.le_trans K104.1 (Nat.le_of_eq g115.symm)
  have F116 : Sta Z h115 cN_1 "ADM1" cN_2 (.ref st_ADM1) := F105.ext E115
  have F117 : Exa Z h115 st_ADM1 cN_1 := F106.ext E115
  have F118 : Sta Z h115 cN_1 "ALWAYS" cN_2 (.ref st_ALWAYS) := F107.ext E115
  have F119 : Exa Z h115 st_ALWAYS cN_1 := F108.ext E115
  have F120 : Sta Z h115 cN_1 "PIN1" cN_2 (.ref st_PIN1) := F109.ext E115
  have F121 : Exa Z h115 st_PIN1 cN_1 := F110.ext E115
  have F122 : Sta Z h115 cN_1 "PIN1_OR_ADM1" cN_2 (.ref st_PIN1_OR_ADM1) := F111.ext E115
  have F123 : Exa Z h115 st_PIN1_OR_ADM1 cN_1 := F112.ext E115
  have F124 : Arv Z h115 a94 k94 .byte (1 : Int32) [(.int v103), (.int (0 : Int32)), (.int (0 : Int32))] (.int (0 : Int32)) := F113.ext E115
  have F125 : Exa Z h115 a94 "[B" := F114.ext E115
  have Z115 : n0 ≤ h115.size := Nat.le_trans Z104 E115.1
  have K115 : Keep h0 h115 [] := K104.ext E115
  have V115 : Arv Z h115 a115 k115 .byte (3 : Int32) [(.int (0 : Int32)), (.int (0 : Int32)), (.int (0 : Int32))] (.int (0 : Int32)) := A115.pad (pad_rep [] (.int (0 : Int32)) 3)
  refine w_dup X115 hx (dB at_46) 47 rfl rfl ?_
  refine w_iconst X115 hx (dB at_47) 48 rfl (0 : Int32) (by decide) ?_
  refine w_iloadN X115 hx da (dB at_48) 49 rfl rfl ?_
  obtain ⟨v126, e126⟩ : ∃ z : Int32, z = da.toInt8.toInt32 := ⟨_, rfl⟩
  have n126 : (v126.toInt - da.toInt) % 256 = 0 ∧ -128 ≤ v126.toInt ∧ v126.toInt < 128 := by rw [e126]; exact i2bX rfl
  refine w_i2b X115 hx (dB at_49) 50 rfl e126 ?_
  refine w_bastore X115 hx hZ e115 V115 ⟨by decide, by decide⟩ 0 (by decide) (show 0 < 3 from (by decide)) (dB at_50) 51 rfl (fun T127 h127 X127 e127 W127 V127 => ?_)
  have b127 : v126.toInt8.toInt32 = v126 := eqI (byteE rfl (by omega) (by omega))
  rw [b127] at W127 V127
  have F128 : Sta Z h127 cN_1 "ADM1" cN_2 (.ref st_ADM1) := F116.wr W127
  have F129 : Exa Z h127 st_ADM1 cN_1 := F117.wr W127
  have F130 : Sta Z h127 cN_1 "ALWAYS" cN_2 (.ref st_ALWAYS) := F118.wr W127
  have F131 : Exa Z h127 st_ALWAYS cN_1 := F119.wr W127
  have F132 : Sta Z h127 cN_1 "PIN1" cN_2 (.ref st_PIN1) := F120.wr W127
  have F133 : Exa Z h127 st_PIN1 cN_1 := F121.wr W127
  have F134 : Sta Z h127 cN_1 "PIN1_OR_ADM1" cN_2 (.ref st_PIN1_OR_ADM1) := F122.wr W127
  have F135 : Exa Z h127 st_PIN1_OR_ADM1 cN_1 := F123.wr W127
  have F136 : Arv Z h127 a94 k94 .byte (1 : Int32) [(.int v103), (.int (0 : Int32)), (.int (0 : Int32))] (.int (0 : Int32)) := F124.other W127 ne_a94_a115
  have F137 : Exa Z h127 a94 "[B" := F125.wr W127
  have F138 : Arv Z h127 a115 k115 .byte (3 : Int32) [(.int v126), (.int (0 : Int32)), (.int (0 : Int32))] (.int (0 : Int32)) := V127
  have F139 : Exa Z h127 a115 "[B" := B115.wr W127
  have Z127 : n0 ≤ h127.size := by rw [W127.size]; exact Z115
  have K127 : Keep h0 h127 [] := K115.wr W127 (Or.inr s_a115)
  have N127 := Fr.snoc X127 N104 g_a115
  refine w_dup X127 hx (dB at_51) 52 rfl rfl ?_
  refine w_iconst X127 hx (dB at_52) 53 rfl (1 : Int32) (by decide) ?_
  refine w_iloadN X127 hx da (dB at_53) 54 rfl rfl ?_
  refine w_bipush X127 hx (dB at_54) 56 rfl (8 : Int32) (by decide) ?_
  obtain ⟨v140, e140⟩ : ∃ z : Int32, z = da >>> ((8 : Int32) &&& 31) := ⟨_, rfl⟩
  have n140 : v140.toInt = da.toInt / 256 := by rw [e140]; exact ishrX 8 rfl (by decide)
  refine w_ishr X127 hx (dB at_56) 57 rfl e140 ?_
  obtain ⟨v141, e141⟩ : ∃ z : Int32, z = v140.toInt8.toInt32 := ⟨_, rfl⟩
  have n141 : (v141.toInt - v140.toInt) % 256 = 0 ∧ -128 ≤ v141.toInt ∧ v141.toInt < 128 := by rw [e141]; exact i2bX rfl
  refine w_i2b X127 hx (dB at_57) 58 rfl e141 ?_
  refine w_bastore X127 hx hZ e127 F138 ⟨by decide, by decide⟩ 1 (by decide) (show 1 < 3 from (by decide)) (dB at_58) 59 rfl (fun T142 h142 X142 e142 W142 V142 => ?_)
  have b142 : v141.toInt8.toInt32 = v141 := eqI (byteE rfl (by omega) (by omega))
  rw [b142] at W142 V142
  have F143 : Sta Z h142 cN_1 "ADM1" cN_2 (.ref st_ADM1) := F128.wr W142
  have F144 : Exa Z h142 st_ADM1 cN_1 := F129.wr W142
  have F145 : Sta Z h142 cN_1 "ALWAYS" cN_2 (.ref st_ALWAYS) := F130.wr W142
  have F146 : Exa Z h142 st_ALWAYS cN_1 := F131.wr W142
  have F147 : Sta Z h142 cN_1 "PIN1" cN_2 (.ref st_PIN1) := F132.wr W142
  have F148 : Exa Z h142 st_PIN1 cN_1 := F133.wr W142
  have F149 : Sta Z h142 cN_1 "PIN1_OR_ADM1" cN_2 (.ref st_PIN1_OR_ADM1) := F134.wr W142
  have F150 : Exa Z h142 st_PIN1_OR_ADM1 cN_1 := F135.wr W142
  have F151 : Arv Z h142 a94 k94 .byte (1 : Int32) [(.int v103), (.int (0 : Int32)), (.int (0 : Int32))] (.int (0 : Int32)) := F136.other W142 ne_a94_a115
  have F152 : Exa Z h142 a94 "[B" := F137.wr W142
  have F153 : Arv Z h142 a115 k115 .byte (3 : Int32) [(.int v126), (.int v141), (.int (0 : Int32))] (.int (0 : Int32)) := V142
  have F154 : Exa Z h142 a115 "[B" := F139.wr W142
  have Z142 : n0 ≤ h142.size := by rw [W142.size]; exact Z127
  have K142 : Keep h0 h142 [] := K127.wr W142 (Or.inr s_a115)
  have N142 := Fr.snoc X142 N127 g_a115
  refine w_dup X142 hx (dB at_59) 60 rfl rfl ?_
  refine w_iconst X142 hx (dB at_60) 61 rfl (2 : Int32) (by decide) ?_
  refine w_iloadN X142 hx da (dB at_61) 62 rfl rfl ?_
  refine w_bipush X142 hx (dB at_62) 64 rfl (16 : Int32) (by decide) ?_
  obtain ⟨v155, e155⟩ : ∃ z : Int32, z = da >>> ((16 : Int32) &&& 31) := ⟨_, rfl⟩
  have n155 : v155.toInt = da.toInt / 65536 := by rw [e155]; exact ishrX 16 rfl (by decide)
  refine w_ishr X142 hx (dB at_64) 65 rfl e155 ?_
  obtain ⟨v156, e156⟩ : ∃ z : Int32, z = v155.toInt8.toInt32 := ⟨_, rfl⟩
  have n156 : (v156.toInt - v155.toInt) % 256 = 0 ∧ -128 ≤ v156.toInt ∧ v156.toInt < 128 := by rw [e156]; exact i2bX rfl
  refine w_i2b X142 hx (dB at_65) 66 rfl e156 ?_
  refine w_bastore X142 hx hZ e142 F153 ⟨by decide, by decide⟩ 2 (by decide) (show 2 < 3 from (by decide)) (dB at_66) 67 rfl (fun T157 h157 X157 e157 W157 V157 => ?_)
  have b157 : v156.toInt8.toInt32 = v156 := eqI (byteE rfl (by omega) (by omega))
  rw [b157] at W157 V157
  have F158 : Sta Z h157 cN_1 "ADM1" cN_2 (.ref st_ADM1) := F143.wr W157
  have F159 : Exa Z h157 st_ADM1 cN_1 := F144.wr W157
  have F160 : Sta Z h157 cN_1 "ALWAYS" cN_2 (.ref st_ALWAYS) := F145.wr W157
  have F161 : Exa Z h157 st_ALWAYS cN_1 := F146.wr W157
  have F162 : Sta Z h157 cN_1 "PIN1" cN_2 (.ref st_PIN1) := F147.wr W157
  have F163 : Exa Z h157 st_PIN1 cN_1 := F148.wr W157
  have F164 : Sta Z h157 cN_1 "PIN1_OR_ADM1" cN_2 (.ref st_PIN1_OR_ADM1) := F149.wr W157
  have F165 : Exa Z h157 st_PIN1_OR_ADM1 cN_1 := F150.wr W157
  have F166 : Arv Z h157 a94 k94 .byte (1 : Int32) [(.int v103), (.int (0 : Int32)), (.int (0 : Int32))] (.int (0 : Int32)) := F151.other W157 ne_a94_a115
  have F167 : Exa Z h157 a94 "[B" := F152.wr W157
  have F168 : Arv Z h157 a115 k115 .byte (3 : Int32) [(.int v126), (.int v141), (.int v156)] (.int (0 : Int32)) := V157
  have F169 : Exa Z h157 a115 "[B" := F154.wr W157
  have Z157 : n0 ≤ h157.size := by rw [W157.size]; exact Z142
  have K157 : Keep h0 h157 [] := K142.wr W157 (Or.inr s_a115)
  have N157 := Fr.snoc X157 N142 g_a115
  refine w_astore X157 hx (dB at_67) 69 rfl rfl #[.val (.int id_), .val (.int sf), .val (.int cn), .val (.int da), .val (.int pk), .val (.int v70), .val (.int v72), .val (.ref rr74), .val (.ref rr85), .val (.ref a94), .val (.ref a115), .unset, .unset, .unset, .unset, .unset, .unset] rfl ?_
  refine w_iloadN X157 hx cn (dB at_69) 70 rfl rfl ?_
  refine w_iconst X157 hx (dB at_70) 71 rfl (4 : Int32) (by decide) ?_
  obtain ⟨v170, e170⟩ : ∃ z : Int32, z = (cn.toUInt32 >>> ((4 : Int32) &&& 31).toUInt32).toInt32 := ⟨_, rfl⟩
  have n170 : v170.toInt = (cn.toInt % 4294967296) / 16 := by rw [e170]; exact iushrX 4 rfl (by decide) (by decide)
  refine w_iushr X157 hx (dB at_71) 72 rfl e170 ?_
  refine w_iconst X157 hx (dB at_72) 73 rfl (1 : Int32) (by decide) ?_
  obtain ⟨v171, e171⟩ : ∃ z : Int32, z = v170 &&& (1 : Int32) := ⟨_, rfl⟩
  have n171 : v171.toInt = v170.toInt % 2 := by rw [e171]; exact maskX 1 rfl (by decide) (by decide)
  refine w_iand X157 hx (dB at_73) 74 rfl e171 ?_
  refine w_if_eq X157 hx v171.toInt rfl (dB at_74) 82 77 (fun c172 => ?_) (fun c172 => ?_)
  ·refine w_aload X157 hx (.ref a94) (dB at_82) 84 rfl rfl rfl ?_
   refine w_astore X157 hx (dB at_84) 86 rfl rfl #[.val (.int id_), .val (.int sf), .val (.int cn), .val (.int da), .val (.int pk), .val (.int v70), .val (.int v72), .val (.ref rr74), .val (.ref rr85), .val (.ref a94), .val (.ref a115), .val (.ref a94), .unset, .unset, .unset, .unset, .unset] rfl ?_
   refine w_new X157 hx hZ hown e157 (tw_12 hw) (tw_13 hw) (tw_14 hw) (by decide) (by decide) (dB at_86) 89 rfl (fun T173 h173 a173 X173 e173 g173 E173 A173 D173 => ?_)
   have ne_st_ADM1_a173 : st_ADM1 ≠ a173 := Nat.ne_of_lt (Nat.lt_of_lt_of_le F159.lt (Nat.le_of_eq g173.symm))
   have ne_st_ALWAYS_a173 : st_ALWAYS ≠ a173 := Nat.ne_of_lt (Nat.lt_of_lt_of_le F161.lt (Nat.le_of_eq g173.symm))
   have ne_st_PIN1_a173 : st_PIN1 ≠ a173 := Nat.ne_of_lt (Nat.lt_of_lt_of_le F163.lt (Nat.le_of_eq g173.symm))
   have ne_st_PIN1_OR_ADM1_a173 : st_PIN1_OR_ADM1 ≠ a173 := Nat.ne_of_lt (Nat.lt_of_lt_of_le F165.lt (Nat.le_of_eq g173.symm))
   have ne_a94_a173 : a94 ≠ a173 := Nat.ne_of_lt (Nat.lt_of_lt_of_le F166.lt (Nat.le_of_eq g173.symm))
   have ne_a115_a173 : a115 ≠ a173 := Nat.ne_of_lt (Nat.lt_of_lt_of_le F168.lt (Nat.le_of_eq g173.symm))
   have g_a173 : n0 ≤ a173 := Nat.le_trans Z157 (Nat.le_of_eq g173.symm)
   have s_a173 : h0.size ≤ a173 := Nat.le_trans K157.1 (Nat.le_of_eq g173.symm)
   have F174 : Sta Z h173 cN_1 "ADM1" cN_2 (.ref st_ADM1) := F158.ext E173
   have F175 : Exa Z h173 st_ADM1 cN_1 := F159.ext E173
   have F176 : Sta Z h173 cN_1 "ALWAYS" cN_2 (.ref st_ALWAYS) := F160.ext E173
   have F177 : Exa Z h173 st_ALWAYS cN_1 := F161.ext E173
   have F178 : Sta Z h173 cN_1 "PIN1" cN_2 (.ref st_PIN1) := F162.ext E173
   have F179 : Exa Z h173 st_PIN1 cN_1 := F163.ext E173
   have F180 : Sta Z h173 cN_1 "PIN1_OR_ADM1" cN_2 (.ref st_PIN1_OR_ADM1) := F164.ext E173
   have F181 : Exa Z h173 st_PIN1_OR_ADM1 cN_1 := F165.ext E173
   have F182 : Arv Z h173 a94 k94 .byte (1 : Int32) [(.int v103), (.int (0 : Int32)), (.int (0 : Int32))] (.int (0 : Int32)) := F166.ext E173
   have F183 : Exa Z h173 a94 "[B" := F167.ext E173
   have F184 : Arv Z h173 a115 k115 .byte (3 : Int32) [(.int v126), (.int v141), (.int v156)] (.int (0 : Int32)) := F168.ext E173
   have F185 : Exa Z h173 a115 "[B" := F169.ext E173
   have Z173 : n0 ≤ h173.size := Nat.le_trans Z157 E173.1
   have K173 : Keep h0 h173 [] := K157.ext E173
   have F186 : Fld Z h173 a173 cN_4 "fileId" "I" (.int (0 : Int32)) := D173 (Or.inr (tw_28 hw)) (ty := .int) (by decide)
   have F187 : Fld Z h173 a173 cN_4 "sfi" "I" (.int (0 : Int32)) := D173 (Or.inr (tw_30 hw)) (ty := .int) (by decide)
   have F188 : Fld Z h173 a173 cN_4 "readCondition" cN_2 .null := D173 (Or.inr (tw_32 hw)) (ty := (.object "com/example/nodecard/nodecard/card/AccessCondition")) (by decide)
   have F189 : Fld Z h173 a173 cN_4 "updateCondition" cN_2 .null := D173 (Or.inr (tw_34 hw)) (ty := (.object "com/example/nodecard/nodecard/card/AccessCondition")) (by decide)
   refine w_dup X173 hx (dB at_89) 90 rfl rfl ?_
   refine w_iload X173 hx v70 (dB at_90) 92 rfl rfl ?_
   refine w_iload X173 hx v72 (dB at_92) 94 rfl rfl ?_
   refine w_aload X173 hx (.ref rr74) (dB at_94) 96 rfl rfl rfl ?_
   refine w_aload X173 hx (.ref rr85) (dB at_96) 98 rfl rfl rfl ?_
   refine w_init X173 hx hZ rfl hown e173 (rm2 l Z a0 hw [] a173 v70 v72 rr74 rr85 h173 n0 Z173 A173 F186 F187 F188 F189 g_a173 (by omega) (by omega) (by omega) (by omega)) (tw_15 hw) (tw_16 hw) (tw_14 hw) (tw_17 hw) (by decide) (by rw [hml]; rfl) a173 [(.int v70), (.int v72), (.ref rr74), (.ref rr85)] [(.ref a173)] (lenOf pd_4 rfl) rfl rfl (by decide) 1 rfl (by decide) (by decide) (by decide) (dB at_98) 101 rfl (fun r190 T190 L190 X190 q190 => ?_)
   obtain ⟨rfl, Nq190, Kq190⟩ := q190
   have N190 := Fr.app N157 Nq190
   have F191 : Sta Z T190.heap cN_1 "ADM1" cN_2 (.ref st_ADM1) := sta_keep F174 Kq190 (allS (exa_plain A173) all0)
   have F192 : Exa Z T190.heap st_ADM1 cN_1 := F175.keep Kq190
   have F193 : Sta Z T190.heap cN_1 "ALWAYS" cN_2 (.ref st_ALWAYS) := sta_keep F176 Kq190 (allS (exa_plain A173) all0)
   have F194 : Exa Z T190.heap st_ALWAYS cN_1 := F177.keep Kq190
   have F195 : Sta Z T190.heap cN_1 "PIN1" cN_2 (.ref st_PIN1) := sta_keep F178 Kq190 (allS (exa_plain A173) all0)
   have F196 : Exa Z T190.heap st_PIN1 cN_1 := F179.keep Kq190
   have F197 : Sta Z T190.heap cN_1 "PIN1_OR_ADM1" cN_2 (.ref st_PIN1_OR_ADM1) := sta_keep F180 Kq190 (allS (exa_plain A173) all0)
   have F198 : Exa Z T190.heap st_PIN1_OR_ADM1 cN_1 := F181.keep Kq190
   have F199 : Arv Z T190.heap a94 k94 .byte (1 : Int32) [(.int v103), (.int (0 : Int32)), (.int (0 : Int32))] (.int (0 : Int32)) := F182.keep Kq190 (ninS ne_a94_a173 nin0)
   have F200 : Exa Z T190.heap a94 "[B" := F183.keep Kq190
   have F201 : Arv Z T190.heap a115 k115 .byte (3 : Int32) [(.int v126), (.int v141), (.int v156)] (.int (0 : Int32)) := F184.keep Kq190 (ninS ne_a115_a173 nin0)
   have F202 : Exa Z T190.heap a115 "[B" := F185.keep Kq190
   have F203 : Exa Z T190.heap a173 cN_4 := A173.keep Kq190
   have Z190 : n0 ≤ T190.heap.size := Nat.le_trans Z173 Kq190.1
   have K190 : Keep h0 T190.heap [] := K173.trans Kq190 (allS (Or.inr s_a173) all0)
   dsimp only [Option.toList_some, Option.toList_none, List.cons_append, List.nil_append]
   refine w_astore X190 hx (dB at_101) 103 rfl rfl #[.val (.int id_), .val (.int sf), .val (.int cn), .val (.int da), .val (.int pk), .val (.int v70), .val (.int v72), .val (.ref rr74), .val (.ref rr85), .val (.ref a94), .val (.ref a115), .val (.ref a94), .val (.ref a173), .unset, .unset, .unset, .unset] rfl ?_
   refine w_new X190 hx hZ hown rfl (tw_35 hw) (tw_36 hw) (tw_37 hw) (by decide) (by decide) (dB at_103) 106 rfl (fun T204 h204 a204 X204 e204 g204 E204 A204 D204 => ?_)
   have ne_st_ADM1_a204 : st_ADM1 ≠ a204 := Nat.ne_of_lt (Nat.lt_of_lt_of_le F192.lt (Nat.le_of_eq g204.symm))
   have ne_st_ALWAYS_a204 : st_ALWAYS ≠ a204 := Nat.ne_of_lt (Nat.lt_of_lt_of_le F194.lt (Nat.le_of_eq g204.symm))
   have ne_st_PIN1_a204 : st_PIN1 ≠ a204 := Nat.ne_of_lt (Nat.lt_of_lt_of_le F196.lt (Nat.le_of_eq g204.symm))
   have ne_st_PIN1_OR_ADM1_a204 : st_PIN1_OR_ADM1 ≠ a204 := Nat.ne_of_lt (Nat.lt_of_lt_of_le F198.lt (Nat.le_of_eq g204.symm))
   have ne_a94_a204 : a94 ≠ a204 := Nat.ne_of_lt (Nat.lt_of_lt_of_le F199.lt (Nat.le_of_eq g204.symm))
   have ne_a115_a204 : a115 ≠ a204 := Nat.ne_of_lt (Nat.lt_of_lt_of_le F201.lt (Nat.le_of_eq g204.symm))
   have ne_a173_a204 : a173 ≠ a204 := Nat.ne_of_lt (Nat.lt_of_lt_of_le F203.lt (Nat.le_of_eq g204.symm))
   have g_a204 : n0 ≤ a204 := Nat.le_trans Z190 (Nat.le_of_eq g204.symm)
   have s_a204 : h0.size ≤ a204 := Nat.le_trans K190.1 (Nat.le_of_eq g204.symm)
   have F205 : Sta Z h204 cN_1 "ADM1" cN_2 (.ref st_ADM1) := F191.ext E204
   have F206 : Exa Z h204 st_ADM1 cN_1 := F192.ext E204
   have F207 : Sta Z h204 cN_1 "ALWAYS" cN_2 (.ref st_ALWAYS) := F193.ext E204
   have F208 : Exa Z h204 st_ALWAYS cN_1 := F194.ext E204
   have F209 : Sta Z h204 cN_1 "PIN1" cN_2 (.ref st_PIN1) := F195.ext E204
   have F210 : Exa Z h204 st_PIN1 cN_1 := F196.ext E204
   have F211 : Sta Z h204 cN_1 "PIN1_OR_ADM1" cN_2 (.ref st_PIN1_OR_ADM1) := F197.ext E204
   have F212 : Exa Z h204 st_PIN1_OR_ADM1 cN_1 := F198.ext E204
   have F213 : Arv Z h204 a94 k94 .byte (1 : Int32) [(.int v103), (.int (0 : Int32)), (.int (0 : Int32))] (.int (0 : Int32)) := F199.ext E204
   have F214 : Exa Z h204 a94 "[B" := F200.ext E204
   have F215 : Arv Z h204 a115 k115 .byte (3 : Int32) [(.int v126), (.int v141), (.int v156)] (.int (0 : Int32)) := F201.ext E204
   have F216 : Exa Z h204 a115 "[B" := F202.ext E204
   have F217 : Exa Z h204 a173 cN_4 := F203.ext E204
   have Z204 : n0 ≤ h204.size := Nat.le_trans Z190 E204.1
   have K204 : Keep h0 h204 [] := K190.ext E204
   have F218 : Fld Z h204 a204 cN_6 "header" cN_7 .null := D204 (Or.inr (tw_48 hw)) (ty := (.object "com/example/nodecard/nodecard/card/FileHeader")) (by decide)
   have F219 : Fld Z h204 a204 cN_5 "content" "[B" .null := D204 (Or.inr (tw_62 hw)) (ty := (.array .byte)) (by decide)
   refine w_dup X204 hx (dB at_106) 107 rfl rfl ?_
   refine w_aload X204 hx (.ref a173) (dB at_107) 109 rfl rfl rfl ?_
   refine w_aload X204 hx (.ref a94) (dB at_109) 111 rfl rfl rfl ?_
   refine w_init X204 hx hZ rfl hown e204 (rm5 l Z a0 hw [] a204 a173 a94 k94 (1 : Int32) v103 (0 : Int32) (0 : Int32) h204 n0 Z204 A204 F218 F219 F213 F214 g_a204 (by have hl_0 : (1 : Int32).toInt = 1 := (by decide); have hl_1 : (0 : Int32).toInt = 0 := (by decide); omega) (by have hl_0 : (1 : Int32).toInt = 1 := (by decide); have hl_1 : (0 : Int32).toInt = 0 := (by decide); omega)) (tw_38 hw) (tw_39 hw) (tw_37 hw) (tw_40 hw) (by decide) (by rw [hml]; rfl) a204 [(.ref a173), (.ref a94)] [(.ref a204)] (lenOf pd_5 rfl) rfl rfl (by decide) 1 rfl (by decide) (by decide) (by decide) (dB at_111) 114 rfl (fun r220 T220 L220 X220 q220 => ?_)
   obtain ⟨rfl, Nq220, Kq220⟩ := q220
   have N220 := Fr.app N190 Nq220
   have F221 : Sta Z T220.heap cN_1 "ADM1" cN_2 (.ref st_ADM1) := sta_keep F205 Kq220 (allS (exa_plain A204) all0)
   have F222 : Exa Z T220.heap st_ADM1 cN_1 := F206.keep Kq220
   have F223 : Sta Z T220.heap cN_1 "ALWAYS" cN_2 (.ref st_ALWAYS) := sta_keep F207 Kq220 (allS (exa_plain A204) all0)
   have F224 : Exa Z T220.heap st_ALWAYS cN_1 := F208.keep Kq220
   have F225 : Sta Z T220.heap cN_1 "PIN1" cN_2 (.ref st_PIN1) := sta_keep F209 Kq220 (allS (exa_plain A204) all0)
   have F226 : Exa Z T220.heap st_PIN1 cN_1 := F210.keep Kq220
   have F227 : Sta Z T220.heap cN_1 "PIN1_OR_ADM1" cN_2 (.ref st_PIN1_OR_ADM1) := sta_keep F211 Kq220 (allS (exa_plain A204) all0)
   have F228 : Exa Z T220.heap st_PIN1_OR_ADM1 cN_1 := F212.keep Kq220
   have F229 : Arv Z T220.heap a94 k94 .byte (1 : Int32) [(.int v103), (.int (0 : Int32)), (.int (0 : Int32))] (.int (0 : Int32)) := F213.keep Kq220 (ninS ne_a94_a204 nin0)
   have F230 : Exa Z T220.heap a94 "[B" := F214.keep Kq220
   have F231 : Arv Z T220.heap a115 k115 .byte (3 : Int32) [(.int v126), (.int v141), (.int v156)] (.int (0 : Int32)) := F215.keep Kq220 (ninS ne_a115_a204 nin0)
   have F232 : Exa Z T220.heap a115 "[B" := F216.keep Kq220
   have F233 : Exa Z T220.heap a173 cN_4 := F217.keep Kq220
   have F234 : Exa Z T220.heap a204 cN_5 := A204.keep Kq220
   have Z220 : n0 ≤ T220.heap.size := Nat.le_trans Z204 Kq220.1
   have K220 : Keep h0 T220.heap [] := K204.trans Kq220 (allS (Or.inr s_a204) all0)
   dsimp only [Option.toList_some, Option.toList_none, List.cons_append, List.nil_append]
   refine w_astore X220 hx (dB at_114) 116 rfl rfl #[.val (.int id_), .val (.int sf), .val (.int cn), .val (.int da), .val (.int pk), .val (.int v70), .val (.int v72), .val (.ref rr74), .val (.ref rr85), .val (.ref a94), .val (.ref a115), .val (.ref a94), .val (.ref a173), .val (.ref a204), .unset, .unset, .unset] rfl ?_
   refine w_aload X220 hx (.ref a204) (dB at_116) 118 rfl rfl rfl ?_
   refine w_virt X220 hx hZ hown rfl (rm8 l Z a0 hw [] a204 T220.heap n0 Z220 ) (tw_63 hw) (tw_64 hw) (notFace_of_selects (args := #[]) (mvT hZ (tw_66 hw))) (tw_66 hw) (tw_65 hw) (tw_37 hw) (tw_67 hw) (by decide) a204 F234 (by rw [hml]; rfl) [] [] (lenOf pd_6 rfl) rfl rfl (by decide) 0 rfl (by decide) (by decide) (by decide) (dB at_118) 121 rfl (fun r235 T235 L235 X235 q235 => ?_)
   obtain ⟨bb235, kb235, rfl, Nq235, Kq235, sq235_0, G235_0⟩ := q235
   have N235 := Fr.app N220 Nq235
   have ne_st_ADM1_bb235 : st_ADM1 ≠ bb235 := Nat.ne_of_lt (Nat.lt_of_lt_of_le F222.lt sq235_0)
   have ne_st_ALWAYS_bb235 : st_ALWAYS ≠ bb235 := Nat.ne_of_lt (Nat.lt_of_lt_of_le F224.lt sq235_0)
   have ne_st_PIN1_bb235 : st_PIN1 ≠ bb235 := Nat.ne_of_lt (Nat.lt_of_lt_of_le F226.lt sq235_0)
   have ne_st_PIN1_OR_ADM1_bb235 : st_PIN1_OR_ADM1 ≠ bb235 := Nat.ne_of_lt (Nat.lt_of_lt_of_le F228.lt sq235_0)
   have ne_a94_bb235 : a94 ≠ bb235 := Nat.ne_of_lt (Nat.lt_of_lt_of_le F229.lt sq235_0)
   have ne_a115_bb235 : a115 ≠ bb235 := Nat.ne_of_lt (Nat.lt_of_lt_of_le F231.lt sq235_0)
   have ne_a173_bb235 : a173 ≠ bb235 := Nat.ne_of_lt (Nat.lt_of_lt_of_le F233.lt sq235_0)
   have ne_a204_bb235 : a204 ≠ bb235 := Nat.ne_of_lt (Nat.lt_of_lt_of_le F234.lt sq235_0)
   have g_bb235 : n0 ≤ bb235 := Nat.le_trans Z220 sq235_0
   have s_bb235 : h0.size ≤ bb235 := Nat.le_trans K220.1 sq235_0
   have F236 : Sta Z T235.heap cN_1 "ADM1" cN_2 (.ref st_ADM1) := sta_keep F221 Kq235 all0
   have F237 : Exa Z T235.heap st_ADM1 cN_1 := F222.keep Kq235
   have F238 : Sta Z T235.heap cN_1 "ALWAYS" cN_2 (.ref st_ALWAYS) := sta_keep F223 Kq235 all0
   have F239 : Exa Z T235.heap st_ALWAYS cN_1 := F224.keep Kq235
   have F240 : Sta Z T235.heap cN_1 "PIN1" cN_2 (.ref st_PIN1) := sta_keep F225 Kq235 all0
   have F241 : Exa Z T235.heap st_PIN1 cN_1 := F226.keep Kq235
   have F242 : Sta Z T235.heap cN_1 "PIN1_OR_ADM1" cN_2 (.ref st_PIN1_OR_ADM1) := sta_keep F227 Kq235 all0
   have F243 : Exa Z T235.heap st_PIN1_OR_ADM1 cN_1 := F228.keep Kq235
   have F244 : Arv Z T235.heap a94 k94 .byte (1 : Int32) [(.int v103), (.int (0 : Int32)), (.int (0 : Int32))] (.int (0 : Int32)) := F229.keep Kq235 nin0
   have F245 : Exa Z T235.heap a94 "[B" := F230.keep Kq235
   have F246 : Arv Z T235.heap a115 k115 .byte (3 : Int32) [(.int v126), (.int v141), (.int v156)] (.int (0 : Int32)) := F231.keep Kq235 nin0
   have F247 : Exa Z T235.heap a115 "[B" := F232.keep Kq235
   have F248 : Exa Z T235.heap a173 cN_4 := F233.keep Kq235
   have F249 : Exa Z T235.heap a204 cN_5 := F234.keep Kq235
   have Z235 : n0 ≤ T235.heap.size := Nat.le_trans Z220 Kq235.1
   have K235 : Keep h0 T235.heap [] := K220.trans Kq235 all0
   dsimp only [Option.toList_some, Option.toList_none, List.cons_append, List.nil_append]
   refine w_astore X235 hx (dB at_121) 123 rfl rfl #[.val (.int id_), .val (.int sf), .val (.int cn), .val (.int da), .val (.int pk), .val (.int v70), .val (.int v72), .val (.ref rr74), .val (.ref rr85), .val (.ref a94), .val (.ref a115), .val (.ref a94), .val (.ref a173), .val (.ref a204), .val (.ref bb235), .unset, .unset] rfl ?_
   refine w_aload X235 hx (.ref bb235) (dB at_123) 125 rfl rfl rfl ?_
   refine w_length X235 hx hZ rfl G235_0 (dB at_125) 126 rfl ?_
   refine w_iconst X235 hx (dB at_126) 127 rfl (2 : Int32) (by decide) ?_
   refine w_icmp_ne X235 hx 2 2 (by decide) (by decide) (dB at_127) 152 130 (fun c250 => ?_) (fun c250 => ?_)
   ·exfalso; omega
   ·refine w_aload X235 hx (.ref bb235) (dB at_130) 132 rfl rfl rfl ?_
    refine w_iconst X235 hx (dB at_132) 133 rfl (0 : Int32) (by decide) ?_
    refine w_baload X235 hx hZ rfl G235_0 ⟨by decide, by decide⟩ (v := (.int (65 : Int32))) rfl (dB at_133) 134 rfl ?_
    refine w_bipush X235 hx (dB at_134) 136 rfl (65 : Int32) (by decide) ?_
    refine w_icmp_ne X235 hx 65 65 (by decide) (by decide) (dB at_136) 152 139 (fun c251 => ?_) (fun c251 => ?_)
    ·exfalso; omega
    ·refine w_aload X235 hx (.ref bb235) (dB at_139) 141 rfl rfl rfl ?_
     refine w_iconst X235 hx (dB at_141) 142 rfl (1 : Int32) (by decide) ?_
     refine w_baload X235 hx hZ rfl G235_0 ⟨by decide, by decide⟩ (v := (.int (33 : Int32))) rfl (dB at_142) 143 rfl ?_
     refine w_bipush X235 hx (dB at_143) 145 rfl (33 : Int32) (by decide) ?_
     refine w_icmp_ne X235 hx 33 33 (by decide) (by decide) (dB at_145) 152 148 (fun c252 => ?_) (fun c252 => ?_)
     ·exfalso; omega
     ·refine w_iconst X235 hx (dB at_148) 149 rfl (1 : Int32) (by decide) ?_
      refine w_goto X235 hx (dB at_149) 153 ?_
      refine w_istore X235 hx (dB at_153) 155 rfl #[.val (.int id_), .val (.int sf), .val (.int cn), .val (.int da), .val (.int pk), .val (.int v70), .val (.int v72), .val (.ref rr74), .val (.ref rr85), .val (.ref a94), .val (.ref a115), .val (.ref a94), .val (.ref a173), .val (.ref a204), .val (.ref bb235), .val (.int (1 : Int32)), .unset] rfl ?_
      refine w_iload X235 hx (1 : Int32) (dB at_155) 157 rfl rfl ?_
      refine w_if_ne X235 hx 1 (by decide) (dB at_157) 162 160 (fun c253 => ?_) (fun c253 => ?_)
      ·refine w_aload X235 hx (.ref bb235) (dB at_162) 164 rfl rfl rfl ?_
       refine w_iconst X235 hx (dB at_164) 165 rfl (0 : Int32) (by decide) ?_
       refine w_iload X235 hx pk (dB at_165) 167 rfl rfl ?_
       obtain ⟨v254, e254⟩ : ∃ z : Int32, z = pk.toInt8.toInt32 := ⟨_, rfl⟩
       have n254 : (v254.toInt - pk.toInt) % 256 = 0 ∧ -128 ≤ v254.toInt ∧ v254.toInt < 128 := by rw [e254]; exact i2bX rfl
       refine w_i2b X235 hx (dB at_167) 168 rfl e254 ?_
       refine w_bastore X235 hx hZ rfl G235_0 ⟨by decide, by decide⟩ 0 (by decide) (show 0 < 2 from (by decide)) (dB at_168) 169 rfl (fun T255 h255 X255 e255 W255 V255 => ?_)
       have b255 : v254.toInt8.toInt32 = v254 := eqI (byteE rfl (by omega) (by omega))
       rw [b255] at W255 V255
       have F256 : Sta Z h255 cN_1 "ADM1" cN_2 (.ref st_ADM1) := F236.wr W255
       have F257 : Exa Z h255 st_ADM1 cN_1 := F237.wr W255
       have F258 : Sta Z h255 cN_1 "ALWAYS" cN_2 (.ref st_ALWAYS) := F238.wr W255
       have F259 : Exa Z h255 st_ALWAYS cN_1 := F239.wr W255
       have F260 : Sta Z h255 cN_1 "PIN1" cN_2 (.ref st_PIN1) := F240.wr W255
       have F261 : Exa Z h255 st_PIN1 cN_1 := F241.wr W255
       have F262 : Sta Z h255 cN_1 "PIN1_OR_ADM1" cN_2 (.ref st_PIN1_OR_ADM1) := F242.wr W255
       have F263 : Exa Z h255 st_PIN1_OR_ADM1 cN_1 := F243.wr W255
       have F264 : Arv Z h255 a94 k94 .byte (1 : Int32) [(.int v103), (.int (0 : Int32)), (.int (0 : Int32))] (.int (0 : Int32)) := F244.other W255 ne_a94_bb235
       have F265 : Exa Z h255 a94 "[B" := F245.wr W255
       have F266 : Arv Z h255 a115 k115 .byte (3 : Int32) [(.int v126), (.int v141), (.int v156)] (.int (0 : Int32)) := F246.other W255 ne_a115_bb235
       have F267 : Exa Z h255 a115 "[B" := F247.wr W255
       have F268 : Exa Z h255 a173 cN_4 := F248.wr W255
       have F269 : Exa Z h255 a204 cN_5 := F249.wr W255
       have F270 : Arv Z h255 bb235 kb235 .byte (2 : Int32) [(.int v254), (.int (33 : Int32))] (.int (0 : Int32)) := V255
       have Z255 : n0 ≤ h255.size := by rw [W255.size]; exact Z235
       have K255 : Keep h0 h255 [] := K235.wr W255 (Or.inr s_bb235)
       have N255 := Fr.snoc X255 N235 g_bb235
       refine w_aload X255 hx (.ref bb235) (dB at_169) 171 rfl rfl rfl ?_
       refine w_iconst X255 hx (dB at_171) 172 rfl (1 : Int32) (by decide) ?_
       refine w_iload X255 hx pk (dB at_172) 174 rfl rfl ?_
       refine w_bipush X255 hx (dB at_174) 176 rfl (8 : Int32) (by decide) ?_
       obtain ⟨v271, e271⟩ : ∃ z : Int32, z = pk >>> ((8 : Int32) &&& 31) := ⟨_, rfl⟩
       have n271 : v271.toInt = pk.toInt / 256 := by rw [e271]; exact ishrX 8 rfl (by decide)
       refine w_ishr X255 hx (dB at_176) 177 rfl e271 ?_
       obtain ⟨v272, e272⟩ : ∃ z : Int32, z = v271.toInt8.toInt32 := ⟨_, rfl⟩
       have n272 : (v272.toInt - v271.toInt) % 256 = 0 ∧ -128 ≤ v272.toInt ∧ v272.toInt < 128 := by rw [e272]; exact i2bX rfl
       refine w_i2b X255 hx (dB at_177) 178 rfl e272 ?_
       refine w_bastore X255 hx hZ e255 F270 ⟨by decide, by decide⟩ 1 (by decide) (show 1 < 2 from (by decide)) (dB at_178) 179 rfl (fun T273 h273 X273 e273 W273 V273 => ?_)
       have b273 : v272.toInt8.toInt32 = v272 := eqI (byteE rfl (by omega) (by omega))
       rw [b273] at W273 V273
       have F274 : Sta Z h273 cN_1 "ADM1" cN_2 (.ref st_ADM1) := F256.wr W273
       have F275 : Exa Z h273 st_ADM1 cN_1 := F257.wr W273
       have F276 : Sta Z h273 cN_1 "ALWAYS" cN_2 (.ref st_ALWAYS) := F258.wr W273
       have F277 : Exa Z h273 st_ALWAYS cN_1 := F259.wr W273
       have F278 : Sta Z h273 cN_1 "PIN1" cN_2 (.ref st_PIN1) := F260.wr W273
       have F279 : Exa Z h273 st_PIN1 cN_1 := F261.wr W273
       have F280 : Sta Z h273 cN_1 "PIN1_OR_ADM1" cN_2 (.ref st_PIN1_OR_ADM1) := F262.wr W273
       have F281 : Exa Z h273 st_PIN1_OR_ADM1 cN_1 := F263.wr W273
       have F282 : Arv Z h273 a94 k94 .byte (1 : Int32) [(.int v103), (.int (0 : Int32)), (.int (0 : Int32))] (.int (0 : Int32)) := F264.other W273 ne_a94_bb235
       have F283 : Exa Z h273 a94 "[B" := F265.wr W273
       have F284 : Arv Z h273 a115 k115 .byte (3 : Int32) [(.int v126), (.int v141), (.int v156)] (.int (0 : Int32)) := F266.other W273 ne_a115_bb235
       have F285 : Exa Z h273 a115 "[B" := F267.wr W273
       have F286 : Exa Z h273 a173 cN_4 := F268.wr W273
       have F287 : Exa Z h273 a204 cN_5 := F269.wr W273
       have F288 : Arv Z h273 bb235 kb235 .byte (2 : Int32) [(.int v254), (.int v272)] (.int (0 : Int32)) := V273
       have Z273 : n0 ≤ h273.size := by rw [W273.size]; exact Z255
       have K273 : Keep h0 h273 [] := K255.wr W273 (Or.inr s_bb235)
       have N273 := Fr.snoc X273 N255 g_bb235
       refine w_aload X273 hx (.ref a204) (dB at_179) 181 rfl rfl rfl ?_
       refine w_virt X273 hx hZ hown e273 (rm8 l Z a0 hw [] a204 h273 n0 Z273 ) (tw_63 hw) (tw_64 hw) (notFace_of_selects (args := #[]) (mvT hZ (tw_66 hw))) (tw_66 hw) (tw_65 hw) (tw_37 hw) (tw_67 hw) (by decide) a204 F287 (by rw [hml]; rfl) [] [] (lenOf pd_6 rfl) rfl rfl (by decide) 0 rfl (by decide) (by decide) (by decide) (dB at_181) 184 rfl (fun r289 T289 L289 X289 q289 => ?_)
       obtain ⟨bb289, kb289, rfl, Nq289, Kq289, sq289_0, G289_0⟩ := q289
       have N289 := Fr.app N273 Nq289
       have ne_st_ADM1_bb289 : st_ADM1 ≠ bb289 := Nat.ne_of_lt (Nat.lt_of_lt_of_le F275.lt sq289_0)
       have ne_st_ALWAYS_bb289 : st_ALWAYS ≠ bb289 := Nat.ne_of_lt (Nat.lt_of_lt_of_le F277.lt sq289_0)
       have ne_st_PIN1_bb289 : st_PIN1 ≠ bb289 := Nat.ne_of_lt (Nat.lt_of_lt_of_le F279.lt sq289_0)
       have ne_st_PIN1_OR_ADM1_bb289 : st_PIN1_OR_ADM1 ≠ bb289 := Nat.ne_of_lt (Nat.lt_of_lt_of_le F281.lt sq289_0)
       have ne_a94_bb289 : a94 ≠ bb289 := Nat.ne_of_lt (Nat.lt_of_lt_of_le F282.lt sq289_0)
       have ne_a115_bb289 : a115 ≠ bb289 := Nat.ne_of_lt (Nat.lt_of_lt_of_le F284.lt sq289_0)
       have ne_a173_bb289 : a173 ≠ bb289 := Nat.ne_of_lt (Nat.lt_of_lt_of_le F286.lt sq289_0)
       have ne_a204_bb289 : a204 ≠ bb289 := Nat.ne_of_lt (Nat.lt_of_lt_of_le F287.lt sq289_0)
       have ne_bb235_bb289 : bb235 ≠ bb289 := Nat.ne_of_lt (Nat.lt_of_lt_of_le F288.lt sq289_0)
       have g_bb289 : n0 ≤ bb289 := Nat.le_trans Z273 sq289_0
       have s_bb289 : h0.size ≤ bb289 := Nat.le_trans K273.1 sq289_0
       have F290 : Sta Z T289.heap cN_1 "ADM1" cN_2 (.ref st_ADM1) := sta_keep F274 Kq289 all0
       have F291 : Exa Z T289.heap st_ADM1 cN_1 := F275.keep Kq289
       have F292 : Sta Z T289.heap cN_1 "ALWAYS" cN_2 (.ref st_ALWAYS) := sta_keep F276 Kq289 all0
       have F293 : Exa Z T289.heap st_ALWAYS cN_1 := F277.keep Kq289
       have F294 : Sta Z T289.heap cN_1 "PIN1" cN_2 (.ref st_PIN1) := sta_keep F278 Kq289 all0
       have F295 : Exa Z T289.heap st_PIN1 cN_1 := F279.keep Kq289
       have F296 : Sta Z T289.heap cN_1 "PIN1_OR_ADM1" cN_2 (.ref st_PIN1_OR_ADM1) := sta_keep F280 Kq289 all0
       have F297 : Exa Z T289.heap st_PIN1_OR_ADM1 cN_1 := F281.keep Kq289
       have F298 : Arv Z T289.heap a94 k94 .byte (1 : Int32) [(.int v103), (.int (0 : Int32)), (.int (0 : Int32))] (.int (0 : Int32)) := F282.keep Kq289 nin0
       have F299 : Exa Z T289.heap a94 "[B" := F283.keep Kq289
       have F300 : Arv Z T289.heap a115 k115 .byte (3 : Int32) [(.int v126), (.int v141), (.int v156)] (.int (0 : Int32)) := F284.keep Kq289 nin0
       have F301 : Exa Z T289.heap a115 "[B" := F285.keep Kq289
       have F302 : Exa Z T289.heap a173 cN_4 := F286.keep Kq289
       have F303 : Exa Z T289.heap a204 cN_5 := F287.keep Kq289
       have F304 : Arv Z T289.heap bb235 kb235 .byte (2 : Int32) [(.int v254), (.int v272)] (.int (0 : Int32)) := F288.keep Kq289 nin0
       have Z289 : n0 ≤ T289.heap.size := Nat.le_trans Z273 Kq289.1
       have K289 : Keep h0 T289.heap [] := K273.trans Kq289 all0
       dsimp only [Option.toList_some, Option.toList_none, List.cons_append, List.nil_append]
       refine w_astore X289 hx (dB at_184) 186 rfl rfl #[.val (.int id_), .val (.int sf), .val (.int cn), .val (.int da), .val (.int pk), .val (.int v70), .val (.int v72), .val (.ref rr74), .val (.ref rr85), .val (.ref a94), .val (.ref a115), .val (.ref a94), .val (.ref a173), .val (.ref a204), .val (.ref bb235), .val (.int (1 : Int32)), .val (.ref bb289)] rfl ?_
       refine w_aload X289 hx (.ref bb289) (dB at_186) 188 rfl rfl rfl ?_
       refine w_aload X289 hx (.ref bb235) (dB at_188) 190 rfl rfl rfl ?_
       refine w_acmp X289 hx rfl rfl (dB at_190) false (decide_eq_false fun q => (Ne.symm ne_bb235_bb289) (Value.ref.inj q)) 193 (by decide) (by decide) ?_
       refine w_aload X289 hx (.ref bb289) (dB at_193) 195 rfl rfl rfl ?_
       refine w_length X289 hx hZ rfl G289_0 (dB at_195) 196 rfl ?_
       refine w_iconst X289 hx (dB at_196) 197 rfl (2 : Int32) (by decide) ?_
       refine w_icmp_ne X289 hx 2 2 (by decide) (by decide) (dB at_197) 222 200 (fun c305 => ?_) (fun c305 => ?_)
       ·exfalso; omega
       ·refine w_aload X289 hx (.ref bb289) (dB at_200) 202 rfl rfl rfl ?_
        refine w_iconst X289 hx (dB at_202) 203 rfl (0 : Int32) (by decide) ?_
        refine w_baload X289 hx hZ rfl G289_0 ⟨by decide, by decide⟩ (v := (.int (65 : Int32))) rfl (dB at_203) 204 rfl ?_
        refine w_bipush X289 hx (dB at_204) 206 rfl (65 : Int32) (by decide) ?_
        refine w_icmp_ne X289 hx 65 65 (by decide) (by decide) (dB at_206) 222 209 (fun c306 => ?_) (fun c306 => ?_)
        ·exfalso; omega
        ·refine w_aload X289 hx (.ref bb289) (dB at_209) 211 rfl rfl rfl ?_
         refine w_iconst X289 hx (dB at_211) 212 rfl (1 : Int32) (by decide) ?_
         refine w_baload X289 hx hZ rfl G289_0 ⟨by decide, by decide⟩ (v := (.int (33 : Int32))) rfl (dB at_212) 213 rfl ?_
         refine w_bipush X289 hx (dB at_213) 215 rfl (33 : Int32) (by decide) ?_
         refine w_icmp_ne X289 hx 33 33 (by decide) (by decide) (dB at_215) 222 218 (fun c307 => ?_) (fun c307 => ?_)
         ·exfalso; omega
         ·refine w_iconst X289 hx (dB at_218) 219 rfl (1 : Int32) (by decide) ?_
          refine w_goto X289 hx (dB at_219) 223 ?_
          refine w_retN X289 hx hlk (t := .boolean) hret (by simp) (dB at_223) (by decide) (by decide) ?_
          exact ⟨rfl, N289⟩
      ·exfalso; omega
  ·refine w_aload X157 hx (.ref a115) (dB at_77) 79 rfl rfl rfl ?_
   refine w_goto X157 hx (dB at_79) 84 ?_
   refine w_astore X157 hx (dB at_84) 86 rfl rfl #[.val (.int id_), .val (.int sf), .val (.int cn), .val (.int da), .val (.int pk), .val (.int v70), .val (.int v72), .val (.ref rr74), .val (.ref rr85), .val (.ref a94), .val (.ref a115), .val (.ref a115), .unset, .unset, .unset, .unset, .unset] rfl ?_
   refine w_new X157 hx hZ hown e157 (tw_12 hw) (tw_13 hw) (tw_14 hw) (by decide) (by decide) (dB at_86) 89 rfl (fun T308 h308 a308 X308 e308 g308 E308 A308 D308 => ?_)
   have ne_st_ADM1_a308 : st_ADM1 ≠ a308 := Nat.ne_of_lt (Nat.lt_of_lt_of_le F159.lt (Nat.le_of_eq g308.symm))
   have ne_st_ALWAYS_a308 : st_ALWAYS ≠ a308 := Nat.ne_of_lt (Nat.lt_of_lt_of_le F161.lt (Nat.le_of_eq g308.symm))
   have ne_st_PIN1_a308 : st_PIN1 ≠ a308 := Nat.ne_of_lt (Nat.lt_of_lt_of_le F163.lt (Nat.le_of_eq g308.symm))
   have ne_st_PIN1_OR_ADM1_a308 : st_PIN1_OR_ADM1 ≠ a308 := Nat.ne_of_lt (Nat.lt_of_lt_of_le F165.lt (Nat.le_of_eq g308.symm))
   have ne_a94_a308 : a94 ≠ a308 := Nat.ne_of_lt (Nat.lt_of_lt_of_le F166.lt (Nat.le_of_eq g308.symm))
   have ne_a115_a308 : a115 ≠ a308 := Nat.ne_of_lt (Nat.lt_of_lt_of_le F168.lt (Nat.le_of_eq g308.symm))
   have g_a308 : n0 ≤ a308 := Nat.le_trans Z157 (Nat.le_of_eq g308.symm)
   have s_a308 : h0.size ≤ a308 := Nat.le_trans K157.1 (Nat.le_of_eq g308.symm)
   have F309 : Sta Z h308 cN_1 "ADM1" cN_2 (.ref st_ADM1) := F158.ext E308
   have F310 : Exa Z h308 st_ADM1 cN_1 := F159.ext E308
   have F311 : Sta Z h308 cN_1 "ALWAYS" cN_2 (.ref st_ALWAYS) := F160.ext E308
   have F312 : Exa Z h308 st_ALWAYS cN_1 := F161.ext E308
   have F313 : Sta Z h308 cN_1 "PIN1" cN_2 (.ref st_PIN1) := F162.ext E308
   have F314 : Exa Z h308 st_PIN1 cN_1 := F163.ext E308
   have F315 : Sta Z h308 cN_1 "PIN1_OR_ADM1" cN_2 (.ref st_PIN1_OR_ADM1) := F164.ext E308
   have F316 : Exa Z h308 st_PIN1_OR_ADM1 cN_1 := F165.ext E308
   have F317 : Arv Z h308 a94 k94 .byte (1 : Int32) [(.int v103), (.int (0 : Int32)), (.int (0 : Int32))] (.int (0 : Int32)) := F166.ext E308
   have F318 : Exa Z h308 a94 "[B" := F167.ext E308
   have F319 : Arv Z h308 a115 k115 .byte (3 : Int32) [(.int v126), (.int v141), (.int v156)] (.int (0 : Int32)) := F168.ext E308
   have F320 : Exa Z h308 a115 "[B" := F169.ext E308
   have Z308 : n0 ≤ h308.size := Nat.le_trans Z157 E308.1
   have K308 : Keep h0 h308 [] := K157.ext E308
   have F321 : Fld Z h308 a308 cN_4 "fileId" "I" (.int (0 : Int32)) := D308 (Or.inr (tw_28 hw)) (ty := .int) (by decide)
   have F322 : Fld Z h308 a308 cN_4 "sfi" "I" (.int (0 : Int32)) := D308 (Or.inr (tw_30 hw)) (ty := .int) (by decide)
   have F323 : Fld Z h308 a308 cN_4 "readCondition" cN_2 .null := D308 (Or.inr (tw_32 hw)) (ty := (.object "com/example/nodecard/nodecard/card/AccessCondition")) (by decide)
   have F324 : Fld Z h308 a308 cN_4 "updateCondition" cN_2 .null := D308 (Or.inr (tw_34 hw)) (ty := (.object "com/example/nodecard/nodecard/card/AccessCondition")) (by decide)
   refine w_dup X308 hx (dB at_89) 90 rfl rfl ?_
   refine w_iload X308 hx v70 (dB at_90) 92 rfl rfl ?_
   refine w_iload X308 hx v72 (dB at_92) 94 rfl rfl ?_
   refine w_aload X308 hx (.ref rr74) (dB at_94) 96 rfl rfl rfl ?_
   refine w_aload X308 hx (.ref rr85) (dB at_96) 98 rfl rfl rfl ?_
   refine w_init X308 hx hZ rfl hown e308 (rm2 l Z a0 hw [] a308 v70 v72 rr74 rr85 h308 n0 Z308 A308 F321 F322 F323 F324 g_a308 (by omega) (by omega) (by omega) (by omega)) (tw_15 hw) (tw_16 hw) (tw_14 hw) (tw_17 hw) (by decide) (by rw [hml]; rfl) a308 [(.int v70), (.int v72), (.ref rr74), (.ref rr85)] [(.ref a308)] (lenOf pd_4 rfl) rfl rfl (by decide) 1 rfl (by decide) (by decide) (by decide) (dB at_98) 101 rfl (fun r325 T325 L325 X325 q325 => ?_)
   obtain ⟨rfl, Nq325, Kq325⟩ := q325
   have N325 := Fr.app N157 Nq325
   have F326 : Sta Z T325.heap cN_1 "ADM1" cN_2 (.ref st_ADM1) := sta_keep F309 Kq325 (allS (exa_plain A308) all0)
   have F327 : Exa Z T325.heap st_ADM1 cN_1 := F310.keep Kq325
   have F328 : Sta Z T325.heap cN_1 "ALWAYS" cN_2 (.ref st_ALWAYS) := sta_keep F311 Kq325 (allS (exa_plain A308) all0)
   have F329 : Exa Z T325.heap st_ALWAYS cN_1 := F312.keep Kq325
   have F330 : Sta Z T325.heap cN_1 "PIN1" cN_2 (.ref st_PIN1) := sta_keep F313 Kq325 (allS (exa_plain A308) all0)
   have F331 : Exa Z T325.heap st_PIN1 cN_1 := F314.keep Kq325
   have F332 : Sta Z T325.heap cN_1 "PIN1_OR_ADM1" cN_2 (.ref st_PIN1_OR_ADM1) := sta_keep F315 Kq325 (allS (exa_plain A308) all0)
   have F333 : Exa Z T325.heap st_PIN1_OR_ADM1 cN_1 := F316.keep Kq325
   have F334 : Arv Z T325.heap a94 k94 .byte (1 : Int32) [(.int v103), (.int (0 : Int32)), (.int (0 : Int32))] (.int (0 : Int32)) := F317.keep Kq325 (ninS ne_a94_a308 nin0)
   have F335 : Exa Z T325.heap a94 "[B" := F318.keep Kq325
   have F336 : Arv Z T325.heap a115 k115 .byte (3 : Int32) [(.int v126), (.int v141), (.int v156)] (.int (0 : Int32)) := F319.keep Kq325 (ninS ne_a115_a308 nin0)
   have F337 : Exa Z T325.heap a115 "[B" := F320.keep Kq325
   have F338 : Exa Z T325.heap a308 cN_4 := A308.keep Kq325
   have Z325 : n0 ≤ T325.heap.size := Nat.le_trans Z308 Kq325.1
   have K325 : Keep h0 T325.heap [] := K308.trans Kq325 (allS (Or.inr s_a308) all0)
   dsimp only [Option.toList_some, Option.toList_none, List.cons_append, List.nil_append]
   refine w_astore X325 hx (dB at_101) 103 rfl rfl #[.val (.int id_), .val (.int sf), .val (.int cn), .val (.int da), .val (.int pk), .val (.int v70), .val (.int v72), .val (.ref rr74), .val (.ref rr85), .val (.ref a94), .val (.ref a115), .val (.ref a115), .val (.ref a308), .unset, .unset, .unset, .unset] rfl ?_
   refine w_new X325 hx hZ hown rfl (tw_35 hw) (tw_36 hw) (tw_37 hw) (by decide) (by decide) (dB at_103) 106 rfl (fun T339 h339 a339 X339 e339 g339 E339 A339 D339 => ?_)
   have ne_st_ADM1_a339 : st_ADM1 ≠ a339 := Nat.ne_of_lt (Nat.lt_of_lt_of_le F327.lt (Nat.le_of_eq g339.symm))
   have ne_st_ALWAYS_a339 : st_ALWAYS ≠ a339 := Nat.ne_of_lt (Nat.lt_of_lt_of_le F329.lt (Nat.le_of_eq g339.symm))
   have ne_st_PIN1_a339 : st_PIN1 ≠ a339 := Nat.ne_of_lt (Nat.lt_of_lt_of_le F331.lt (Nat.le_of_eq g339.symm))
   have ne_st_PIN1_OR_ADM1_a339 : st_PIN1_OR_ADM1 ≠ a339 := Nat.ne_of_lt (Nat.lt_of_lt_of_le F333.lt (Nat.le_of_eq g339.symm))
   have ne_a94_a339 : a94 ≠ a339 := Nat.ne_of_lt (Nat.lt_of_lt_of_le F334.lt (Nat.le_of_eq g339.symm))
   have ne_a115_a339 : a115 ≠ a339 := Nat.ne_of_lt (Nat.lt_of_lt_of_le F336.lt (Nat.le_of_eq g339.symm))
   have ne_a308_a339 : a308 ≠ a339 := Nat.ne_of_lt (Nat.lt_of_lt_of_le F338.lt (Nat.le_of_eq g339.symm))
   have g_a339 : n0 ≤ a339 := Nat.le_trans Z325 (Nat.le_of_eq g339.symm)
   have s_a339 : h0.size ≤ a339 := Nat.le_trans K325.1 (Nat.le_of_eq g339.symm)
   have F340 : Sta Z h339 cN_1 "ADM1" cN_2 (.ref st_ADM1) := F326.ext E339
   have F341 : Exa Z h339 st_ADM1 cN_1 := F327.ext E339
   have F342 : Sta Z h339 cN_1 "ALWAYS" cN_2 (.ref st_ALWAYS) := F328.ext E339
   have F343 : Exa Z h339 st_ALWAYS cN_1 := F329.ext E339
   have F344 : Sta Z h339 cN_1 "PIN1" cN_2 (.ref st_PIN1) := F330.ext E339
   have F345 : Exa Z h339 st_PIN1 cN_1 := F331.ext E339
   have F346 : Sta Z h339 cN_1 "PIN1_OR_ADM1" cN_2 (.ref st_PIN1_OR_ADM1) := F332.ext E339
   have F347 : Exa Z h339 st_PIN1_OR_ADM1 cN_1 := F333.ext E339
   have F348 : Arv Z h339 a94 k94 .byte (1 : Int32) [(.int v103), (.int (0 : Int32)), (.int (0 : Int32))] (.int (0 : Int32)) := F334.ext E339
   have F349 : Exa Z h339 a94 "[B" := F335.ext E339
   have F350 : Arv Z h339 a115 k115 .byte (3 : Int32) [(.int v126), (.int v141), (.int v156)] (.int (0 : Int32)) := F336.ext E339
   have F351 : Exa Z h339 a115 "[B" := F337.ext E339
   have F352 : Exa Z h339 a308 cN_4 := F338.ext E339
   have Z339 : n0 ≤ h339.size := Nat.le_trans Z325 E339.1
   have K339 : Keep h0 h339 [] := K325.ext E339
   have F353 : Fld Z h339 a339 cN_6 "header" cN_7 .null := D339 (Or.inr (tw_48 hw)) (ty := (.object "com/example/nodecard/nodecard/card/FileHeader")) (by decide)
   have F354 : Fld Z h339 a339 cN_5 "content" "[B" .null := D339 (Or.inr (tw_62 hw)) (ty := (.array .byte)) (by decide)
   refine w_dup X339 hx (dB at_106) 107 rfl rfl ?_
   refine w_aload X339 hx (.ref a308) (dB at_107) 109 rfl rfl rfl ?_
   refine w_aload X339 hx (.ref a115) (dB at_109) 111 rfl rfl rfl ?_
   refine w_init X339 hx hZ rfl hown e339 (rm5 l Z a0 hw [] a339 a308 a115 k115 (3 : Int32) v126 v141 v156 h339 n0 Z339 A339 F353 F354 F350 F351 g_a339 (by have hl_0 : (3 : Int32).toInt = 3 := (by decide); omega) (by have hl_0 : (3 : Int32).toInt = 3 := (by decide); omega)) (tw_38 hw) (tw_39 hw) (tw_37 hw) (tw_40 hw) (by decide) (by rw [hml]; rfl) a339 [(.ref a308), (.ref a115)] [(.ref a339)] (lenOf pd_5 rfl) rfl rfl (by decide) 1 rfl (by decide) (by decide) (by decide) (dB at_111) 114 rfl (fun r355 T355 L355 X355 q355 => ?_)
   obtain ⟨rfl, Nq355, Kq355⟩ := q355
   have N355 := Fr.app N325 Nq355
   have F356 : Sta Z T355.heap cN_1 "ADM1" cN_2 (.ref st_ADM1) := sta_keep F340 Kq355 (allS (exa_plain A339) all0)
   have F357 : Exa Z T355.heap st_ADM1 cN_1 := F341.keep Kq355
   have F358 : Sta Z T355.heap cN_1 "ALWAYS" cN_2 (.ref st_ALWAYS) := sta_keep F342 Kq355 (allS (exa_plain A339) all0)
   have F359 : Exa Z T355.heap st_ALWAYS cN_1 := F343.keep Kq355
   have F360 : Sta Z T355.heap cN_1 "PIN1" cN_2 (.ref st_PIN1) := sta_keep F344 Kq355 (allS (exa_plain A339) all0)
   have F361 : Exa Z T355.heap st_PIN1 cN_1 := F345.keep Kq355
   have F362 : Sta Z T355.heap cN_1 "PIN1_OR_ADM1" cN_2 (.ref st_PIN1_OR_ADM1) := sta_keep F346 Kq355 (allS (exa_plain A339) all0)
   have F363 : Exa Z T355.heap st_PIN1_OR_ADM1 cN_1 := F347.keep Kq355
   have F364 : Arv Z T355.heap a94 k94 .byte (1 : Int32) [(.int v103), (.int (0 : Int32)), (.int (0 : Int32))] (.int (0 : Int32)) := F348.keep Kq355 (ninS ne_a94_a339 nin0)
   have F365 : Exa Z T355.heap a94 "[B" := F349.keep Kq355
   have F366 : Arv Z T355.heap a115 k115 .byte (3 : Int32) [(.int v126), (.int v141), (.int v156)] (.int (0 : Int32)) := F350.keep Kq355 (ninS ne_a115_a339 nin0)
   have F367 : Exa Z T355.heap a115 "[B" := F351.keep Kq355
   have F368 : Exa Z T355.heap a308 cN_4 := F352.keep Kq355
   have F369 : Exa Z T355.heap a339 cN_5 := A339.keep Kq355
   have Z355 : n0 ≤ T355.heap.size := Nat.le_trans Z339 Kq355.1
   have K355 : Keep h0 T355.heap [] := K339.trans Kq355 (allS (Or.inr s_a339) all0)
   dsimp only [Option.toList_some, Option.toList_none, List.cons_append, List.nil_append]
   refine w_astore X355 hx (dB at_114) 116 rfl rfl #[.val (.int id_), .val (.int sf), .val (.int cn), .val (.int da), .val (.int pk), .val (.int v70), .val (.int v72), .val (.ref rr74), .val (.ref rr85), .val (.ref a94), .val (.ref a115), .val (.ref a115), .val (.ref a308), .val (.ref a339), .unset, .unset, .unset] rfl ?_
   refine w_aload X355 hx (.ref a339) (dB at_116) 118 rfl rfl rfl ?_
   refine w_virt X355 hx hZ hown rfl (rm8 l Z a0 hw [] a339 T355.heap n0 Z355 ) (tw_63 hw) (tw_64 hw) (notFace_of_selects (args := #[]) (mvT hZ (tw_66 hw))) (tw_66 hw) (tw_65 hw) (tw_37 hw) (tw_67 hw) (by decide) a339 F369 (by rw [hml]; rfl) [] [] (lenOf pd_6 rfl) rfl rfl (by decide) 0 rfl (by decide) (by decide) (by decide) (dB at_118) 121 rfl (fun r370 T370 L370 X370 q370 => ?_)
   obtain ⟨bb370, kb370, rfl, Nq370, Kq370, sq370_0, G370_0⟩ := q370
   have N370 := Fr.app N355 Nq370
   have ne_st_ADM1_bb370 : st_ADM1 ≠ bb370 := Nat.ne_of_lt (Nat.lt_of_lt_of_le F357.lt sq370_0)
   have ne_st_ALWAYS_bb370 : st_ALWAYS ≠ bb370 := Nat.ne_of_lt (Nat.lt_of_lt_of_le F359.lt sq370_0)
   have ne_st_PIN1_bb370 : st_PIN1 ≠ bb370 := Nat.ne_of_lt (Nat.lt_of_lt_of_le F361.lt sq370_0)
   have ne_st_PIN1_OR_ADM1_bb370 : st_PIN1_OR_ADM1 ≠ bb370 := Nat.ne_of_lt (Nat.lt_of_lt_of_le F363.lt sq370_0)
   have ne_a94_bb370 : a94 ≠ bb370 := Nat.ne_of_lt (Nat.lt_of_lt_of_le F364.lt sq370_0)
   have ne_a115_bb370 : a115 ≠ bb370 := Nat.ne_of_lt (Nat.lt_of_lt_of_le F366.lt sq370_0)
   have ne_a308_bb370 : a308 ≠ bb370 := Nat.ne_of_lt (Nat.lt_of_lt_of_le F368.lt sq370_0)
   have ne_a339_bb370 : a339 ≠ bb370 := Nat.ne_of_lt (Nat.lt_of_lt_of_le F369.lt sq370_0)
   have g_bb370 : n0 ≤ bb370 := Nat.le_trans Z355 sq370_0
   have s_bb370 : h0.size ≤ bb370 := Nat.le_trans K355.1 sq370_0
   have F371 : Sta Z T370.heap cN_1 "ADM1" cN_2 (.ref st_ADM1) := sta_keep F356 Kq370 all0
   have F372 : Exa Z T370.heap st_ADM1 cN_1 := F357.keep Kq370
   have F373 : Sta Z T370.heap cN_1 "ALWAYS" cN_2 (.ref st_ALWAYS) := sta_keep F358 Kq370 all0
   have F374 : Exa Z T370.heap st_ALWAYS cN_1 := F359.keep Kq370
   have F375 : Sta Z T370.heap cN_1 "PIN1" cN_2 (.ref st_PIN1) := sta_keep F360 Kq370 all0
   have F376 : Exa Z T370.heap st_PIN1 cN_1 := F361.keep Kq370
   have F377 : Sta Z T370.heap cN_1 "PIN1_OR_ADM1" cN_2 (.ref st_PIN1_OR_ADM1) := sta_keep F362 Kq370 all0
   have F378 : Exa Z T370.heap st_PIN1_OR_ADM1 cN_1 := F363.keep Kq370
   have F379 : Arv Z T370.heap a94 k94 .byte (1 : Int32) [(.int v103), (.int (0 : Int32)), (.int (0 : Int32))] (.int (0 : Int32)) := F364.keep Kq370 nin0
   have F380 : Exa Z T370.heap a94 "[B" := F365.keep Kq370
   have F381 : Arv Z T370.heap a115 k115 .byte (3 : Int32) [(.int v126), (.int v141), (.int v156)] (.int (0 : Int32)) := F366.keep Kq370 nin0
   have F382 : Exa Z T370.heap a115 "[B" := F367.keep Kq370
   have F383 : Exa Z T370.heap a308 cN_4 := F368.keep Kq370
   have F384 : Exa Z T370.heap a339 cN_5 := F369.keep Kq370
   have Z370 : n0 ≤ T370.heap.size := Nat.le_trans Z355 Kq370.1
   have K370 : Keep h0 T370.heap [] := K355.trans Kq370 all0
   dsimp only [Option.toList_some, Option.toList_none, List.cons_append, List.nil_append]
   refine w_astore X370 hx (dB at_121) 123 rfl rfl #[.val (.int id_), .val (.int sf), .val (.int cn), .val (.int da), .val (.int pk), .val (.int v70), .val (.int v72), .val (.ref rr74), .val (.ref rr85), .val (.ref a94), .val (.ref a115), .val (.ref a115), .val (.ref a308), .val (.ref a339), .val (.ref bb370), .unset, .unset] rfl ?_
   refine w_aload X370 hx (.ref bb370) (dB at_123) 125 rfl rfl rfl ?_
   refine w_length X370 hx hZ rfl G370_0 (dB at_125) 126 rfl ?_
   refine w_iconst X370 hx (dB at_126) 127 rfl (2 : Int32) (by decide) ?_
   refine w_icmp_ne X370 hx 2 2 (by decide) (by decide) (dB at_127) 152 130 (fun c385 => ?_) (fun c385 => ?_)
   ·exfalso; omega
   ·refine w_aload X370 hx (.ref bb370) (dB at_130) 132 rfl rfl rfl ?_
    refine w_iconst X370 hx (dB at_132) 133 rfl (0 : Int32) (by decide) ?_
    refine w_baload X370 hx hZ rfl G370_0 ⟨by decide, by decide⟩ (v := (.int (65 : Int32))) rfl (dB at_133) 134 rfl ?_
    refine w_bipush X370 hx (dB at_134) 136 rfl (65 : Int32) (by decide) ?_
    refine w_icmp_ne X370 hx 65 65 (by decide) (by decide) (dB at_136) 152 139 (fun c386 => ?_) (fun c386 => ?_)
    ·exfalso; omega
    ·refine w_aload X370 hx (.ref bb370) (dB at_139) 141 rfl rfl rfl ?_
     refine w_iconst X370 hx (dB at_141) 142 rfl (1 : Int32) (by decide) ?_
     refine w_baload X370 hx hZ rfl G370_0 ⟨by decide, by decide⟩ (v := (.int (33 : Int32))) rfl (dB at_142) 143 rfl ?_
     refine w_bipush X370 hx (dB at_143) 145 rfl (33 : Int32) (by decide) ?_
     refine w_icmp_ne X370 hx 33 33 (by decide) (by decide) (dB at_145) 152 148 (fun c387 => ?_) (fun c387 => ?_)
     ·exfalso; omega
     ·refine w_iconst X370 hx (dB at_148) 149 rfl (1 : Int32) (by decide) ?_
      refine w_goto X370 hx (dB at_149) 153 ?_
      refine w_istore X370 hx (dB at_153) 155 rfl #[.val (.int id_), .val (.int sf), .val (.int cn), .val (.int da), .val (.int pk), .val (.int v70), .val (.int v72), .val (.ref rr74), .val (.ref rr85), .val (.ref a94), .val (.ref a115), .val (.ref a115), .val (.ref a308), .val (.ref a339), .val (.ref bb370), .val (.int (1 : Int32)), .unset] rfl ?_
      refine w_iload X370 hx (1 : Int32) (dB at_155) 157 rfl rfl ?_
      refine w_if_ne X370 hx 1 (by decide) (dB at_157) 162 160 (fun c388 => ?_) (fun c388 => ?_)
      ·refine w_aload X370 hx (.ref bb370) (dB at_162) 164 rfl rfl rfl ?_
       refine w_iconst X370 hx (dB at_164) 165 rfl (0 : Int32) (by decide) ?_
       refine w_iload X370 hx pk (dB at_165) 167 rfl rfl ?_
       obtain ⟨v389, e389⟩ : ∃ z : Int32, z = pk.toInt8.toInt32 := ⟨_, rfl⟩
       have n389 : (v389.toInt - pk.toInt) % 256 = 0 ∧ -128 ≤ v389.toInt ∧ v389.toInt < 128 := by rw [e389]; exact i2bX rfl
       refine w_i2b X370 hx (dB at_167) 168 rfl e389 ?_
       refine w_bastore X370 hx hZ rfl G370_0 ⟨by decide, by decide⟩ 0 (by decide) (show 0 < 2 from (by decide)) (dB at_168) 169 rfl (fun T390 h390 X390 e390 W390 V390 => ?_)
       have b390 : v389.toInt8.toInt32 = v389 := eqI (byteE rfl (by omega) (by omega))
       rw [b390] at W390 V390
       have F391 : Sta Z h390 cN_1 "ADM1" cN_2 (.ref st_ADM1) := F371.wr W390
       have F392 : Exa Z h390 st_ADM1 cN_1 := F372.wr W390
       have F393 : Sta Z h390 cN_1 "ALWAYS" cN_2 (.ref st_ALWAYS) := F373.wr W390
       have F394 : Exa Z h390 st_ALWAYS cN_1 := F374.wr W390
       have F395 : Sta Z h390 cN_1 "PIN1" cN_2 (.ref st_PIN1) := F375.wr W390
       have F396 : Exa Z h390 st_PIN1 cN_1 := F376.wr W390
       have F397 : Sta Z h390 cN_1 "PIN1_OR_ADM1" cN_2 (.ref st_PIN1_OR_ADM1) := F377.wr W390
       have F398 : Exa Z h390 st_PIN1_OR_ADM1 cN_1 := F378.wr W390
       have F399 : Arv Z h390 a94 k94 .byte (1 : Int32) [(.int v103), (.int (0 : Int32)), (.int (0 : Int32))] (.int (0 : Int32)) := F379.other W390 ne_a94_bb370
       have F400 : Exa Z h390 a94 "[B" := F380.wr W390
       have F401 : Arv Z h390 a115 k115 .byte (3 : Int32) [(.int v126), (.int v141), (.int v156)] (.int (0 : Int32)) := F381.other W390 ne_a115_bb370
       have F402 : Exa Z h390 a115 "[B" := F382.wr W390
       have F403 : Exa Z h390 a308 cN_4 := F383.wr W390
       have F404 : Exa Z h390 a339 cN_5 := F384.wr W390
       have F405 : Arv Z h390 bb370 kb370 .byte (2 : Int32) [(.int v389), (.int (33 : Int32))] (.int (0 : Int32)) := V390
       have Z390 : n0 ≤ h390.size := by rw [W390.size]; exact Z370
       have K390 : Keep h0 h390 [] := K370.wr W390 (Or.inr s_bb370)
       have N390 := Fr.snoc X390 N370 g_bb370
       refine w_aload X390 hx (.ref bb370) (dB at_169) 171 rfl rfl rfl ?_
       refine w_iconst X390 hx (dB at_171) 172 rfl (1 : Int32) (by decide) ?_
       refine w_iload X390 hx pk (dB at_172) 174 rfl rfl ?_
       refine w_bipush X390 hx (dB at_174) 176 rfl (8 : Int32) (by decide) ?_
       obtain ⟨v406, e406⟩ : ∃ z : Int32, z = pk >>> ((8 : Int32) &&& 31) := ⟨_, rfl⟩
       have n406 : v406.toInt = pk.toInt / 256 := by rw [e406]; exact ishrX 8 rfl (by decide)
       refine w_ishr X390 hx (dB at_176) 177 rfl e406 ?_
       obtain ⟨v407, e407⟩ : ∃ z : Int32, z = v406.toInt8.toInt32 := ⟨_, rfl⟩
       have n407 : (v407.toInt - v406.toInt) % 256 = 0 ∧ -128 ≤ v407.toInt ∧ v407.toInt < 128 := by rw [e407]; exact i2bX rfl
       refine w_i2b X390 hx (dB at_177) 178 rfl e407 ?_
       refine w_bastore X390 hx hZ e390 F405 ⟨by decide, by decide⟩ 1 (by decide) (show 1 < 2 from (by decide)) (dB at_178) 179 rfl (fun T408 h408 X408 e408 W408 V408 => ?_)
       have b408 : v407.toInt8.toInt32 = v407 := eqI (byteE rfl (by omega) (by omega))
       rw [b408] at W408 V408
       have F409 : Sta Z h408 cN_1 "ADM1" cN_2 (.ref st_ADM1) := F391.wr W408
       have F410 : Exa Z h408 st_ADM1 cN_1 := F392.wr W408
       have F411 : Sta Z h408 cN_1 "ALWAYS" cN_2 (.ref st_ALWAYS) := F393.wr W408
       have F412 : Exa Z h408 st_ALWAYS cN_1 := F394.wr W408
       have F413 : Sta Z h408 cN_1 "PIN1" cN_2 (.ref st_PIN1) := F395.wr W408
       have F414 : Exa Z h408 st_PIN1 cN_1 := F396.wr W408
       have F415 : Sta Z h408 cN_1 "PIN1_OR_ADM1" cN_2 (.ref st_PIN1_OR_ADM1) := F397.wr W408
       have F416 : Exa Z h408 st_PIN1_OR_ADM1 cN_1 := F398.wr W408
       have F417 : Arv Z h408 a94 k94 .byte (1 : Int32) [(.int v103), (.int (0 : Int32)), (.int (0 : Int32))] (.int (0 : Int32)) := F399.other W408 ne_a94_bb370
       have F418 : Exa Z h408 a94 "[B" := F400.wr W408
       have F419 : Arv Z h408 a115 k115 .byte (3 : Int32) [(.int v126), (.int v141), (.int v156)] (.int (0 : Int32)) := F401.other W408 ne_a115_bb370
       have F420 : Exa Z h408 a115 "[B" := F402.wr W408
       have F421 : Exa Z h408 a308 cN_4 := F403.wr W408
       have F422 : Exa Z h408 a339 cN_5 := F404.wr W408
       have F423 : Arv Z h408 bb370 kb370 .byte (2 : Int32) [(.int v389), (.int v407)] (.int (0 : Int32)) := V408
       have Z408 : n0 ≤ h408.size := by rw [W408.size]; exact Z390
       have K408 : Keep h0 h408 [] := K390.wr W408 (Or.inr s_bb370)
       have N408 := Fr.snoc X408 N390 g_bb370
       refine w_aload X408 hx (.ref a339) (dB at_179) 181 rfl rfl rfl ?_
       refine w_virt X408 hx hZ hown e408 (rm8 l Z a0 hw [] a339 h408 n0 Z408 ) (tw_63 hw) (tw_64 hw) (notFace_of_selects (args := #[]) (mvT hZ (tw_66 hw))) (tw_66 hw) (tw_65 hw) (tw_37 hw) (tw_67 hw) (by decide) a339 F422 (by rw [hml]; rfl) [] [] (lenOf pd_6 rfl) rfl rfl (by decide) 0 rfl (by decide) (by decide) (by decide) (dB at_181) 184 rfl (fun r424 T424 L424 X424 q424 => ?_)
       obtain ⟨bb424, kb424, rfl, Nq424, Kq424, sq424_0, G424_0⟩ := q424
       have N424 := Fr.app N408 Nq424
       have ne_st_ADM1_bb424 : st_ADM1 ≠ bb424 := Nat.ne_of_lt (Nat.lt_of_lt_of_le F410.lt sq424_0)
       have ne_st_ALWAYS_bb424 : st_ALWAYS ≠ bb424 := Nat.ne_of_lt (Nat.lt_of_lt_of_le F412.lt sq424_0)
       have ne_st_PIN1_bb424 : st_PIN1 ≠ bb424 := Nat.ne_of_lt (Nat.lt_of_lt_of_le F414.lt sq424_0)
       have ne_st_PIN1_OR_ADM1_bb424 : st_PIN1_OR_ADM1 ≠ bb424 := Nat.ne_of_lt (Nat.lt_of_lt_of_le F416.lt sq424_0)
       have ne_a94_bb424 : a94 ≠ bb424 := Nat.ne_of_lt (Nat.lt_of_lt_of_le F417.lt sq424_0)
       have ne_a115_bb424 : a115 ≠ bb424 := Nat.ne_of_lt (Nat.lt_of_lt_of_le F419.lt sq424_0)
       have ne_a308_bb424 : a308 ≠ bb424 := Nat.ne_of_lt (Nat.lt_of_lt_of_le F421.lt sq424_0)
       have ne_a339_bb424 : a339 ≠ bb424 := Nat.ne_of_lt (Nat.lt_of_lt_of_le F422.lt sq424_0)
       have ne_bb370_bb424 : bb370 ≠ bb424 := Nat.ne_of_lt (Nat.lt_of_lt_of_le F423.lt sq424_0)
       have g_bb424 : n0 ≤ bb424 := Nat.le_trans Z408 sq424_0
       have s_bb424 : h0.size ≤ bb424 := Nat.le_trans K408.1 sq424_0
       have F425 : Sta Z T424.heap cN_1 "ADM1" cN_2 (.ref st_ADM1) := sta_keep F409 Kq424 all0
       have F426 : Exa Z T424.heap st_ADM1 cN_1 := F410.keep Kq424
       have F427 : Sta Z T424.heap cN_1 "ALWAYS" cN_2 (.ref st_ALWAYS) := sta_keep F411 Kq424 all0
       have F428 : Exa Z T424.heap st_ALWAYS cN_1 := F412.keep Kq424
       have F429 : Sta Z T424.heap cN_1 "PIN1" cN_2 (.ref st_PIN1) := sta_keep F413 Kq424 all0
       have F430 : Exa Z T424.heap st_PIN1 cN_1 := F414.keep Kq424
       have F431 : Sta Z T424.heap cN_1 "PIN1_OR_ADM1" cN_2 (.ref st_PIN1_OR_ADM1) := sta_keep F415 Kq424 all0
       have F432 : Exa Z T424.heap st_PIN1_OR_ADM1 cN_1 := F416.keep Kq424
       have F433 : Arv Z T424.heap a94 k94 .byte (1 : Int32) [(.int v103), (.int (0 : Int32)), (.int (0 : Int32))] (.int (0 : Int32)) := F417.keep Kq424 nin0
       have F434 : Exa Z T424.heap a94 "[B" := F418.keep Kq424
       have F435 : Arv Z T424.heap a115 k115 .byte (3 : Int32) [(.int v126), (.int v141), (.int v156)] (.int (0 : Int32)) := F419.keep Kq424 nin0
       have F436 : Exa Z T424.heap a115 "[B" := F420.keep Kq424
       have F437 : Exa Z T424.heap a308 cN_4 := F421.keep Kq424
       have F438 : Exa Z T424.heap a339 cN_5 := F422.keep Kq424
       have F439 : Arv Z T424.heap bb370 kb370 .byte (2 : Int32) [(.int v389), (.int v407)] (.int (0 : Int32)) := F423.keep Kq424 nin0
       have Z424 : n0 ≤ T424.heap.size := Nat.le_trans Z408 Kq424.1
       have K424 : Keep h0 T424.heap [] := K408.trans Kq424 all0
       dsimp only [Option.toList_some, Option.toList_none, List.cons_append, List.nil_append]
       refine w_astore X424 hx (dB at_184) 186 rfl rfl #[.val (.int id_), .val (.int sf), .val (.int cn), .val (.int da), .val (.int pk), .val (.int v70), .val (.int v72), .val (.ref rr74), .val (.ref rr85), .val (.ref a94), .val (.ref a115), .val (.ref a115), .val (.ref a308), .val (.ref a339), .val (.ref bb370), .val (.int (1 : Int32)), .val (.ref bb424)] rfl ?_
       refine w_aload X424 hx (.ref bb424) (dB at_186) 188 rfl rfl rfl ?_
       refine w_aload X424 hx (.ref bb370) (dB at_188) 190 rfl rfl rfl ?_
       refine w_acmp X424 hx rfl rfl (dB at_190) false (decide_eq_false fun q => (Ne.symm ne_bb370_bb424) (Value.ref.inj q)) 193 (by decide) (by decide) ?_
       refine w_aload X424 hx (.ref bb424) (dB at_193) 195 rfl rfl rfl ?_
       refine w_length X424 hx hZ rfl G424_0 (dB at_195) 196 rfl ?_
       refine w_iconst X424 hx (dB at_196) 197 rfl (2 : Int32) (by decide) ?_
       refine w_icmp_ne X424 hx 2 2 (by decide) (by decide) (dB at_197) 222 200 (fun c440 => ?_) (fun c440 => ?_)
       ·exfalso; omega
       ·refine w_aload X424 hx (.ref bb424) (dB at_200) 202 rfl rfl rfl ?_
        refine w_iconst X424 hx (dB at_202) 203 rfl (0 : Int32) (by decide) ?_
        refine w_baload X424 hx hZ rfl G424_0 ⟨by decide, by decide⟩ (v := (.int (65 : Int32))) rfl (dB at_203) 204 rfl ?_
        refine w_bipush X424 hx (dB at_204) 206 rfl (65 : Int32) (by decide) ?_
        refine w_icmp_ne X424 hx 65 65 (by decide) (by decide) (dB at_206) 222 209 (fun c441 => ?_) (fun c441 => ?_)
        ·exfalso; omega
        ·refine w_aload X424 hx (.ref bb424) (dB at_209) 211 rfl rfl rfl ?_
         refine w_iconst X424 hx (dB at_211) 212 rfl (1 : Int32) (by decide) ?_
         refine w_baload X424 hx hZ rfl G424_0 ⟨by decide, by decide⟩ (v := (.int (33 : Int32))) rfl (dB at_212) 213 rfl ?_
         refine w_bipush X424 hx (dB at_213) 215 rfl (33 : Int32) (by decide) ?_
         refine w_icmp_ne X424 hx 33 33 (by decide) (by decide) (dB at_215) 222 218 (fun c442 => ?_) (fun c442 => ?_)
         ·exfalso; omega
         ·refine w_iconst X424 hx (dB at_218) 219 rfl (1 : Int32) (by decide) ?_
          refine w_goto X424 hx (dB at_219) 223 ?_
          refine w_retN X424 hx hlk (t := .boolean) hret (by simp) (dB at_223) (by decide) (by decide) ?_
          exact ⟨rfl, N424⟩
      ·exfalso; omega
set_option maxRecDepth 65536 in
set_option maxHeartbeats 40000000 in
theorem comes_1 {Post : Tables → Env → Array Value → State → Outcome → State → Prop} (hpost : ∀ tb e args s v u, (limb_1_1.after args s (.returned v) u = true ∧ limb_1_2.after args s (.returned v) u = true ∧ True) → FrameEnd s (.returned v) u (Jvm.fieldLocs frame_1_writes args s ++ Jvm.arrayLocs frame_1_arrays args s ++ Jvm.staticLocs frame_1_statics s) 24 128 → Post tb e args s (.returned v) u) :
    ArmFor flags0 classFile x code maxLocals ret World_1 tables_1 room_1 Calls_1 rest_1 Pre_1 Post := by
  intro l hfl _ _ p e ha hc hk s m args below hf hA hF happ hP
  obtain ⟨hcalls, hrest, hpre⟩ := hP
  obtain ⟨-, -, -, hnamed, -, -, -, hat⟩ := (Spec.applies_iff hf).mp happ
  obtain ⟨hg, hn⟩ := and_e (Cond.before_iff.mp (show (Jvm.Cond.and given_1 narrow_1).before args s = true from hpre))
  obtain ⟨gg1, gg2⟩ := and_e hg
  obtain ⟨gg3, gg4⟩ := and_e gg2
  obtain ⟨gg5, gg6⟩ := and_e gg4
  obtain ⟨gg7, gg8⟩ := and_e gg6
  obtain ⟨gg9, gg10⟩ := and_e gg8
  obtain ⟨w0, w1, w2, w3, w4, rfl⟩ : ∃ w0 w1 w2 w3 w4 : Value, args = #[w0, w1, w2, w3, w4] := by
    have hs : args.size = 5 := by simpa [Cond.value, given_1] using gg1
    obtain ⟨L⟩ := args
    match L, hs with
    | [w0, w1, w2, w3, w4], _ => exact ⟨w0, w1, w2, w3, w4, rfl⟩
  have hw := fun d (hd : d ∈ tables_1) => atoms_spec (ws := Jvm.Cond.code x code maxLocals ret :: tables_1) hat d (List.mem_cons_of_mem _ hd)
  have hfit : Fit s := fun {y c} hc i hi => by
    obtain ⟨ha, rfl⟩ := Array.getElem?_eq_some_iff.mp hc
    have q := List.all_eq_true.mp ((Array.all_eq_true_iff_forall_mem.mp hF) _ (Array.getElem_mem ha)) i (List.mem_range.mpr hi)
    simpa [Array.getElem?_eq_getElem hi] using q
  obtain ⟨i0, ei0⟩ := is_v gg3
  obtain rfl : w0 = (.int i0) := Option.some.inj ei0
  obtain ⟨i1, ei1⟩ := is_v gg5
  obtain rfl : w1 = (.int i1) := Option.some.inj ei1
  obtain ⟨i2, ei2⟩ := is_v gg7
  obtain rfl : w2 = (.int i2) := Option.some.inj ei2
  obtain ⟨i3, ei3⟩ := is_v gg9
  obtain rfl : w3 = (.int i3) := Option.some.inj ei3
  obtain ⟨i4, ei4⟩ := is_v gg10
  obtain rfl : w4 = (.int i4) := Option.some.inj ei4
  obtain ⟨ns1, ns2⟩ := and_e hn
  obtain ⟨ns3, ns4⟩ := and_e ns2
  obtain ⟨ns5, ns6⟩ := and_e ns4
  obtain ⟨st_ADM1, ev_st_ADM1⟩ := exa_v ns1
  have S_st_ADM1 : Sta s s.heap "com/example/nodecard/nodecard/card/AccessCondition" "ADM1" "Lcom/example/nodecard/nodecard/card/AccessCondition;" (.ref st_ADM1) := Sta.start ev_st_ADM1 (Or.inr ⟨(tw_7 hw), (tw_8 hw)⟩)
  have E_st_ADM1 : Exa s s.heap st_ADM1 "com/example/nodecard/nodecard/card/AccessCondition" := Exa.start ev_st_ADM1 ns1
  obtain ⟨st_ALWAYS, ev_st_ALWAYS⟩ := exa_v ns3
  have S_st_ALWAYS : Sta s s.heap "com/example/nodecard/nodecard/card/AccessCondition" "ALWAYS" "Lcom/example/nodecard/nodecard/card/AccessCondition;" (.ref st_ALWAYS) := Sta.start ev_st_ALWAYS (Or.inr ⟨(tw_7 hw), (tw_10 hw)⟩)
  have E_st_ALWAYS : Exa s s.heap st_ALWAYS "com/example/nodecard/nodecard/card/AccessCondition" := Exa.start ev_st_ALWAYS ns3
  obtain ⟨st_PIN1, ev_st_PIN1⟩ := exa_v ns5
  have S_st_PIN1 : Sta s s.heap "com/example/nodecard/nodecard/card/AccessCondition" "PIN1" "Lcom/example/nodecard/nodecard/card/AccessCondition;" (.ref st_PIN1) := Sta.start ev_st_PIN1 (Or.inr ⟨(tw_7 hw), (tw_69 hw)⟩)
  have E_st_PIN1 : Exa s s.heap st_PIN1 "com/example/nodecard/nodecard/card/AccessCondition" := Exa.start ev_st_PIN1 ns5
  obtain ⟨st_PIN1_OR_ADM1, ev_st_PIN1_OR_ADM1⟩ := exa_v ns6
  have S_st_PIN1_OR_ADM1 : Sta s s.heap "com/example/nodecard/nodecard/card/AccessCondition" "PIN1_OR_ADM1" "Lcom/example/nodecard/nodecard/card/AccessCondition;" (.ref st_PIN1_OR_ADM1) := Sta.start ev_st_PIN1_OR_ADM1 (Or.inr ⟨(tw_7 hw), (tw_71 hw)⟩)
  have E_st_PIN1_OR_ADM1 : Exa s s.heap st_PIN1_OR_ADM1 "com/example/nodecard/nodecard/card/AccessCondition" := Exa.start ev_st_PIN1_OR_ADM1 ns6
  obtain ⟨n, o, h1, h2, h3, _, L, rfl, ⟨rfl, N⟩, hq⟩ := rm0 l s _ hw tables_1 i0 i1 i2 i3 i4 st_ADM1 st_ALWAYS st_PIN1 st_PIN1_OR_ADM1 s.heap s.heap.size (Nat.le_refl _) S_st_ADM1 E_st_ADM1 S_st_ALWAYS E_st_ALWAYS S_st_PIN1 E_st_PIN1 S_st_PIN1_OR_ADM1 E_st_PIN1_OR_ADM1 p e ha hc hk s m _ below hf ((Spec.applies_iff_loose hf).mp happ).1 ⟨rfl, State.Warmed39.refl s, rfl⟩ trivial
  refine ⟨n, _, h1, h2, h3, hpost _ _ _ _ _ _ ⟨Cond.after_iff.mpr rfl, Cond.after_iff.mpr (eq_i res_at (Term.int_eval (1)) rfl), trivial⟩ ⟨hq.1, hq.2.1, (hq.2.2.sift fun y hy => Or.inr (N y hy)).mono (by decide) (by decide)⟩⟩
theorem main_1_1 : Claimed_1_1 := comes_1 fun _ _ _ _ _ _ h hF => ⟨h.1, hF⟩
theorem main_1_2 : Claimed_1_2 := comes_1 fun _ _ _ _ _ _ h hF => ⟨h.2.1, hF⟩
end Jvm.Pilot.@@N@@
namespace Jvm.Pilot.@@N@@
open Jvm Jvm.ClassFile Sem Op Lib Jvm.Free Jvm.Stand Jvm.Pilot.@@N@@.Jvm.D
/-! MADE BY PROGRAM (witnessworld.py) out of the Statement's table words and the real class files: 16 classes; the members and pool entries that the words name. The judged class is class 1, her method 2. -/
namespace start1
open Jvm.ClassFile
def u (s : String) : CpInfo := .utf8 (stringToUtf16 s)
/-- a pool by its gaps: so many unusable entries, then the entry; so many at the end -/
def gap : Nat → List CpInfo → List CpInfo
  | 0, r => r
  | n + 1, r => .unusable :: gap n r
def poolList (es : List (Nat × CpInfo)) (last : Nat) : List CpInfo := es.foldr (fun e r => gap e.1 (e.2 :: r)) (gap last [])
def pool (es : List (Nat × CpInfo)) (last : Nat) : Array CpInfo := ⟨poolList es last⟩
def fileOf (pool : Array CpInfo) (this : Nat) (attrs : Array Attribute := #[]) (ms : Array MethodInfo := #[]) (fl : Nat := 33) (sup : Nat := 0) (ifs : Array Nat := #[]) (fds : Array FieldInfo := #[]) : ClassFile where
  minorVersion := 0
  majorVersion := 65
  constantPool := pool
  accessFlags := fl
  thisClass := this
  superClass := sup
  interfaces := ifs
  fields := fds
  methods := ms
  attributes := attrs
def plain (name : String) (sup : Option ClassId) : Class where
  name := name
  kind := .ordinary
  loader := none
  accessFlags := 33
  super := sup
  interfaces := #[]
  cf := none
  fields := #[]
  methods := #[]
  instanceTypes := #[]
  staticTypes := #[]
  resolved := #[]
  callSites := []
  init := .initialized
  statics := none
  mirror := none

def pool0 : Array CpInfo := pool [(5, u "<init>"), (0, u "()V"), (1, .class_ 10), (1, u "java/lang/Object"), (85, u "clone"), (0, u "()Ljava/lang/Object;")] 26

def k0c0 : Code := { maxStack := 0, maxLocals := 1, code := object_method_1_code, exceptionTable := #[], attributes := #[] }
def k0m0 : Method := { name := "<init>", desc := "()V", sig := { parameters := [], returnType := none }, accessFlags := 1, code := some k0c0 }
def k0m1 : Method := { name := "clone", desc := "()Ljava/lang/Object;", sig := { parameters := [], returnType := some (.object "java/lang/Object") }, accessFlags := 260, code := none }
/-- java/lang/Object -/
def k0 : Class := { plain "java/lang/Object" none with
  accessFlags := 33
  interfaces := #[]
  cf := some (fileOf pool0 8 #[] #[{ accessFlags := 1, nameIndex := 5, descriptorIndex := 6, attributes := #[] }, { accessFlags := 260, nameIndex := 96, descriptorIndex := 97, attributes := #[] }] 33 0 #[] #[])
  fields := #[]
  methods := #[k0m0, k0m1]
  instanceTypes := #[]
  staticTypes := #[]
  resolved := Array.replicate 124 none
  statics := none }

def pool1 : Array CpInfo := pool [(2, .class_ 4), (1, u "java/lang/Object"), (0, u "<init>"), (0, u "()V"), (0, .fieldref 8 9), (0, .class_ 10), (0, .nameAndType 11 12), (0, u "com/example/nodecard/nodecard/card/AccessCondition"), (0, u "ALWAYS"), (0, u "Lcom/example/nodecard/nodecard/card/AccessCondition;"), (0, .fieldref 8 14), (0, .nameAndType 15 12), (0, u "PIN1"), (0, .fieldref 8 17), (0, .nameAndType 18 12), (0, u "ADM1"), (0, .fieldref 8 20), (0, .nameAndType 21 12), (0, u "PIN1_OR_ADM1"), (0, .integer 65535), (0, .integer 2147483647), (0, .methodref 25 26), (0, .class_ 27), (0, .nameAndType 28 29), (0, u "com/example/nodecard/nodecard/card/TransparentFileDescriptorPinLaw"), (0, u "pick"), (0, u "(I)Lcom/example/nodecard/nodecard/card/AccessCondition;"), (0, .class_ 31), (0, u "com/example/nodecard/nodecard/card/FileHeader"), (0, .methodref 30 33), (0, .nameAndType 5 34), (0, u "(IILcom/example/nodecard/nodecard/card/AccessCondition;Lcom/example/nodecard/nodecard/card/AccessCondition;)V"), (0, .class_ 36), (0, u "com/example/nodecard/nodecard/card/TransparentFile"), (0, .methodref 35 38), (0, .nameAndType 5 39), (0, u "(Lcom/example/nodecard/nodecard/card/FileHeader;[B)V"), (0, .methodref 35 41), (0, .nameAndType 42 43), (0, u "descriptor"), (0, u "()[B"), (3, u "law"), (0, u "(IIIII)Z")] 4

def k1m0 : Method := { name := "<init>", desc := "()V", sig := { parameters := [], returnType := none }, accessFlags := 1, code := none }
def k1c1 : Code := { maxStack := 2, maxLocals := 1, code := method_2_code, exceptionTable := #[], attributes := #[] }
def k1m1 : Method := { name := "pick", desc := "(I)Lcom/example/nodecard/nodecard/card/AccessCondition;", sig := { parameters := [.int], returnType := some (.object "com/example/nodecard/nodecard/card/AccessCondition") }, accessFlags := 10, code := some k1c1 }
def k1c2 : Code := { maxStack := 6, maxLocals := 17, code := code, exceptionTable := #[], attributes := #[] }
def k1m2 : Method := { name := "law", desc := "(IIIII)Z", sig := { parameters := [.int, .int, .int, .int, .int], returnType := some .boolean }, accessFlags := 9, code := some k1c2 }
/-- com/example/nodecard/nodecard/card/TransparentFileDescriptorPinLaw -/
def k1 : Class := { plain "com/example/nodecard/nodecard/card/TransparentFileDescriptorPinLaw" (some 0) with
  accessFlags := 49
  interfaces := #[]
  cf := some (fileOf pool1 25 #[] #[{ accessFlags := 1, nameIndex := 5, descriptorIndex := 6, attributes := #[] }, { accessFlags := 10, nameIndex := 28, descriptorIndex := 29, attributes := #[] }, { accessFlags := 9, nameIndex := 47, descriptorIndex := 48, attributes := #[] }] 49 2 #[] #[])
  fields := #[]
  methods := #[k1m0, k1m1, k1m2]
  instanceTypes := #[]
  staticTypes := #[]
  resolved := Array.replicate 53 none
  statics := none }

def pool2 : Array CpInfo := pool [(1, .class_ 2), (0, u "java/lang/constant/Constable"), (0, .class_ 4), (0, u "java/lang/Object")] 6

/-- java/lang/constant/Constable -/
def k2 : Class := { plain "java/lang/constant/Constable" (some 0) with
  accessFlags := 1537
  interfaces := #[]
  cf := some (fileOf pool2 1 #[] #[] 1537 3 #[] #[])
  fields := #[]
  methods := #[]
  instanceTypes := #[]
  staticTypes := #[]
  resolved := Array.replicate 11 none
  statics := none }

def pool3 : Array CpInfo := pool [(1, .class_ 2), (0, u "java/lang/Comparable"), (0, .class_ 4), (0, u "java/lang/Object")] 7

/-- java/lang/Comparable -/
def k3 : Class := { plain "java/lang/Comparable" (some 0) with
  accessFlags := 1537
  interfaces := #[]
  cf := some (fileOf pool3 1 #[] #[] 1537 3 #[] #[])
  fields := #[]
  methods := #[]
  instanceTypes := #[]
  staticTypes := #[]
  resolved := Array.replicate 12 none
  statics := none }

def pool4 : Array CpInfo := pool [(1, .class_ 2), (0, u "java/io/Serializable"), (0, .class_ 4), (0, u "java/lang/Object")] 2

/-- java/io/Serializable -/
def k4 : Class := { plain "java/io/Serializable" (some 0) with
  accessFlags := 1537
  interfaces := #[]
  cf := some (fileOf pool4 1 #[] #[] 1537 3 #[] #[])
  fields := #[]
  methods := #[]
  instanceTypes := #[]
  staticTypes := #[]
  resolved := Array.replicate 7 none
  statics := none }

def pool5 : Array CpInfo := pool [(2, .class_ 4), (1, u "java/lang/Enum"), (0, u "name"), (0, u "Ljava/lang/String;"), (2, u "ordinal"), (0, u "I"), (1, .class_ 14), (1, u "java/lang/Object"), (4, u "hash"), (86, .class_ 108), (1, u "java/lang/Enum$EnumDesc"), (2, .class_ 112), (0, u "java/lang/constant/Constable"), (0, .class_ 114), (0, u "java/lang/Comparable"), (0, .class_ 116), (0, u "java/io/Serializable")] 87

/-- java/lang/Enum -/
def k5 : Class := { plain "java/lang/Enum" (some 0) with
  accessFlags := 1057
  interfaces := #[2, 3, 4]
  cf := some (fileOf pool5 2 #[.nestMembers #[106]] #[] 1057 12 #[111, 113, 115] #[{ accessFlags := 18, nameIndex := 5, descriptorIndex := 6, attributes := #[] }, { accessFlags := 18, nameIndex := 9, descriptorIndex := 10, attributes := #[] }, { accessFlags := 2, nameIndex := 19, descriptorIndex := 10, attributes := #[] }])
  fields := #[{ name := "name", type := (.object "java/lang/String"), accessFlags := 18, slot := 0, constantValue := 0 }, { name := "ordinal", type := .int, accessFlags := 18, slot := 1, constantValue := 0 }, { name := "hash", type := .int, accessFlags := 2, slot := 2, constantValue := 0 }]
  methods := #[]
  instanceTypes := #[(.object "java/lang/String"), .int, .int]
  staticTypes := #[]
  resolved := Array.replicate 204 none
  statics := none }

def pool6 : Array CpInfo := pool [(1, .class_ 2), (0, u "com/example/nodecard/nodecard/card/AccessCondition"), (2, u "ALWAYS"), (0, u "Lcom/example/nodecard/nodecard/card/AccessCondition;"), (2, u "PIN1"), (2, u "ADM1"), (2, u "PIN1_OR_ADM1"), (2, u "$VALUES"), (0, u "[Lcom/example/nodecard/nodecard/card/AccessCondition;"), (6, .class_ 28), (1, u "java/lang/Enum"), (8, u "code"), (0, u "I"), (2, u "keys"), (0, u "Ljava/util/Set;")] 111

/-- com/example/nodecard/nodecard/card/AccessCondition -/
def k6 : Class := { plain "com/example/nodecard/nodecard/card/AccessCondition" (some 5) with
  accessFlags := 16432
  interfaces := #[]
  cf := some (fileOf pool6 1 #[] #[] 16432 26 #[] #[{ accessFlags := 16409, nameIndex := 5, descriptorIndex := 6, attributes := #[] }, { accessFlags := 16409, nameIndex := 9, descriptorIndex := 6, attributes := #[] }, { accessFlags := 16409, nameIndex := 12, descriptorIndex := 6, attributes := #[] }, { accessFlags := 16409, nameIndex := 15, descriptorIndex := 6, attributes := #[] }, { accessFlags := 18, nameIndex := 37, descriptorIndex := 38, attributes := #[] }, { accessFlags := 18, nameIndex := 41, descriptorIndex := 42, attributes := #[] }, { accessFlags := 4122, nameIndex := 18, descriptorIndex := 19, attributes := #[] }])
  fields := #[{ name := "ALWAYS", type := (.object "com/example/nodecard/nodecard/card/AccessCondition"), accessFlags := 16409, slot := 0, constantValue := 0 }, { name := "PIN1", type := (.object "com/example/nodecard/nodecard/card/AccessCondition"), accessFlags := 16409, slot := 1, constantValue := 0 }, { name := "ADM1", type := (.object "com/example/nodecard/nodecard/card/AccessCondition"), accessFlags := 16409, slot := 2, constantValue := 0 }, { name := "PIN1_OR_ADM1", type := (.object "com/example/nodecard/nodecard/card/AccessCondition"), accessFlags := 16409, slot := 3, constantValue := 0 }, { name := "code", type := .int, accessFlags := 18, slot := 3, constantValue := 0 }, { name := "keys", type := (.object "java/util/Set"), accessFlags := 18, slot := 4, constantValue := 0 }, { name := "$VALUES", type := (.array (.object "com/example/nodecard/nodecard/card/AccessCondition")), accessFlags := 4122, slot := 4, constantValue := 0 }]
  methods := #[]
  instanceTypes := #[(.object "java/lang/String"), .int, .int, .int, (.object "java/util/Set")]
  staticTypes := #[(.object "com/example/nodecard/nodecard/card/AccessCondition"), (.object "com/example/nodecard/nodecard/card/AccessCondition"), (.object "com/example/nodecard/nodecard/card/AccessCondition"), (.object "com/example/nodecard/nodecard/card/AccessCondition"), (.array (.object "com/example/nodecard/nodecard/card/AccessCondition"))]
  resolved := Array.replicate 154 none
  statics := some 0 }

def pool7 : Array CpInfo := pool [(1, .methodref 2 3), (0, .class_ 4), (0, .nameAndType 5 6), (0, u "java/lang/Object"), (0, u "<init>"), (0, u "()V"), (0, .class_ 8), (0, u "java/lang/Record")] 13

def k7c0 : Code := { maxStack := 1, maxLocals := 1, code := jdk_30_method_1_code, exceptionTable := #[], attributes := #[] }
def k7m0 : Method := { name := "<init>", desc := "()V", sig := { parameters := [], returnType := none }, accessFlags := 4, code := some k7c0 }
/-- java/lang/Record -/
def k7 : Class := { plain "java/lang/Record" (some 0) with
  accessFlags := 1057
  interfaces := #[]
  cf := some (fileOf pool7 7 #[] #[{ accessFlags := 4, nameIndex := 5, descriptorIndex := 6, attributes := #[] }] 1057 2 #[] #[])
  fields := #[]
  methods := #[k7m0]
  instanceTypes := #[]
  staticTypes := #[]
  resolved := Array.replicate 22 none
  statics := none }

def pool8 : Array CpInfo := pool [(1, .methodref 2 3), (0, .class_ 4), (0, .nameAndType 5 6), (0, u "java/lang/Record"), (0, u "<init>"), (0, u "()V"), (0, .integer 65535), (9, .class_ 18), (0, u "com/example/nodecard/nodecard/card/FileHeader"), (1, .fieldref 17 21), (0, .nameAndType 22 23), (0, u "fileId"), (0, u "I"), (0, .fieldref 17 25), (0, .nameAndType 26 23), (0, u "sfi"), (0, .fieldref 17 28), (0, .nameAndType 29 30), (0, u "readCondition"), (0, u "Lcom/example/nodecard/nodecard/card/AccessCondition;"), (0, .fieldref 17 32), (0, .nameAndType 33 30), (0, u "updateCondition"), (12, u "NO_SFI"), (2, u "MAX_SFI"), (1, u "(IILcom/example/nodecard/nodecard/card/AccessCondition;Lcom/example/nodecard/nodecard/card/AccessCondition;)V")] 43

def k8c0 : Code := { maxStack := 3, maxLocals := 5, code := prog_18_method_1_code, exceptionTable := #[], attributes := #[] }
def k8m0 : Method := { name := "<init>", desc := "(IILcom/example/nodecard/nodecard/card/AccessCondition;Lcom/example/nodecard/nodecard/card/AccessCondition;)V", sig := { parameters := [.int, .int, (.object "com/example/nodecard/nodecard/card/AccessCondition"), (.object "com/example/nodecard/nodecard/card/AccessCondition")], returnType := none }, accessFlags := 0, code := some k8c0 }
/-- com/example/nodecard/nodecard/card/FileHeader -/
def k8 : Class := { plain "com/example/nodecard/nodecard/card/FileHeader" (some 7) with
  accessFlags := 48
  interfaces := #[]
  cf := some (fileOf pool8 17 #[] #[{ accessFlags := 0, nameIndex := 5, descriptorIndex := 51, attributes := #[] }] 48 2 #[] #[{ accessFlags := 18, nameIndex := 22, descriptorIndex := 23, attributes := #[] }, { accessFlags := 18, nameIndex := 26, descriptorIndex := 23, attributes := #[] }, { accessFlags := 18, nameIndex := 29, descriptorIndex := 30, attributes := #[] }, { accessFlags := 18, nameIndex := 33, descriptorIndex := 30, attributes := #[] }, { accessFlags := 24, nameIndex := 46, descriptorIndex := 23, attributes := #[] }, { accessFlags := 26, nameIndex := 49, descriptorIndex := 23, attributes := #[] }])
  fields := #[{ name := "fileId", type := .int, accessFlags := 18, slot := 0, constantValue := 0 }, { name := "sfi", type := .int, accessFlags := 18, slot := 1, constantValue := 0 }, { name := "readCondition", type := (.object "com/example/nodecard/nodecard/card/AccessCondition"), accessFlags := 18, slot := 2, constantValue := 0 }, { name := "updateCondition", type := (.object "com/example/nodecard/nodecard/card/AccessCondition"), accessFlags := 18, slot := 3, constantValue := 0 }, { name := "NO_SFI", type := .int, accessFlags := 24, slot := 0, constantValue := 0 }, { name := "MAX_SFI", type := .int, accessFlags := 26, slot := 1, constantValue := 0 }]
  methods := #[k8m0]
  instanceTypes := #[.int, .int, (.object "com/example/nodecard/nodecard/card/AccessCondition"), (.object "com/example/nodecard/nodecard/card/AccessCondition")]
  staticTypes := #[.int, .int]
  resolved := Array.replicate 95 none
  statics := none }

def pool9 : Array CpInfo := pool [(1, .methodref 2 3), (0, .class_ 4), (0, .nameAndType 5 6), (0, u "java/lang/Object"), (0, u "<init>"), (0, u "()V"), (0, .fieldref 8 9), (0, .class_ 10), (0, .nameAndType 11 12), (0, u "com/example/nodecard/nodecard/card/ElementaryFile"), (0, u "header"), (0, u "Lcom/example/nodecard/nodecard/card/FileHeader;"), (14, u "UNUSED"), (0, u "B"), (2, u "(Lcom/example/nodecard/nodecard/card/FileHeader;)V")] 11

def k9c0 : Code := { maxStack := 2, maxLocals := 2, code := prog_16_method_1_code, exceptionTable := #[], attributes := #[] }
def k9m0 : Method := { name := "<init>", desc := "(Lcom/example/nodecard/nodecard/card/FileHeader;)V", sig := { parameters := [(.object "com/example/nodecard/nodecard/card/FileHeader")], returnType := none }, accessFlags := 0, code := some k9c0 }
/-- com/example/nodecard/nodecard/card/ElementaryFile -/
def k9 : Class := { plain "com/example/nodecard/nodecard/card/ElementaryFile" (some 0) with
  accessFlags := 1056
  interfaces := #[]
  cf := some (fileOf pool9 8 #[] #[{ accessFlags := 0, nameIndex := 5, descriptorIndex := 31, attributes := #[] }] 1056 2 #[] #[{ accessFlags := 24, nameIndex := 27, descriptorIndex := 28, attributes := #[] }, { accessFlags := 18, nameIndex := 11, descriptorIndex := 12, attributes := #[] }])
  fields := #[{ name := "UNUSED", type := .byte, accessFlags := 24, slot := 0, constantValue := 0 }, { name := "header", type := (.object "com/example/nodecard/nodecard/card/FileHeader"), accessFlags := 18, slot := 0, constantValue := 0 }]
  methods := #[k9m0]
  instanceTypes := #[(.object "com/example/nodecard/nodecard/card/FileHeader")]
  staticTypes := #[.byte]
  resolved := Array.replicate 43 none
  statics := none }

def pool10 : Array CpInfo := pool [(1, .methodref 2 3), (0, .class_ 4), (0, .nameAndType 5 6), (0, u "com/example/nodecard/nodecard/card/ElementaryFile"), (0, u "<init>"), (0, u "(Lcom/example/nodecard/nodecard/card/FileHeader;)V"), (0, .methodref 8 9), (0, .class_ 10), (0, .nameAndType 11 12), (0, u "com/example/nodecard/nodecard/card/TransparentFile"), (0, u "requireSize"), (0, u "(I)V"), (0, .methodref 14 15), (0, .class_ 16), (0, .nameAndType 17 18), (0, u "[B"), (0, u "clone"), (0, u "()Ljava/lang/Object;"), (0, .fieldref 8 20), (0, .nameAndType 21 16), (0, u "content"), (38, u "(Lcom/example/nodecard/nodecard/card/FileHeader;[B)V"), (7, u "MAX_SIZE"), (0, u "I"), (2, u "DESCRIPTOR"), (10, u "descriptor"), (0, u "()[B")] 23

def k10c0 : Code := { maxStack := 2, maxLocals := 3, code := prog_33_method_1_code, exceptionTable := #[], attributes := #[] }
def k10m0 : Method := { name := "<init>", desc := "(Lcom/example/nodecard/nodecard/card/FileHeader;[B)V", sig := { parameters := [(.object "com/example/nodecard/nodecard/card/FileHeader"), (.array .byte)], returnType := none }, accessFlags := 0, code := some k10c0 }
def k10c1 : Code := { maxStack := 3, maxLocals := 1, code := prog_33_method_3_code, exceptionTable := #[], attributes := #[] }
def k10m1 : Method := { name := "requireSize", desc := "(I)V", sig := { parameters := [.int], returnType := none }, accessFlags := 10, code := some k10c1 }
def k10c2 : Code := { maxStack := 4, maxLocals := 1, code := prog_33_method_5_code, exceptionTable := #[], attributes := #[] }
def k10m2 : Method := { name := "descriptor", desc := "()[B", sig := { parameters := [], returnType := some (.array .byte) }, accessFlags := 0, code := some k10c2 }
/-- com/example/nodecard/nodecard/card/TransparentFile -/
def k10 : Class := { plain "com/example/nodecard/nodecard/card/TransparentFile" (some 9) with
  accessFlags := 48
  interfaces := #[]
  cf := some (fileOf pool10 8 #[] #[{ accessFlags := 0, nameIndex := 5, descriptorIndex := 60, attributes := #[] }, { accessFlags := 10, nameIndex := 11, descriptorIndex := 12, attributes := #[] }, { accessFlags := 0, nameIndex := 83, descriptorIndex := 84, attributes := #[] }] 48 2 #[] #[{ accessFlags := 24, nameIndex := 68, descriptorIndex := 69, attributes := #[] }, { accessFlags := 26, nameIndex := 72, descriptorIndex := 69, attributes := #[] }, { accessFlags := 18, nameIndex := 21, descriptorIndex := 16, attributes := #[] }])
  fields := #[{ name := "MAX_SIZE", type := .int, accessFlags := 24, slot := 0, constantValue := 0 }, { name := "DESCRIPTOR", type := .int, accessFlags := 26, slot := 1, constantValue := 0 }, { name := "content", type := (.array .byte), accessFlags := 18, slot := 1, constantValue := 0 }]
  methods := #[k10m0, k10m1, k10m2]
  instanceTypes := #[(.object "com/example/nodecard/nodecard/card/FileHeader"), (.array .byte)]
  staticTypes := #[.int, .int]
  resolved := Array.replicate 108 none
  statics := none }

def pool11 : Array CpInfo := pool [(1, .class_ 2), (0, u "java/lang/Cloneable"), (0, .class_ 4), (0, u "java/lang/Object")] 2

/-- java/lang/Cloneable -/
def k11 : Class := { plain "java/lang/Cloneable" (some 0) with
  accessFlags := 1537
  interfaces := #[]
  cf := some (fileOf pool11 1 #[] #[] 1537 3 #[] #[])
  fields := #[]
  methods := #[]
  instanceTypes := #[]
  staticTypes := #[]
  resolved := Array.replicate 7 none
  statics := none }

/-- the primitive byte -/
def k12 : Class := { plain "byte" none with kind := .primitive 'B', accessFlags := 0x411 }
/-- [B -/
def k13 : Class := { plain "[B" (some 0) with kind := .array 12 .byte, interfaces := #[11, 4], accessFlags := 1041 }

/-- the primitive int -/
def k14 : Class := { plain "int" none with kind := .primitive 'I', accessFlags := 0x411 }
/-- [I -/
def k15 : Class := { plain "[I" (some 0) with kind := .array 14 .int, interfaces := #[11, 4], accessFlags := 1041 }

def heap : Heap := #[{ cls := 6, slots := #[.ref 1, .ref 2, .ref 3, .ref 4, .null], vm := .statics 6 },
  { cls := 6, slots := #[.null, .int 0, .int 0, .int 0, .null], vm := .none },
  { cls := 6, slots := #[.null, .int 1, .int 0, .int 0, .null], vm := .none },
  { cls := 6, slots := #[.null, .int 2, .int 0, .int 0, .null], vm := .none },
  { cls := 6, slots := #[.null, .int 3, .int 0, .int 0, .null], vm := .none }]
def classes : Array Class := #[k0, k1, k2, k3, k4, k5, k6, k7, k8, k9, k10, k11, k12, k13, k14, k15]
def interned : List (Array UInt16 × Addr) := []
def slotsUsed : Nat := 25
def theMethod : MethodId := ⟨1, 2⟩
def args0 : Array Value := #[.int 5, .int 7, .int 1, .int 2, .int 3]
def aboutOver (below : List Frame) : State where
  vm := { classes := classes, interned := interned.toArray }
  heap := heap
  slotsUsed := slotsUsed
  threads := #[{ frames := .invoking theMethod args0 :: below }]
def below0 : List Frame := [.native { method := ⟨0, 0⟩, args := #[] }]
def about1 : State := aboutOver below0
def p0 : Program := .bare "" "" ""
def e0 : Env := launch0.env 0 0 0
theorem w_frames : about1.frames = Frame.invoking theMethod args0 :: below0 := rfl
set_option maxRecDepth 65536 in
theorem w_args : argsFit about1.vm theMethod args0 = true := by decide +kernel
set_option maxRecDepth 65536 in
theorem w_heap : heapFits about1 = true := by decide +kernel
set_option maxRecDepth 65536 in
theorem w_runnable : about1.curStatus? = some .runnable := by decide +kernel
set_option maxRecDepth 65536 in
theorem w_alone : about1.alone = true := by decide +kernel
set_option maxRecDepth 65536 in
theorem w_named : about1.methodNamed? x = some theMethod := by decide +kernel
set_option maxRecDepth 65536 in
theorem w_hears : about1.hears theMethod below0 = true := by decide +kernel
set_option maxRecDepth 65536 in
theorem w_ripe : about1.ripe theMethod args0 below0 = true := by decide +kernel
theorem w_running : about1.status = .running := rfl
set_option maxRecDepth 65536 in
theorem w_room : about1.hasRoom e0.platform room_1 = true :=
  launch0.hasRoom_least _ room_1 (by decide +kernel) (by decide +kernel) (by decide +kernel) (by decide +kernel) (by decide +kernel) (by decide +kernel)
theorem allAtoms_all (ts : List Jvm.Cond) (a : Array Jvm.Value) (st : Jvm.State) : (allAtoms ts).before a st = ts.all (fun c => c.before a st) := by
  induction ts with
  | nil => rfl
  | cons c t ih =>
    show (Jvm.Cond.and c (allAtoms t)).before a st = _
    rw [Jvm.Cond.before_and, ih, List.all_cons]
def words1 : List Jvm.Cond := Jvm.Cond.code x code maxLocals ret :: tables_1
/-- a 'code' word, met by the world's own term for the bytes: nothing is compared byte by byte -/
theorem code_word {y : MethodName} {bytes : ByteArray} {mx : Nat} {rt : Option FieldType} {a : Array Value} {s : State} {m : MethodId} {meth : Method} {c : Code} (h1 : s.methodNamed? y = some m) (h2 : s.vm.method? m = some meth) (h3 : meth.code = some c) (h4 : c.code = bytes)
    (h5 : (c.maxLocals == mx && c.exceptionTable.isEmpty && decide (c.maxStack ≤ mostOperands) && decide (meth.sig.returnType = rt) && !meth.locks && decide (parseMethodDescriptor y.desc = some meth.sig)) = true) : (Jvm.Cond.code y bytes mx rt).before a s = true := by
  simp only [Bool.and_eq_true, beq_iff_eq, Bool.not_eq_true', decide_eq_true_eq] at h5
  obtain ⟨⟨⟨⟨⟨g1, g2⟩, g3⟩, g4⟩, g5⟩, g6⟩ := h5
  simp [Cond.before, Cond.holds, Cond.value, h1, h2, h3, h4, g1, g2, g3, g4, g5, g6]
def isCode : Jvm.Cond → Bool
  | .code _ _ _ _ => true
  | _ => false
theorem all_split {L : List Jvm.Cond} {P : Jvm.Cond → Bool} (h1 : L.all (fun c => isCode c || P c) = true) (h2 : ∀ c ∈ L.filter isCode, P c = true) : L.all P = true := by
  refine List.all_eq_true.mpr fun c hc => ?_
  have h := List.all_eq_true.mp h1 c hc
  rcases Bool.eq_false_or_eq_true (isCode c) with hi | hi
  · exact h2 c (List.mem_filter.mpr ⟨hc, hi⟩)
  · simpa [hi] using h
set_option maxRecDepth 65536 in
theorem w_c0 : (Jvm.Cond.code x code maxLocals ret).before args0 about1 = true := code_word (m := ⟨1, 2⟩) (meth := k1m2) (c := k1c2) (by decide +kernel) rfl rfl rfl (by decide +kernel)
set_option maxRecDepth 65536 in
theorem w_c1 : (Jvm.Cond.code ({ cls := "com/example/nodecard/nodecard/card/TransparentFileDescriptorPinLaw", name := "pick", desc := "(I)Lcom/example/nodecard/nodecard/card/AccessCondition;" } : Jvm.MethodName) method_2_code (1 : Nat) (Option.some (Jvm.ClassFile.FieldType.object "com/example/nodecard/nodecard/card/AccessCondition"))).before args0 about1 = true := code_word (m := ⟨1, 1⟩) (meth := k1m1) (c := k1c1) (by decide +kernel) rfl rfl rfl (by decide +kernel)
set_option maxRecDepth 65536 in
theorem w_c2 : (Jvm.Cond.code ({ cls := "com/example/nodecard/nodecard/card/FileHeader", name := "<init>", desc := "(IILcom/example/nodecard/nodecard/card/AccessCondition;Lcom/example/nodecard/nodecard/card/AccessCondition;)V" } : Jvm.MethodName) prog_18_method_1_code (5 : Nat) (Option.none : Option Jvm.ClassFile.FieldType)).before args0 about1 = true := code_word (m := ⟨8, 0⟩) (meth := k8m0) (c := k8c0) (by decide +kernel) rfl rfl rfl (by decide +kernel)
set_option maxRecDepth 65536 in
theorem w_c3 : (Jvm.Cond.code ({ cls := "java/lang/Record", name := "<init>", desc := "()V" } : Jvm.MethodName) jdk_30_method_1_code (1 : Nat) (Option.none : Option Jvm.ClassFile.FieldType)).before args0 about1 = true := code_word (m := ⟨7, 0⟩) (meth := k7m0) (c := k7c0) (by decide +kernel) rfl rfl rfl (by decide +kernel)
set_option maxRecDepth 65536 in
theorem w_c4 : (Jvm.Cond.code ({ cls := "java/lang/Object", name := "<init>", desc := "()V" } : Jvm.MethodName) object_method_1_code (1 : Nat) (Option.none : Option Jvm.ClassFile.FieldType)).before args0 about1 = true := code_word (m := ⟨0, 0⟩) (meth := k0m0) (c := k0c0) (by decide +kernel) rfl rfl rfl (by decide +kernel)
set_option maxRecDepth 65536 in
theorem w_c5 : (Jvm.Cond.code ({ cls := "com/example/nodecard/nodecard/card/TransparentFile", name := "<init>", desc := "(Lcom/example/nodecard/nodecard/card/FileHeader;[B)V" } : Jvm.MethodName) prog_33_method_1_code (3 : Nat) (Option.none : Option Jvm.ClassFile.FieldType)).before args0 about1 = true := code_word (m := ⟨10, 0⟩) (meth := k10m0) (c := k10c0) (by decide +kernel) rfl rfl rfl (by decide +kernel)
set_option maxRecDepth 65536 in
theorem w_c6 : (Jvm.Cond.code ({ cls := "com/example/nodecard/nodecard/card/ElementaryFile", name := "<init>", desc := "(Lcom/example/nodecard/nodecard/card/FileHeader;)V" } : Jvm.MethodName) prog_16_method_1_code (2 : Nat) (Option.none : Option Jvm.ClassFile.FieldType)).before args0 about1 = true := code_word (m := ⟨9, 0⟩) (meth := k9m0) (c := k9c0) (by decide +kernel) rfl rfl rfl (by decide +kernel)
set_option maxRecDepth 65536 in
theorem w_c7 : (Jvm.Cond.code ({ cls := "com/example/nodecard/nodecard/card/TransparentFile", name := "requireSize", desc := "(I)V" } : Jvm.MethodName) prog_33_method_3_code (1 : Nat) (Option.none : Option Jvm.ClassFile.FieldType)).before args0 about1 = true := code_word (m := ⟨10, 1⟩) (meth := k10m1) (c := k10c1) (by decide +kernel) rfl rfl rfl (by decide +kernel)
set_option maxRecDepth 65536 in
theorem w_c8 : (Jvm.Cond.code ({ cls := "com/example/nodecard/nodecard/card/TransparentFile", name := "descriptor", desc := "()[B" } : Jvm.MethodName) prog_33_method_5_code (1 : Nat) (Option.some (Jvm.ClassFile.FieldType.array Jvm.ClassFile.FieldType.byte))).before args0 about1 = true := code_word (m := ⟨10, 2⟩) (meth := k10m2) (c := k10c2) (by decide +kernel) rfl rfl rfl (by decide +kernel)
def codes1 : List Jvm.Cond := [Jvm.Cond.code x code maxLocals ret, Jvm.Cond.code ({ cls := "com/example/nodecard/nodecard/card/TransparentFileDescriptorPinLaw", name := "pick", desc := "(I)Lcom/example/nodecard/nodecard/card/AccessCondition;" } : Jvm.MethodName) method_2_code (1 : Nat) (Option.some (Jvm.ClassFile.FieldType.object "com/example/nodecard/nodecard/card/AccessCondition")), Jvm.Cond.code ({ cls := "com/example/nodecard/nodecard/card/FileHeader", name := "<init>", desc := "(IILcom/example/nodecard/nodecard/card/AccessCondition;Lcom/example/nodecard/nodecard/card/AccessCondition;)V" } : Jvm.MethodName) prog_18_method_1_code (5 : Nat) (Option.none : Option Jvm.ClassFile.FieldType), Jvm.Cond.code ({ cls := "java/lang/Record", name := "<init>", desc := "()V" } : Jvm.MethodName) jdk_30_method_1_code (1 : Nat) (Option.none : Option Jvm.ClassFile.FieldType), Jvm.Cond.code ({ cls := "java/lang/Object", name := "<init>", desc := "()V" } : Jvm.MethodName) object_method_1_code (1 : Nat) (Option.none : Option Jvm.ClassFile.FieldType), Jvm.Cond.code ({ cls := "com/example/nodecard/nodecard/card/TransparentFile", name := "<init>", desc := "(Lcom/example/nodecard/nodecard/card/FileHeader;[B)V" } : Jvm.MethodName) prog_33_method_1_code (3 : Nat) (Option.none : Option Jvm.ClassFile.FieldType), Jvm.Cond.code ({ cls := "com/example/nodecard/nodecard/card/ElementaryFile", name := "<init>", desc := "(Lcom/example/nodecard/nodecard/card/FileHeader;)V" } : Jvm.MethodName) prog_16_method_1_code (2 : Nat) (Option.none : Option Jvm.ClassFile.FieldType), Jvm.Cond.code ({ cls := "com/example/nodecard/nodecard/card/TransparentFile", name := "requireSize", desc := "(I)V" } : Jvm.MethodName) prog_33_method_3_code (1 : Nat) (Option.none : Option Jvm.ClassFile.FieldType), Jvm.Cond.code ({ cls := "com/example/nodecard/nodecard/card/TransparentFile", name := "descriptor", desc := "()[B" } : Jvm.MethodName) prog_33_method_5_code (1 : Nat) (Option.some (Jvm.ClassFile.FieldType.array Jvm.ClassFile.FieldType.byte))]
set_option maxRecDepth 65536 in
theorem codes_eq : words1.filter isCode = codes1 := rfl
theorem w_codes : ∀ c ∈ words1.filter isCode, c.before args0 about1 = true := by
  rw [codes_eq]
  intro c hc
  simp only [codes1, List.mem_cons, List.not_mem_nil, or_false] at hc
  rcases hc with rfl | rfl | rfl | rfl | rfl | rfl | rfl | rfl | rfl
  · exact w_c0
  · exact w_c1
  · exact w_c2
  · exact w_c3
  · exact w_c4
  · exact w_c5
  · exact w_c6
  · exact w_c7
  · exact w_c8
set_option maxRecDepth 65536 in
theorem w_t1 : (words1.take 24).all (fun c => isCode c || c.before args0 about1) = true := by decide +kernel
set_option maxRecDepth 65536 in
theorem w_t2 : ((words1.drop 24).take 24).all (fun c => isCode c || c.before args0 about1) = true := by decide +kernel
set_option maxRecDepth 65536 in
theorem w_t3 : (((words1.drop 24).drop 24).take 24).all (fun c => isCode c || c.before args0 about1) = true := by decide +kernel
set_option maxRecDepth 65536 in
theorem w_t4 : (((words1.drop 24).drop 24).drop 24).all (fun c => isCode c || c.before args0 about1) = true := by decide +kernel
theorem w_tables : (allAtoms (Jvm.Cond.code x code maxLocals ret :: tables_1)).before args0 about1 = true := by
  rw [allAtoms_all]
  show words1.all (fun c => c.before args0 about1) = true
  refine all_split ?_ w_codes
  rw [← List.take_append_drop 24 words1, List.all_append, w_t1, ← List.take_append_drop 24 (words1.drop 24), List.all_append, w_t2, ← List.take_append_drop 24 ((words1.drop 24).drop 24), List.all_append, w_t3, w_t4]
  rfl
set_option maxRecDepth 65536 in
theorem w_case : (Jvm.Cond.and given_1 narrow_1).before args0 about1 = true := by decide +kernel
theorem w_applies : (headSpec (Jvm.Cond.code x code maxLocals ret :: tables_1) room_1).applies x e0.platform about1 = true :=
  (Spec.applies_iff w_frames).mpr ⟨w_running, w_runnable, w_alone, w_named, w_hears, w_ripe, w_room, w_tables⟩
theorem atStart : AtStart classFile x code maxLocals ret World_1 tables_1 room_1 Calls_1 rest_1 Pre_1 launch0 p0 e0 about1 theMethod args0 below0 :=
  ⟨lists_1, trivial, launch0.admits_env _ _ _, launch0.least_env, fairChoices_fair.cas, fairChoices_fair.clock, w_frames, w_args, w_heap, w_applies, trivial, trivial, w_case⟩
end start1
theorem witness_1 : WitnessClaimed_1 := ⟨start1.p0, start1.e0, start1.about1, start1.theMethod, start1.args0, start1.below0, start1.atStart⟩
end Jvm.Pilot.@@N@@
