import JvmDerived
import JvmDerived.Pilot.@@N@@Statement
import JvmDerived.Pilot.@@N@@Code
set_option linter.unusedVariables false
set_option linter.unusedSimpArgs false
namespace Jvm.Own
open Sem ClassFile Op Lib Jvm.Stand Jvm.Free Jvm.LawKit Jvm.RoadKit
/-- from here the run goes on to a return that the contract allows -/
def Wk (p : Program) (e : Env) (below : List Frame) (F : Outcome → State → Prop) (T : State) (g : JFrame) : Prop :=
  ∃ s₂ o, Steps p.tables e below (T.setTop g) s₂ ∧ s₂.status = .running ∧ Ended s₂ below o ∧ F o s₂
abbrev FN (s : State) (Q : Option Value → Heap → List Loc → Prop) (kc ks : Nat) : Outcome → State → Prop := fun o s₂ => ∃ v L, o = .returned v ∧ Q v s₂.heap L ∧ FrameEnd s o s₂ L kc ks
section Walk
variable {p : Program} {l : Launch} {e : Env} {R : Room} {s : State} {m : MethodId} {args : Array Value} {below : List Frame} {meth : Method} {c : Code} {T : State} {locs : List Loc} {cells slots : Nat} {Q : Option Value → Heap → List Loc → Prop} {Fe : Outcome → State → Prop} {kc ks pc : Nat} {Ls : Array Slot} {S : List Value} {Z : State} {a0 : Array Value} {h : Heap}
theorem Wk.step {T' : State} {g g' : JFrame} (h : Wk p e below Fe T' g') (st : ∀ t, Steps p.tables e below (T'.setTop g') t → Steps p.tables e below (T.setTop g) t) : Wk p e below Fe T g := by
  obtain ⟨s₂, o, h1, h2⟩ := h
  exact ⟨s₂, o, st _ h1, h2⟩
theorem Wk.come {T' : State} {g g' : JFrame} (h : Wk p e below Fe T' g') (st : Steps p.tables e below (T.setTop g) (T'.setTop g')) : Wk p e below Fe T g := h.step fun _ k => st.trans k
theorem w_iload (X : Stand p l e R s m args below meth c T locs cells slots) (hx : p.tables.exec = Jvm.exec) {k : Nat} (v : Int32) (hd : decode c.code pc = .ok (.iload k, 2)) (pc' : Nat) (hp : pc + 2 = pc') (hl : Ls[k]? = some (.val (.int v))) (h : Wk p e below Fe T (mkF m pc' Ls (.int v :: S))) : Wk p e below Fe T (mkF m pc Ls S) := by
  subst hp; exact h.step fun _ k => XS.iload X.here hx rfl hd hl k
theorem w_iloadN (X : Stand p l e R s m args below meth c T locs cells slots) (hx : p.tables.exec = Jvm.exec) {k : Fin 4} (v : Int32) (hd : decode c.code pc = .ok (.iload_n k, 1)) (pc' : Nat) (hp : pc + 1 = pc') (hl : Ls[k.val]? = some (.val (.int v))) (h : Wk p e below Fe T (mkF m pc' Ls (.int v :: S))) : Wk p e below Fe T (mkF m pc Ls S) := by
  subst hp; exact h.step fun _ k => XS.iloadN X.here hx rfl hd hl k
theorem w_aload (X : Stand p l e R s m args below meth c T locs cells slots) (hx : p.tables.exec = Jvm.exec) {k : Nat} (v : Value) (hd : decode c.code pc = .ok (.aload k, 2)) (pc' : Nat) (hp : pc + 2 = pc') (hl : Ls[k]? = some (.val v)) (hv : v.isRef = true) (h : Wk p e below Fe T (mkF m pc' Ls (v :: S))) : Wk p e below Fe T (mkF m pc Ls S) := by
  subst hp; exact h.step fun _ k => XS.aload X.here hx rfl hd hl hv k
theorem w_aloadN (X : Stand p l e R s m args below meth c T locs cells slots) (hx : p.tables.exec = Jvm.exec) {k : Fin 4} (v : Value) (hd : decode c.code pc = .ok (.aload_n k, 1)) (pc' : Nat) (hp : pc + 1 = pc') (hl : Ls[k.val]? = some (.val v)) (hv : v.isRef = true) (h : Wk p e below Fe T (mkF m pc' Ls (v :: S))) : Wk p e below Fe T (mkF m pc Ls S) := by
  subst hp; exact h.step fun _ k => XS.aloadN X.here hx rfl hd hl hv k
theorem w_istore (X : Stand p l e R s m args below meth c T locs cells slots) (hx : p.tables.exec = Jvm.exec) {k : Nat} {x : Int32} (hd : decode c.code pc = .ok (.istore k, 2)) (pc' : Nat) (hp : pc + 2 = pc') (l' : Array Slot) (hl : storeLocals Ls k (.int x) = some l') (h : Wk p e below Fe T (mkF m pc' l' S)) : Wk p e below Fe T (mkF m pc Ls (.int x :: S)) := by
  subst hp; exact h.step fun _ k => XS.istore X.here hx rfl hd rfl hl k
theorem w_astore (X : Stand p l e R s m args below meth c T locs cells slots) (hx : p.tables.exec = Jvm.exec) {k : Nat} {x : Value} (hd : decode c.code pc = .ok (.astore k, 2)) (pc' : Nat) (hp : pc + 2 = pc') (hv : x.isRef = true) (l' : Array Slot) (hl : storeLocals Ls k x = some l') (h : Wk p e below Fe T (mkF m pc' l' S)) : Wk p e below Fe T (mkF m pc Ls (x :: S)) := by
  subst hp; exact h.step fun _ k => XS.astore X.here hx rfl hd rfl hv hl k
theorem w_iconst (X : Stand p l e R s m args below meth c T locs cells slots) (hx : p.tables.exec = Jvm.exec) {i : Int} (hd : decode c.code pc = .ok (.iconst i, 1)) (pc' : Nat) (hp : pc + 1 = pc') (z : Int32) (hz : Int32.ofInt i = z) (h : Wk p e below Fe T (mkF m pc' Ls (.int z :: S))) : Wk p e below Fe T (mkF m pc Ls S) := by
  subst hp hz; exact h.step fun _ k => XS.iconst X.here hx rfl hd k
theorem w_bipush (X : Stand p l e R s m args below meth c T locs cells slots) (hx : p.tables.exec = Jvm.exec) {i : Int} (hd : decode c.code pc = .ok (.bipush i, 2)) (pc' : Nat) (hp : pc + 2 = pc') (z : Int32) (hz : (Int8.ofInt i).toInt32 = z) (h : Wk p e below Fe T (mkF m pc' Ls (.int z :: S))) : Wk p e below Fe T (mkF m pc Ls S) := by
  subst hp hz; exact h.step fun _ k => XS.bipush X.here hx rfl hd k
theorem w_ldc (X : Stand p l e R s m args below meth c T locs cells slots) (hx : p.tables.exec = Jvm.exec) (hZ : Z.Warmed39 s.vm) {own : String} {index : Nat} {v : Int32} (hown : s.vm.findClass own = some m.cls) (w : (Cond.constant own index v).before a0 Z = true) (hd : decode c.code pc = .ok (.ldc index, 2)) (pc' : Nat) (hp : pc + 2 = pc') (h : Wk p e below Fe T (mkF m pc' Ls (.int v :: S))) : Wk p e below Fe T (mkF m pc Ls S) := by
  subst hp; exact h.step fun _ k => X.ldcInt hx hown (mvT hZ w) (g := mkF m pc Ls S) rfl hd _ k
theorem w_iadd (X : Stand p l e R s m args below meth c T locs cells slots) (hx : p.tables.exec = Jvm.exec) {x y : Int32} (hd : decode c.code pc = .ok (.iadd, 1)) (pc' : Nat) (hp : pc + 1 = pc') {z : Int32} (hz : z = x + y) (h : Wk p e below Fe T (mkF m pc' Ls (.int z :: S))) : Wk p e below Fe T (mkF m pc Ls (.int y :: .int x :: S)) := by
  subst hp hz; exact h.step fun _ k => XS.iadd X.here hx rfl hd rfl k
theorem w_isub (X : Stand p l e R s m args below meth c T locs cells slots) (hx : p.tables.exec = Jvm.exec) {x y : Int32} (hd : decode c.code pc = .ok (.isub, 1)) (pc' : Nat) (hp : pc + 1 = pc') {z : Int32} (hz : z = x - y) (h : Wk p e below Fe T (mkF m pc' Ls (.int z :: S))) : Wk p e below Fe T (mkF m pc Ls (.int y :: .int x :: S)) := by
  subst hp hz; exact h.step fun _ k => XS.isub X.here hx rfl hd rfl k
theorem w_iand (X : Stand p l e R s m args below meth c T locs cells slots) (hx : p.tables.exec = Jvm.exec) {x y : Int32} (hd : decode c.code pc = .ok (.iand, 1)) (pc' : Nat) (hp : pc + 1 = pc') {z : Int32} (hz : z = x &&& y) (h : Wk p e below Fe T (mkF m pc' Ls (.int z :: S))) : Wk p e below Fe T (mkF m pc Ls (.int y :: .int x :: S)) := by
  subst hp hz; exact h.step fun _ k => XS.iand X.here hx rfl hd rfl k
theorem w_irem (X : Stand p l e R s m args below meth c T locs cells slots) (hx : p.tables.exec = Jvm.exec) {x y : Int32} (hd : decode c.code pc = .ok (.irem, 1)) (pc' : Nat) (hp : pc + 1 = pc') (hy : y ≠ 0) {z : Int32} (hz : z = x % y) (h : Wk p e below Fe T (mkF m pc' Ls (.int z :: S))) : Wk p e below Fe T (mkF m pc Ls (.int y :: .int x :: S)) := by
  subst hp hz; exact h.step fun _ k => iremM (g := mkF m pc Ls (.int y :: .int x :: S)) X hx rfl hd rfl hy k
theorem w_i2b (X : Stand p l e R s m args below meth c T locs cells slots) (hx : p.tables.exec = Jvm.exec) {x : Int32} (hd : decode c.code pc = .ok (.i2b, 1)) (pc' : Nat) (hp : pc + 1 = pc') {z : Int32} (hz : z = x.toInt8.toInt32) (h : Wk p e below Fe T (mkF m pc' Ls (.int z :: S))) : Wk p e below Fe T (mkF m pc Ls (.int x :: S)) := by
  subst hp hz; exact h.step fun _ k => XS.i2b X.here hx rfl hd rfl k
theorem w_dup (X : Stand p l e R s m args below meth c T locs cells slots) (hx : p.tables.exec = Jvm.exec) {x : Value} (hd : decode c.code pc = .ok (.dup, 1)) (pc' : Nat) (hp : pc + 1 = pc') (hc : x.category = 1) (h : Wk p e below Fe T (mkF m pc' Ls (x :: x :: S))) : Wk p e below Fe T (mkF m pc Ls (x :: S)) := by
  subst hp; exact h.step fun _ k => XS.dup X.here hx rfl hd rfl hc k
theorem w_goto (X : Stand p l e R s m args below meth c T locs cells slots) (hx : p.tables.exec = Jvm.exec) {o : Int} (hd : decode c.code pc = .ok (.goto o, 3)) (pc' : Nat) (h : Wk p e below Fe T (mkF m pc' Ls S)) (ho : 0 ≤ (pc : Int) + o := by decide) (hp : ((pc : Int) + o).toNat = pc' := by decide) : Wk p e below Fe T (mkF m pc Ls S) := by
  exact h.step fun _ k => XS.goto X.here hx rfl rfl hd ho hp k
theorem holds_eq {x y : Int32} {A B : Int} (ha : x.toInt = A) (hb : y.toInt = B) : ((A = B) → if_icmp.holds .eq x y = true) ∧ ((¬ A = B) → if_icmp.holds .eq x y = false) := by
  subst ha hb
  constructor
  · intro q
    first
    | exact (tlt (x := x) (y := y) (Int32.lt_iff_toInt_lt.mpr (by omega))).1
    | exact (flt (x := x) (y := y) (fun r => by have := Int32.lt_iff_toInt_lt.mp r; omega)).2.1
    | exact (tlt (x := y) (y := x) (Int32.lt_iff_toInt_lt.mpr (by omega))).2.2.1
    | exact (flt (x := y) (y := x) (fun r => by have := Int32.lt_iff_toInt_lt.mp r; omega)).2.2.2
    | exact (teq (x := x) (y := y) (Int32.toInt_inj.mp (by omega))).1
    | exact (feq (x := x) (y := y) (fun r => q (by rw [r]))).2
  · intro q
    first
    | exact (flt (x := x) (y := y) (fun r => by have := Int32.lt_iff_toInt_lt.mp r; omega)).1
    | exact (tlt (x := x) (y := y) (Int32.lt_iff_toInt_lt.mpr (by omega))).2.1
    | exact (flt (x := y) (y := x) (fun r => by have := Int32.lt_iff_toInt_lt.mp r; omega)).2.2.1
    | exact (tlt (x := y) (y := x) (Int32.lt_iff_toInt_lt.mpr (by omega))).2.2.2
    | exact (feq (x := x) (y := y) (fun r => q (by rw [r]))).1
    | exact (teq (x := x) (y := y) (Int32.toInt_inj.mp (by omega))).2
theorem w_if_eq (X : Stand p l e R s m args below meth c T locs cells slots) (hx : p.tables.exec = Jvm.exec) {x : Int32} {o : Int} (A : Int) (ha : x.toInt = A) (hd : decode c.code pc = .ok (.ifCond .eq o, 3)) (pt pn : Nat) (h1 : A = 0 → Wk p e below Fe T (mkF m pt Ls S)) (h2 : ¬ A = 0 → Wk p e below Fe T (mkF m pn Ls S)) (ho : 0 ≤ (pc : Int) + o := by decide) (hp : ((pc : Int) + o).toNat = pt := by decide) (hn : pc + 3 = pn := by rfl) : Wk p e below Fe T (mkF m pc Ls (.int x :: S)) := by
  subst hn
  have hb : (0 : Int32).toInt = 0 := rfl
  by_cases q : A = 0
  · exact (h1 q).step fun _ k => XS.ifYes X.here hx rfl rfl hd rfl ((if0 _ _).trans ((holds_eq ha hb).1 q)) ho hp k
  · have q' : ¬ A = 0 := by omega
    exact (h2 q').step fun _ k => XS.ifNo X.here hx rfl hd rfl ((if0 _ _).trans ((holds_eq ha hb).2 q')) k
theorem holds_ne {x y : Int32} {A B : Int} (ha : x.toInt = A) (hb : y.toInt = B) : ((¬ A = B) → if_icmp.holds .ne x y = true) ∧ ((A = B) → if_icmp.holds .ne x y = false) := by
  subst ha hb
  constructor
  · intro q
    first
    | exact (tlt (x := x) (y := y) (Int32.lt_iff_toInt_lt.mpr (by omega))).1
    | exact (flt (x := x) (y := y) (fun r => by have := Int32.lt_iff_toInt_lt.mp r; omega)).2.1
    | exact (tlt (x := y) (y := x) (Int32.lt_iff_toInt_lt.mpr (by omega))).2.2.1
    | exact (flt (x := y) (y := x) (fun r => by have := Int32.lt_iff_toInt_lt.mp r; omega)).2.2.2
    | exact (teq (x := x) (y := y) (Int32.toInt_inj.mp (by omega))).1
    | exact (feq (x := x) (y := y) (fun r => q (by rw [r]))).2
  · intro q
    first
    | exact (flt (x := x) (y := y) (fun r => by have := Int32.lt_iff_toInt_lt.mp r; omega)).1
    | exact (tlt (x := x) (y := y) (Int32.lt_iff_toInt_lt.mpr (by omega))).2.1
    | exact (flt (x := y) (y := x) (fun r => by have := Int32.lt_iff_toInt_lt.mp r; omega)).2.2.1
    | exact (tlt (x := y) (y := x) (Int32.lt_iff_toInt_lt.mpr (by omega))).2.2.2
    | exact (feq (x := x) (y := y) (fun r => q (by rw [r]))).1
    | exact (teq (x := x) (y := y) (Int32.toInt_inj.mp (by omega))).2
theorem w_icmp_ne (X : Stand p l e R s m args below meth c T locs cells slots) (hx : p.tables.exec = Jvm.exec) {x y : Int32} {o : Int} (A B : Int) (ha : x.toInt = A) (hb : y.toInt = B) (hd : decode c.code pc = .ok (.if_icmp .ne o, 3)) (pt pn : Nat) (h1 : ¬ A = B → Wk p e below Fe T (mkF m pt Ls S)) (h2 : A = B → Wk p e below Fe T (mkF m pn Ls S)) (ho : 0 ≤ (pc : Int) + o := by decide) (hp : ((pc : Int) + o).toNat = pt := by decide) (hn : pc + 3 = pn := by rfl) : Wk p e below Fe T (mkF m pc Ls (.int y :: .int x :: S)) := by
  subst hn
  by_cases q : ¬ A = B
  · exact (h1 q).step fun _ k => XS.icmpYes X.here hx rfl rfl hd rfl ((holds_ne ha hb).1 q) ho hp k
  · have q' : A = B := by omega
    exact (h2 q').step fun _ k => XS.icmpNo X.here hx rfl hd rfl ((holds_ne ha hb).2 q') k
theorem w_if_ne (X : Stand p l e R s m args below meth c T locs cells slots) (hx : p.tables.exec = Jvm.exec) {x : Int32} {o : Int} (A : Int) (ha : x.toInt = A) (hd : decode c.code pc = .ok (.ifCond .ne o, 3)) (pt pn : Nat) (h1 : ¬ A = 0 → Wk p e below Fe T (mkF m pt Ls S)) (h2 : A = 0 → Wk p e below Fe T (mkF m pn Ls S)) (ho : 0 ≤ (pc : Int) + o := by decide) (hp : ((pc : Int) + o).toNat = pt := by decide) (hn : pc + 3 = pn := by rfl) : Wk p e below Fe T (mkF m pc Ls (.int x :: S)) := by
  subst hn
  have hb : (0 : Int32).toInt = 0 := rfl
  by_cases q : ¬ A = 0
  · exact (h1 q).step fun _ k => XS.ifYes X.here hx rfl rfl hd rfl ((if0 _ _).trans ((holds_ne ha hb).1 q)) ho hp k
  · have q' : A = 0 := by omega
    exact (h2 q').step fun _ k => XS.ifNo X.here hx rfl hd rfl ((if0 _ _).trans ((holds_ne ha hb).2 q')) k
theorem holds_lt {x y : Int32} {A B : Int} (ha : x.toInt = A) (hb : y.toInt = B) : ((A < B) → if_icmp.holds .lt x y = true) ∧ ((B ≤ A) → if_icmp.holds .lt x y = false) := by
  subst ha hb
  constructor
  · intro q
    first
    | exact (tlt (x := x) (y := y) (Int32.lt_iff_toInt_lt.mpr (by omega))).1
    | exact (flt (x := x) (y := y) (fun r => by have := Int32.lt_iff_toInt_lt.mp r; omega)).2.1
    | exact (tlt (x := y) (y := x) (Int32.lt_iff_toInt_lt.mpr (by omega))).2.2.1
    | exact (flt (x := y) (y := x) (fun r => by have := Int32.lt_iff_toInt_lt.mp r; omega)).2.2.2
    | exact (teq (x := x) (y := y) (Int32.toInt_inj.mp (by omega))).1
    | exact (feq (x := x) (y := y) (fun r => q (by rw [r]))).2
  · intro q
    first
    | exact (flt (x := x) (y := y) (fun r => by have := Int32.lt_iff_toInt_lt.mp r; omega)).1
    | exact (tlt (x := x) (y := y) (Int32.lt_iff_toInt_lt.mpr (by omega))).2.1
    | exact (flt (x := y) (y := x) (fun r => by have := Int32.lt_iff_toInt_lt.mp r; omega)).2.2.1
    | exact (tlt (x := y) (y := x) (Int32.lt_iff_toInt_lt.mpr (by omega))).2.2.2
    | exact (feq (x := x) (y := y) (fun r => q (by rw [r]))).1
    | exact (teq (x := x) (y := y) (Int32.toInt_inj.mp (by omega))).2
theorem w_icmp_lt (X : Stand p l e R s m args below meth c T locs cells slots) (hx : p.tables.exec = Jvm.exec) {x y : Int32} {o : Int} (A B : Int) (ha : x.toInt = A) (hb : y.toInt = B) (hd : decode c.code pc = .ok (.if_icmp .lt o, 3)) (pt pn : Nat) (h1 : A < B → Wk p e below Fe T (mkF m pt Ls S)) (h2 : B ≤ A → Wk p e below Fe T (mkF m pn Ls S)) (ho : 0 ≤ (pc : Int) + o := by decide) (hp : ((pc : Int) + o).toNat = pt := by decide) (hn : pc + 3 = pn := by rfl) : Wk p e below Fe T (mkF m pc Ls (.int y :: .int x :: S)) := by
  subst hn
  by_cases q : A < B
  · exact (h1 q).step fun _ k => XS.icmpYes X.here hx rfl rfl hd rfl ((holds_lt ha hb).1 q) ho hp k
  · have q' : B ≤ A := by omega
    exact (h2 q').step fun _ k => XS.icmpNo X.here hx rfl hd rfl ((holds_lt ha hb).2 q') k
theorem w_if_lt (X : Stand p l e R s m args below meth c T locs cells slots) (hx : p.tables.exec = Jvm.exec) {x : Int32} {o : Int} (A : Int) (ha : x.toInt = A) (hd : decode c.code pc = .ok (.ifCond .lt o, 3)) (pt pn : Nat) (h1 : A < 0 → Wk p e below Fe T (mkF m pt Ls S)) (h2 : 0 ≤ A → Wk p e below Fe T (mkF m pn Ls S)) (ho : 0 ≤ (pc : Int) + o := by decide) (hp : ((pc : Int) + o).toNat = pt := by decide) (hn : pc + 3 = pn := by rfl) : Wk p e below Fe T (mkF m pc Ls (.int x :: S)) := by
  subst hn
  have hb : (0 : Int32).toInt = 0 := rfl
  by_cases q : A < 0
  · exact (h1 q).step fun _ k => XS.ifYes X.here hx rfl rfl hd rfl ((if0 _ _).trans ((holds_lt ha hb).1 q)) ho hp k
  · have q' : 0 ≤ A := by omega
    exact (h2 q').step fun _ k => XS.ifNo X.here hx rfl hd rfl ((if0 _ _).trans ((holds_lt ha hb).2 q')) k
theorem holds_le {x y : Int32} {A B : Int} (ha : x.toInt = A) (hb : y.toInt = B) : ((A ≤ B) → if_icmp.holds .le x y = true) ∧ ((B < A) → if_icmp.holds .le x y = false) := by
  subst ha hb
  constructor
  · intro q
    first
    | exact (tlt (x := x) (y := y) (Int32.lt_iff_toInt_lt.mpr (by omega))).1
    | exact (flt (x := x) (y := y) (fun r => by have := Int32.lt_iff_toInt_lt.mp r; omega)).2.1
    | exact (tlt (x := y) (y := x) (Int32.lt_iff_toInt_lt.mpr (by omega))).2.2.1
    | exact (flt (x := y) (y := x) (fun r => by have := Int32.lt_iff_toInt_lt.mp r; omega)).2.2.2
    | exact (teq (x := x) (y := y) (Int32.toInt_inj.mp (by omega))).1
    | exact (feq (x := x) (y := y) (fun r => q (by rw [r]))).2
  · intro q
    first
    | exact (flt (x := x) (y := y) (fun r => by have := Int32.lt_iff_toInt_lt.mp r; omega)).1
    | exact (tlt (x := x) (y := y) (Int32.lt_iff_toInt_lt.mpr (by omega))).2.1
    | exact (flt (x := y) (y := x) (fun r => by have := Int32.lt_iff_toInt_lt.mp r; omega)).2.2.1
    | exact (tlt (x := y) (y := x) (Int32.lt_iff_toInt_lt.mpr (by omega))).2.2.2
    | exact (feq (x := x) (y := y) (fun r => q (by rw [r]))).1
    | exact (teq (x := x) (y := y) (Int32.toInt_inj.mp (by omega))).2
theorem w_icmp_le (X : Stand p l e R s m args below meth c T locs cells slots) (hx : p.tables.exec = Jvm.exec) {x y : Int32} {o : Int} (A B : Int) (ha : x.toInt = A) (hb : y.toInt = B) (hd : decode c.code pc = .ok (.if_icmp .le o, 3)) (pt pn : Nat) (h1 : A ≤ B → Wk p e below Fe T (mkF m pt Ls S)) (h2 : B < A → Wk p e below Fe T (mkF m pn Ls S)) (ho : 0 ≤ (pc : Int) + o := by decide) (hp : ((pc : Int) + o).toNat = pt := by decide) (hn : pc + 3 = pn := by rfl) : Wk p e below Fe T (mkF m pc Ls (.int y :: .int x :: S)) := by
  subst hn
  by_cases q : A ≤ B
  · exact (h1 q).step fun _ k => XS.icmpYes X.here hx rfl rfl hd rfl ((holds_le ha hb).1 q) ho hp k
  · have q' : B < A := by omega
    exact (h2 q').step fun _ k => XS.icmpNo X.here hx rfl hd rfl ((holds_le ha hb).2 q') k
theorem w_if_le (X : Stand p l e R s m args below meth c T locs cells slots) (hx : p.tables.exec = Jvm.exec) {x : Int32} {o : Int} (A : Int) (ha : x.toInt = A) (hd : decode c.code pc = .ok (.ifCond .le o, 3)) (pt pn : Nat) (h1 : A ≤ 0 → Wk p e below Fe T (mkF m pt Ls S)) (h2 : 0 < A → Wk p e below Fe T (mkF m pn Ls S)) (ho : 0 ≤ (pc : Int) + o := by decide) (hp : ((pc : Int) + o).toNat = pt := by decide) (hn : pc + 3 = pn := by rfl) : Wk p e below Fe T (mkF m pc Ls (.int x :: S)) := by
  subst hn
  have hb : (0 : Int32).toInt = 0 := rfl
  by_cases q : A ≤ 0
  · exact (h1 q).step fun _ k => XS.ifYes X.here hx rfl rfl hd rfl ((if0 _ _).trans ((holds_le ha hb).1 q)) ho hp k
  · have q' : 0 < A := by omega
    exact (h2 q').step fun _ k => XS.ifNo X.here hx rfl hd rfl ((if0 _ _).trans ((holds_le ha hb).2 q')) k
theorem w_retN (X : Stand p l e R s m args below meth c T locs cells slots) (hx : p.tables.exec = Jvm.exec) (hlocks : meth.locks = false) {t : FieldType} {z : Int32} (hret : meth.sig.returnType = some t) (ht : t = .boolean ∨ t = .byte ∨ t = .char ∨ t = .short) (hd : decode c.code pc = .ok (.ireturn, 1)) (hc : cells ≤ kc) (hs : slots ≤ ks) (hQ : Q (some (.int (nar t z))) T.heap locs) : Wk p e below (FN s Q kc ks) T (mkF m pc Ls (.int z :: S)) := by
  obtain ⟨fs, hr, hrun, hended, hW, hsame⟩ := X.leave (v := some (.int (nar t z))) (fun h => by rw [hret] at h; cases h) hlocks
  exact ⟨_, _, retN X hx hret ht hd hr, hrun, hended, _, _, rfl, hQ, ⟨_, rfl⟩, hW, hsame.mono hc hs⟩
theorem w_ret0 (X : Stand p l e R s m args below meth c T locs cells slots) (hx : p.tables.exec = Jvm.exec) (hlocks : meth.locks = false) (hret : meth.sig.returnType = none) (hd : decode c.code pc = .ok (.return_, 1)) (hc : cells ≤ kc) (hs : slots ≤ ks) (hQ : Q none T.heap locs) : Wk p e below (FN s Q kc ks) T (mkF m pc Ls []) := by
  obtain ⟨fs, hr, hrun, hended, hW, hsame⟩ := X.leave (v := none) (fun _ => rfl) hlocks
  exact ⟨_, _, X.returnOut hx hret hd hr, hrun, hended, _, _, rfl, hQ, ⟨_, rfl⟩, hW, hsame.mono hc hs⟩
theorem w_callS (X : Stand p l e R s m args below meth c T locs cells slots) (hx : p.tables.exec = Jvm.exec) (hZ : Z.Warmed39 s.vm) {own : String} {index : Nat} {y : MethodName} {bytes : ByteArray} {maxL : Nat} {ret : Option FieldType} {rm : Room} {as' : Array Value} {Qc : Option Value → Heap → List Loc → Prop} (hown : s.vm.findClass own = some m.cls) (eT : T.heap = h)
    (hM : MetFree l y (head1 [Cond.code y bytes maxL ret] rm) (fun a U => a = as' ∧ Z.Warmed39 U.vm ∧ U.heap = h) (fun _ _ _ _ _ => True) (fun _ U o U' => ∃ v L, o = .returned v ∧ Qc v U'.heap L ∧ FrameEnd U o U' L rm.cells rm.slots))
    (w1 : (Cond.methodLink own index y).before a0 Z = true) (w2 : (Cond.static y).before a0 Z = true) (w3 : (Cond.initialized y.cls).before a0 Z = true) (w4 : (Cond.code y bytes maxL ret).before a0 Z = true) (hy : y.cls ≠ "java/lang/invoke/MethodHandle" ∧ y.cls ≠ "java/lang/invoke/VarHandle")
    (hsize : Ls.size = c.maxLocals) (argsL rest : List Value) (hlen : ∀ sig, parseMethodDescriptor y.desc = some sig → argsL.length = sig.parameters.length) (hst : S = argsL.reverse ++ rest) (has : argsL.toArray = as')
    (hf : rm.frames + 1 ≤ R.frames) (W : Nat) (hW : (rest.map fun v => v.category).sum = W) (hl : W + (maxL + 11) + rm.locals ≤ R.locals) (hc : cells + rm.cells ≤ R.cells) (hs : slots + rm.slots ≤ R.slots) (hd : decode c.code pc = .ok (.invokestatic index, 3)) (pc' : Nat) (hp : pc + 3 = pc')
    (k : ∀ (v : Option Value) (T' : State) (L : List Loc), Stand p l e R s m args below meth c T' (locs ++ L) (cells + rm.cells) (slots + rm.slots) → Qc v T'.heap L → Wk p e below Fe T' (mkF m pc' Ls (v.toList ++ rest))) : Wk p e below Fe T (mkF m pc Ls S) := by
  subst hp hst has hW
  obtain ⟨v, _, ⟨T', L', k', n'⟩, -, X', ⟨Lc, q1, q2, q3, q4⟩, st⟩ := Jvm.LawKit.callS X hx hown (mvT hZ w1) (mvT hZ w2) (mvT hZ w3) (mvT hZ w4) hy (backOf hM hZ w4 w3 hf hl) (g := mkF m pc Ls (argsL.reverse ++ rest)) rfl hsize hlen rfl (by show 2 * 0 + _ ≤ _; rw [Nat.mul_zero, Nat.zero_add]; exact Nat.le_refl _) hd (fun _ _ => ⟨rfl, eT, hc, hs⟩)
  dsimp only [Pt.U, Pt.locs, Pt.cells, Pt.slots] at X' q2 q3 q4 st q1
  subst q2 q3 q4
  exact (k v T' Lc X' q1).step st
theorem w_init (X : Stand p l e R s m args below meth c T locs cells slots) (hx : p.tables.exec = Jvm.exec) (hZ : Z.Warmed39 s.vm) {own : String} {index : Nat} {y : MethodName} {bytes : ByteArray} {maxL : Nat} {rm : Room} {as' : Array Value} {Qc : Option Value → Heap → List Loc → Prop} (hy1 : y.name = "<init>") (hown : s.vm.findClass own = some m.cls) (eT : T.heap = h)
    (hM : MetFree l y (head1 [Cond.code y bytes maxL none] rm) (fun a U => a = as' ∧ Z.Warmed39 U.vm ∧ U.heap = h) (fun _ _ _ _ _ => True) (fun _ U o U' => ∃ v L, o = .returned v ∧ Qc v U'.heap L ∧ FrameEnd U o U' L rm.cells rm.slots))
    (w1 : (Cond.methodLink own index y).before a0 Z = true) (w2 : (Cond.instanceMethod y).before a0 Z = true) (w3 : (Cond.initialized y.cls).before a0 Z = true) (w4 : (Cond.code y bytes maxL none).before a0 Z = true) (hy : y.cls ≠ "java/lang/invoke/MethodHandle" ∧ y.cls ≠ "java/lang/invoke/VarHandle")
    (hsize : Ls.size = c.maxLocals) (a : Addr) (argsL rest : List Value) (hlen : ∀ sig, parseMethodDescriptor y.desc = some sig → argsL.length = sig.parameters.length) (hst : S = argsL.reverse ++ .ref a :: rest) (has : (Value.ref a :: argsL).toArray = as')
    (hf : rm.frames + 1 ≤ R.frames) (W : Nat) (hW : (rest.map fun v => v.category).sum = W) (hl : W + (maxL + 11) + rm.locals ≤ R.locals) (hc : cells + rm.cells ≤ R.cells) (hs : slots + rm.slots ≤ R.slots) (hd : decode c.code pc = .ok (.invokespecial index, 3)) (pc' : Nat) (hp : pc + 3 = pc')
    (k : ∀ (v : Option Value) (T' : State) (L : List Loc), Stand p l e R s m args below meth c T' (locs ++ L) (cells + rm.cells) (slots + rm.slots) → Qc v T'.heap L → Wk p e below Fe T' (mkF m pc' Ls (v.toList ++ rest))) : Wk p e below Fe T (mkF m pc Ls S) := by
  subst hp hst has hW
  obtain ⟨v, _, ⟨T', L', k', n'⟩, -, X', ⟨Lc, q1, q2, q3, q4⟩, st⟩ := X.specialBack hx hy1 hown (mvT hZ w1) (mvT hZ w2) (mvT hZ w4) hy (backOf hM hZ w4 w3 hf hl) (g := mkF m pc Ls (argsL.reverse ++ .ref a :: rest)) rfl hsize (Steps.refl _) hlen rfl (by show 2 * 0 + _ ≤ _; rw [Nat.mul_zero, Nat.zero_add]; exact Nat.le_refl _) hd (fun _ _ => ⟨rfl, eT, hc, hs⟩)
  dsimp only [Pt.U, Pt.locs, Pt.cells, Pt.slots] at X' q2 q3 q4 st q1
  subst q2 q3 q4
  exact (k v T' Lc X' q1).come st
theorem w_virt (X : Stand p l e R s m args below meth c T locs cells slots) (hx : p.tables.exec = Jvm.exec) (hZ : Z.Warmed39 s.vm) {own : String} {index : Nat} {y : MethodName} {bytes : ByteArray} {maxL : Nat} {ret : Option FieldType} {rm : Room} {as' : Array Value} {Qc : Option Value → Heap → List Loc → Prop} {C : String} {y0 : MethodName} (hown : s.vm.findClass own = some m.cls) (eT : T.heap = h)
    (hM : MetFree l y (head1 [Cond.code y bytes maxL ret] rm) (fun a U => a = as' ∧ Z.Warmed39 U.vm ∧ U.heap = h) (fun _ _ _ _ _ => True) (fun _ U o U' => ∃ v L, o = .returned v ∧ Qc v U'.heap L ∧ FrameEnd U o U' L rm.cells rm.slots))
    (w1 : (Cond.methodLink own index y0).before a0 Z = true) (w2 : (Cond.declares y0).before a0 Z = true) (nf : NotFace s y0) (w5 : (Cond.selects C y0 y).before a0 Z = true) (w6 : (Cond.instanceMethod y).before a0 Z = true) (w3 : (Cond.initialized y.cls).before a0 Z = true) (w4 : (Cond.code y bytes maxL ret).before a0 Z = true) (hy : y0.cls ≠ "java/lang/invoke/MethodHandle" ∧ y0.cls ≠ "java/lang/invoke/VarHandle")
    (a : Addr) (E : Exa Z h a C)
    (hsize : Ls.size = c.maxLocals) (argsL rest : List Value) (hlen : ∀ sig, parseMethodDescriptor y0.desc = some sig → argsL.length = sig.parameters.length) (hst : S = argsL.reverse ++ .ref a :: rest) (has : (Value.ref a :: argsL).toArray = as')
    (hf : rm.frames + 1 ≤ R.frames) (W : Nat) (hW : (rest.map fun v => v.category).sum = W) (hl : W + (maxL + 11) + rm.locals ≤ R.locals) (hc : cells + rm.cells ≤ R.cells) (hs : slots + rm.slots ≤ R.slots) (hd : decode c.code pc = .ok (.invokevirtual index, 3)) (pc' : Nat) (hp : pc + 3 = pc')
    (k : ∀ (v : Option Value) (T' : State) (L : List Loc), Stand p l e R s m args below meth c T' (locs ++ L) (cells + rm.cells) (slots + rm.slots) → Qc v T'.heap L → Wk p e below Fe T' (mkF m pc' Ls (v.toList ++ rest))) : Wk p e below Fe T (mkF m pc Ls S) := by
  subst hp hst has hW
  obtain ⟨cq, kq, qa, qb, qc⟩ := isOf hZ eT E
  obtain ⟨v, _, ⟨T', L', k', n'⟩, -, X', ⟨Lc, q1, q2, q3, q4⟩, st⟩ := X.virtualBack hx hown (mvT hZ w1) (mvT hZ w2) nf (mvT hZ w5) (mvT hZ w6) hy (backOf hM hZ w4 w3 hf hl) qa qc (g := mkF m pc Ls (argsL.reverse ++ .ref a :: rest)) rfl hsize (Steps.refl _) hlen rfl (by show 2 * 0 + _ ≤ _; rw [Nat.mul_zero, Nat.zero_add]; exact Nat.le_refl _) hd (fun _ _ => ⟨rfl, eT, hc, hs⟩)
  dsimp only [Pt.U, Pt.locs, Pt.cells, Pt.slots] at X' q2 q3 q4 st q1
  subst q2 q3 q4
  exact (k v T' Lc X' q1).come st
theorem w_objinit (X : Stand p l e R s m args below meth c T locs cells slots) (hx : p.tables.exec = Jvm.exec) (hZ : Z.Warmed39 s.vm) {own : String} {idx : Nat} (hown : s.vm.findClass own = some m.cls) (eT : T.heap = h) (w1 : (Cond.methodLink own idx Lib.objectInit).before a0 Z = true) (w2 : (Cond.instanceMethod Lib.objectInit).before a0 Z = true) (w3 : (Cond.code Lib.objectInit ⟨#[0xb1]⟩ 1 none).before a0 Z = true)
    (hsize : Ls.size = c.maxLocals) {a : Addr} (hf : 1 ≤ R.frames) (W : Nat) (hW : (S.map fun v => v.category).sum = W) (hl : W + 12 ≤ R.locals) (hd : decode c.code pc = .ok (.invokespecial idx, 3)) (pc' : Nat) (hp : pc + 3 = pc')
    (k : ∀ T' : State, Stand p l e R s m args below meth c T' locs cells slots → T'.heap = h → Wk p e below Fe T' (mkF m pc' Ls S)) : Wk p e below Fe T (mkF m pc Ls (.ref a :: S)) := by
  subst hp hW
  obtain ⟨T', X', e', st⟩ := initO X hx hZ hown w1 w2 w3 eT (g := mkF m pc Ls (.ref a :: S)) rfl hsize rfl hd hf (by show 2 * 0 + _ ≤ _; rw [Nat.mul_zero, Nat.zero_add]; exact Nat.le_refl _) hl
  exact (k T' X' e').step st
theorem w_getF (X : Stand p l e R s m args below meth c T locs cells slots) (hx : p.tables.exec = Jvm.exec) (hZ : Z.Warmed39 s.vm) {own R0 O n d host : String} {index : Nat} (hown : s.vm.findClass own = some m.cls) (eT : T.heap = h) (w : (Cond.fieldLink own index R0 n d).before a0 Z = true ∨ (Cond.fieldLinkNest own index R0 n d host).before a0 Z = true) (via : Via Z R0 O n d)
    {a : Addr} {v : Value} (F : Fld Z h a O n d v) (hd : decode c.code pc = .ok (.getfield index, 3)) (pc' : Nat) (hp : pc + 3 = pc')
    (k : ∀ T' : State, Stand p l e R s m args below meth c T' locs cells slots → T'.heap = h → Wk p e below Fe T' (mkF m pc' Ls (v :: S))) : Wk p e below Fe T (mkF m pc Ls (.ref a :: S)) := by
  subst hp
  obtain ⟨T', X', e', st⟩ := getF X hx hZ hown w via eT F (g := mkF m pc Ls (.ref a :: S)) rfl rfl hd
  exact (k T' X' e').step st
theorem w_putF (X : Stand p l e R s m args below meth c T locs cells slots) (hx : p.tables.exec = Jvm.exec) (hZ : Z.Warmed39 s.vm) {own R0 O n d host C : String} {index kk : Nat} {ty : FieldType} (hown : s.vm.findClass own = some m.cls) (eT : T.heap = h) (w : (Cond.fieldLink own index R0 n d).before a0 Z = true ∨ (Cond.fieldLinkNest own index R0 n d host).before a0 Z = true) (via : Via Z R0 O n d)
    {a : Addr} {v old : Value} (F : Fld Z h a O n d old) (E : Exa Z h a C) (L : (Cond.lays C O n d).before a0 Z = true ∨ ((Cond.laysFinal C O n d).before a0 Z = true ∧ own = O ∧ meth.name = "<init>")) (wi : (Cond.instantiable C kk).before a0 Z = true)
    (hty : parseFieldDescriptor d = some ty) (hn : narrow ty v = v) (hf : fits ty v = true) (hd : decode c.code pc = .ok (.putfield index, 3)) (pc' : Nat) (hp : pc + 3 = pc')
    (k : ∀ (T' : State) (h' : Heap), Stand p l e R s m args below meth c T' (locs ++ [⟨a, Jvm.RoadKit.slotOf Z O n d⟩]) cells slots → T'.heap = h' → Wr h h' a (Jvm.RoadKit.slotOf Z O n d) v → Wk p e below Fe T' (mkF m pc' Ls S)) : Wk p e below Fe T (mkF m pc Ls (v :: .ref a :: S)) := by
  subst hp
  obtain ⟨T', h', X', e', W', st⟩ := putF X hx hZ hown w via eT F E L wi hty hn hf (g := mkF m pc Ls (v :: .ref a :: S)) rfl rfl hd
  exact (k T' h' X' e' W').step st
theorem w_new (X : Stand p l e R s m args below meth c T locs cells slots) (hx : p.tables.exec = Jvm.exec) (hZ : Z.Warmed39 s.vm) {own C : String} {index n : Nat} (hown : s.vm.findClass own = some m.cls) (eT : T.heap = h) (w : (Cond.classLink own index C).before a0 Z = true) (wi : (Cond.instantiable C n).before a0 Z = true) (wz : (Cond.initialized C).before a0 Z = true)
    (hc : cells + 1 ≤ R.cells) (hl : slots + n ≤ R.slots) (hd : decode c.code pc = .ok (.new index, 3)) (pc' : Nat) (hp : pc + 3 = pc')
    (k : ∀ (T' : State) (h' : Heap) (a : Addr), Stand p l e R s m args below meth c T' locs (cells + 1) (slots + n) → T'.heap = h' → a = h.size → Ext h h' → Exa Z h' a C → (∀ {O nm d : String} {ty : FieldType}, Laid Z a0 C O nm d → parseFieldDescriptor d = some ty → Fld Z h' a O nm d (defaultValue ty)) → Wk p e below Fe T' (mkF m pc' Ls (.ref a :: S))) : Wk p e below Fe T (mkF m pc Ls S) := by
  subst hp
  obtain ⟨T', h', X', e', E', A', D', -, st⟩ := newO X hx hZ hown w wi wz eT (g := mkF m pc Ls S) rfl hd hc hl
  exact (k T' h' _ X' e' rfl E' A' D').step st
theorem w_length (X : Stand p l e R s m args below meth c T locs cells slots) (hx : p.tables.exec = Jvm.exec) (hZ : Z.Warmed39 s.vm) (eT : T.heap = h) {a : Addr} {kA : ClassId} {ty : FieldType} {z : Int32} {vs : List Value} {dv : Value} (A : Arv Z h a kA ty z vs dv) (hd : decode c.code pc = .ok (.arraylength, 1)) (pc' : Nat) (hp : pc + 1 = pc')
    (k : Wk p e below Fe T (mkF m pc' Ls (.int z :: S))) : Wk p e below Fe T (mkF m pc Ls (.ref a :: S)) := by
  subst hp
  obtain ⟨cl, Ar, -, Sz, Nz, -, -⟩ := A
  refine k.step fun t q => X.arraylength hx (by rw [eT]; exact Ar.1) (State.isArrayOf_alike hZ.alike Ar.2.1) (g := mkF m pc Ls (.ref a :: S)) rfl rfl hd t ?_
  rw [len_of Sz Nz]; exact q
theorem w_bastore (X : Stand p l e R s m args below meth c T locs cells slots) (hx : p.tables.exec = Jvm.exec) (hZ : Z.Warmed39 s.vm) (eT : T.heap = h) {a : Addr} {kA : ClassId} {z : Int32} {vs : List Value} {dv : Value} (A : Arv Z h a kA .byte z vs dv) {j x : Int32} (hj : 0 ≤ j.toInt ∧ j.toInt < z.toInt) (i : Nat) (hi : j.toNatClampNeg = i) (hv : i < vs.length) (hd : decode c.code pc = .ok (.bastore, 1)) (pc' : Nat) (hp : pc + 1 = pc')
    (k : ∀ (T' : State) (h' : Heap), Stand p l e R s m args below meth c T' (locs ++ [⟨a, j.toNatClampNeg⟩]) cells slots → T'.heap = h' → Wr h h' a j.toNatClampNeg (.int x.toInt8.toInt32) → Arv Z h' a kA .byte z (vs.set i (.int x.toInt8.toInt32)) dv → Wk p e below Fe T' (mkF m pc' Ls S)) : Wk p e below Fe T (mkF m pc Ls (.int x :: .int j :: .ref a :: S)) := by
  subst hp
  obtain ⟨cl, Ar, q, Sz, Nz, H, G⟩ := A
  have hin : ¬ (j < 0 ∨ cl.slots.size ≤ j.toNatClampNeg) := inb_of Sz ⟨fun r => by have := Int32.lt_iff_toInt_lt.mp r; have h0 : (0 : Int32).toInt = 0 := rfl; omega, Int32.lt_iff_toInt_lt.mpr hj.2⟩
  obtain ⟨T', h', X', e', W', st⟩ := stB X hx hZ eT Ar hin (g := mkF m pc Ls (.int x :: .int j :: .ref a :: S)) rfl rfl hd
  exact (k T' h' X' e' W' (Arv.set Ar q Sz Nz H G (fits_nar_byte _) W' i hi hv)).step st
theorem w_newPE (X : Stand p l e R s m args below meth c T locs cells slots) (hx : p.tables.exec = Jvm.exec) (hZ : Z.Warmed39 s.vm) (eT : T.heap = h) {aty : ArrayType} (w : (Cond.arrayClass (newarray.typeOf aty)).before a0 Z = true) {n : Int32} (hn : ¬ n < 0) (cap : Nat) (hcap : n.toNatClampNeg ≤ cap) (hb : cap * 8 ≤ 536870912) (hc : cells + 1 ≤ R.cells) (hl : slots + cap ≤ R.slots) (ad : String) (had : "[" ++ (newarray.typeOf aty).toString = ad) (hd : decode c.code pc = .ok (.newarray aty, 2)) (pc' : Nat) (hp : pc + 2 = pc')
    (k : ∀ (T' : State) (h' : Heap) (a : Addr) (cA : ClassId), Stand p l e R s m args below meth c T' locs (cells + 1) (slots + cap) → T'.heap = h' → a = h.size → Ext h h' → Arv Z h' a cA (newarray.typeOf aty) n [] (defaultValue (newarray.typeOf aty)) → Exa Z h' a ad → Wk p e below Fe T' (mkF m pc' Ls (.ref a :: S))) : Wk p e below Fe T (mkF m pc Ls (.int n :: S)) := by
  subst hp
  obtain ⟨T', h', cA, X', e', E', A', Ex, st⟩ := newPE X hx hZ w eT (g := mkF m pc Ls (.int n :: S)) rfl hd rfl hn hcap hb hc hl had
  exact (k T' h' _ cA X' e' rfl E' (Arv.new A' hn) Ex).step st
theorem w_clone (X : Stand p l e R s m args below meth c T locs cells slots) (hx : p.tables.exec = Jvm.exec) (hZ : Z.Warmed39 s.vm) {own ad : String} {index : Nat} (hown : s.vm.findClass own = some m.cls) (eT : T.heap = h)
    (w1 : (Cond.methodLink own index ⟨ad, "clone", "()Ljava/lang/Object;"⟩).before a0 Z = true) (w2 : (Cond.sameMethod ad "java/lang/Object" "clone" "()Ljava/lang/Object;").before a0 Z = true) (w3 : (Cond.native ⟨"java/lang/Object", "clone", "()Ljava/lang/Object;"⟩).before a0 Z = true)
    (w4 : (Cond.instanceMethod ⟨"java/lang/Object", "clone", "()Ljava/lang/Object;"⟩).before a0 Z = true) (w5 : (Cond.selects ad ⟨ad, "clone", "()Ljava/lang/Object;"⟩ ⟨"java/lang/Object", "clone", "()Ljava/lang/Object;"⟩).before a0 Z = true) (w6 : (Cond.castable ad "java/lang/Cloneable").before a0 Z = true)
    {a : Addr} {kA : ClassId} {ty : FieldType} {z : Int32} {vs : List Value} {dv : Value} (F : Arv Z h a kA ty z vs dv) (E : Exa Z h a ad) (hsize : Ls.size = c.maxLocals) (hf : 1 ≤ R.frames) (W : Nat) (hW : (S.map fun v => v.category).sum = W) (hl : W + 14 ≤ R.locals) (cap : Nat) (hcap : z.toNatClampNeg ≤ cap) (hc : cells + 1 ≤ R.cells) (hsl : slots + cap ≤ R.slots)
    (hd : decode c.code pc = .ok (.invokevirtual index, 3)) (pc' : Nat) (hp : pc + 3 = pc')
    (k : ∀ (T' : State) (h' : Heap) (b : Addr), Stand p l e R s m args below meth c T' locs (cells + 1) (slots + cap) → T'.heap = h' → b = h.size → Ext h h' → Arv Z h' b kA ty z vs dv → Exa Z h' b ad → Wk p e below Fe T' (mkF m pc' Ls (.ref b :: S))) : Wk p e below Fe T (mkF m pc Ls (.ref a :: S)) := by
  subst hp hW
  obtain ⟨T', h', X', e', E', A', Ex, st⟩ := cloneH X hx hZ hown w1 w2 w3 w4 w5 w6 eT F.arh E (g := mkF m pc Ls (.ref a :: S)) rfl hsize rfl hd hf (by show 2 * 0 + _ ≤ _; rw [Nat.mul_zero, Nat.zero_add]; exact Nat.le_refl _) hl hcap hc hsl
  exact (k T' h' _ X' e' rfl E' A' Ex).step st
theorem w_cast (X : Stand p l e R s m args below meth c T locs cells slots) (hx : p.tables.exec = Jvm.exec) (hZ : Z.Warmed39 s.vm) {own K : String} {index : Nat} (hown : s.vm.findClass own = some m.cls) (eT : T.heap = h) (w : (Cond.classLink own index K).before a0 Z = true) {a : Addr} (F : Ins Z h a K true) (hd : decode c.code pc = .ok (.checkcast index, 3)) (pc' : Nat) (hp : pc + 3 = pc')
    (k : ∀ T' : State, Stand p l e R s m args below meth c T' locs cells slots → T'.heap = h → Wk p e below Fe T' (mkF m pc' Ls (.ref a :: S))) : Wk p e below Fe T (mkF m pc Ls (.ref a :: S)) := by
  subst hp
  obtain ⟨T', X', e', st⟩ := castY X hx hZ hown w eT F (g := mkF m pc Ls (.ref a :: S)) rfl rfl hd
  exact (k T' X' e').step st
abbrev CT (l : Launch) (y : MethodName) (bytes : ByteArray) (maxL : Nat) (ret : Option FieldType) (ws : List Cond) (rm : Room) (as' : Array Value) (Z : State) (h0 : Heap) (Q : Option Value → Heap → List Loc → Prop) : Prop :=
  MetFree l y (head1 (Cond.code y bytes maxL ret :: ws) rm) (fun a U => a = as' ∧ Z.Warmed39 U.vm ∧ U.heap = h0) (fun _ _ _ _ _ => True) (fun _ U o U' => ∃ v L, o = .returned v ∧ Q v U'.heap L ∧ FrameEnd U o U' L rm.cells rm.slots)
theorem body_of {y : MethodName} {bytes : ByteArray} {maxL : Nat} {ret : Option FieldType} {ws : List Cond} {rm : Room} {as' : Array Value} {h0 : Heap} (hpl : plainFor y = true)
    (k : ∀ (p : Program) (e : Env) (s : State) (m : MethodId) (below : List Frame) (meth : Method) (c : Code) (s₁ : State), p.tables.exec = Jvm.exec → (∀ {pc : Nat} {r : Except DecodeError (Instr × Nat)}, decode bytes pc = r → decode c.code pc = r) → meth.sig.returnType = ret → meth.locks = false → c.maxLocals = maxL → s.vm.findClass y.cls = some m.cls → meth.name = y.name → Stand p l e rm s m as' below meth c s₁ [] 0 0 → s₁.heap = h0 → Z.Warmed39 s.vm → Wk p e below (FN s Q kc ks) s₁ (entryFrame m as' maxL)) :
    MetFree l y (head1 (Cond.code y bytes maxL ret :: ws) rm) (fun a U => a = as' ∧ Z.Warmed39 U.vm ∧ U.heap = h0) (fun _ _ _ _ _ => True) (fun _ U o U' => ∃ v L, o = .returned v ∧ Q v U'.heap L ∧ FrameEnd U o U' L kc ks) := by
  refine MetFree.of_bodySF hpl hisR ?_
  intro p e s m args below meth c s₁ Bd hml0 hP hK
  obtain ⟨rfl, hZ, hh⟩ := hP
  obtain ⟨s₂, o, h1, h2⟩ := k p e s m below meth c s₁ Bd.exec (fun q => hb Bd.bytes q) Bd.returns Bd.notSynchronized hml0 (findClass_of_methodNamed Bd.named) (name_of_methodNamed Bd.named Bd.method).1 (Stand.of_body Bd) (by rw [← hh, Bd.state]; rfl) hZ
  exact ⟨s₂, o, h1, h2⟩
theorem ne_arv {a b : Addr} {C : String} {k : Nat} {kA : ClassId} {ty : FieldType} {z : Int32} {vs : List Value} {dv : Value} (F : Exa Z h a C) (wi : (Cond.instantiable C k).before a0 Z = true) (G : Arv Z h b kA ty z vs dv) : a ≠ b := by
  obtain ⟨c, A, -⟩ := G; exact ne_arr F wi A
end Walk
/-! plain facts on Int32 and Int64, in Ints -/
theorem eqI {x y : Int32} (h : x.toInt = y.toInt) : x = y := Int32.toInt_inj.mp h
theorem addX {x y : Int32} {A B : Int} (ha : x.toInt = A) (hb : y.toInt = B) (h1 : -2147483648 ≤ A + B) (h2 : A + B < 2147483648) : (x + y).toInt = A + B := by
  have := c_iadd x y; have := rng32 (x + y); omega
theorem subX {x y : Int32} {A B : Int} (ha : x.toInt = A) (hb : y.toInt = B) (h1 : -2147483648 ≤ A - B) (h2 : A - B < 2147483648) : (x - y).toInt = A - B := by
  have := c_isub x y; have := rng32 (x - y); omega
theorem maskX {x m : Int32} {A : Int} (k : Nat) (ha : x.toInt = A) (hk : k ≤ 31) (hm : m.toBitVec.toNat = 2 ^ k - 1) : (x &&& m).toInt = A % (2 ^ k : Nat) := by subst ha; exact c_mask x m k hk hm
theorem iremX {x y : Int32} {A d : Int} (ha : x.toInt = A) (hy : y.toInt = d) (h0 : 0 ≤ A) : (x % y).toInt = A % d := by subst ha; exact (c_irem x y d hy).1 h0
theorem i2bX {x : Int32} {A : Int} (ha : x.toInt = A) : (x.toInt8.toInt32.toInt - A) % 256 = 0 ∧ -128 ≤ x.toInt8.toInt32.toInt ∧ x.toInt8.toInt32.toInt < 128 := by
  subst ha; exact c_i2b x
theorem byteE {x : Int32} {A : Int} (ha : x.toInt = A) (h0 : -128 ≤ A) (h1 : A < 128) : x.toInt8.toInt32.toInt = x.toInt := by
  have := c_i2b x; omega
theorem iremB {x y : Int32} {A B : Int} (ha : x.toInt = A) (hb : y.toInt = B) (h0 : 0 ≤ A) (h1 : 0 < B) : 0 ≤ (x % y).toInt ∧ (x % y).toInt < B := by
  have := (c_iremV x y).1 (by omega) (by omega); omega
theorem clampN {x : Int32} {A : Int} (ha : x.toInt = A) (h : 0 ≤ A) : (x.toNatClampNeg : Int) = A := by
  simp only [Int32.toNatClampNeg]; omega
theorem neI {x : Int32} {A : Int} (ha : x.toInt = A) (h : A ≠ 0) : x ≠ 0 := fun q => h (by rw [← ha, q]; rfl)
theorem nlt0 {x : Int32} {A : Int} (ha : x.toInt = A) (h : 0 ≤ A) : ¬ x < 0 := fun r => by have := Int32.lt_iff_toInt_lt.mp r; have h0 : (0 : Int32).toInt = 0 := rfl; omega
end Jvm.Own
namespace Jvm.Pilot.@@N@@
open Jvm Jvm.ClassFile Sem Op Lib Jvm.Free Jvm.Stand Jvm.LawKit Jvm.RoadKit Bundle Jvm.Own Jvm.Pilot.@@N@@.Jvm.D
abbrev cN_0 : String := "com/example/nodecard/nodecard/card/Pin"
abbrev cN_1 : String := "com/example/nodecard/nodecard/card/PinBlockedPinLaw"
theorem tw_0 {Z : State} {a0 : Array Value} (hw : ∀ d ∈ tables_1, d.before a0 Z = true) : (Jvm.Cond.constant "com/example/nodecard/nodecard/card/PinBlockedPinLaw" (7 : Nat) (2147483647 : Int32)).before a0 Z = true := hw _ (List.mem_of_getElem? (i := 0) rfl)
theorem tw_1 {Z : State} {a0 : Array Value} (hw : ∀ d ∈ tables_1, d.before a0 Z = true) : (Jvm.Cond.arrayClass Jvm.ClassFile.FieldType.byte).before a0 Z = true := hw _ (List.mem_of_getElem? (i := 1) rfl)
theorem tw_2 {Z : State} {a0 : Array Value} (hw : ∀ d ∈ tables_1, d.before a0 Z = true) : (Jvm.Cond.classLink "com/example/nodecard/nodecard/card/PinBlockedPinLaw" (8 : Nat) "com/example/nodecard/nodecard/card/Pin").before a0 Z = true := hw _ (List.mem_of_getElem? (i := 2) rfl)
theorem tw_3 {Z : State} {a0 : Array Value} (hw : ∀ d ∈ tables_1, d.before a0 Z = true) : (Jvm.Cond.instantiable "com/example/nodecard/nodecard/card/Pin" (4 : Nat)).before a0 Z = true := hw _ (List.mem_of_getElem? (i := 3) rfl)
theorem tw_4 {Z : State} {a0 : Array Value} (hw : ∀ d ∈ tables_1, d.before a0 Z = true) : (Jvm.Cond.initialized "com/example/nodecard/nodecard/card/Pin").before a0 Z = true := hw _ (List.mem_of_getElem? (i := 4) rfl)
theorem tw_5 {Z : State} {a0 : Array Value} (hw : ∀ d ∈ tables_1, d.before a0 Z = true) : (Jvm.Cond.methodLink "com/example/nodecard/nodecard/card/PinBlockedPinLaw" (10 : Nat) ({ cls := "com/example/nodecard/nodecard/card/Pin", name := "<init>", desc := "(I[BII)V" } : Jvm.MethodName)).before a0 Z = true := hw _ (List.mem_of_getElem? (i := 5) rfl)
theorem tw_6 {Z : State} {a0 : Array Value} (hw : ∀ d ∈ tables_1, d.before a0 Z = true) : (Jvm.Cond.instanceMethod ({ cls := "com/example/nodecard/nodecard/card/Pin", name := "<init>", desc := "(I[BII)V" } : Jvm.MethodName)).before a0 Z = true := hw _ (List.mem_of_getElem? (i := 6) rfl)
theorem tw_7 {Z : State} {a0 : Array Value} (hw : ∀ d ∈ tables_1, d.before a0 Z = true) : (Jvm.Cond.code ({ cls := "com/example/nodecard/nodecard/card/Pin", name := "<init>", desc := "(I[BII)V" } : Jvm.MethodName) prog_29_method_1_code (5 : Nat) (Option.none : Option Jvm.ClassFile.FieldType)).before a0 Z = true := hw _ (List.mem_of_getElem? (i := 7) rfl)
theorem tw_8 {Z : State} {a0 : Array Value} (hw : ∀ d ∈ tables_1, d.before a0 Z = true) : (Jvm.Cond.methodLink "com/example/nodecard/nodecard/card/Pin" (1 : Nat) ({ cls := "java/lang/Object", name := "<init>", desc := "()V" } : Jvm.MethodName)).before a0 Z = true := hw _ (List.mem_of_getElem? (i := 8) rfl)
theorem tw_9 {Z : State} {a0 : Array Value} (hw : ∀ d ∈ tables_1, d.before a0 Z = true) : (Jvm.Cond.instanceMethod ({ cls := "java/lang/Object", name := "<init>", desc := "()V" } : Jvm.MethodName)).before a0 Z = true := hw _ (List.mem_of_getElem? (i := 9) rfl)
theorem tw_10 {Z : State} {a0 : Array Value} (hw : ∀ d ∈ tables_1, d.before a0 Z = true) : (Jvm.Cond.code ({ cls := "java/lang/Object", name := "<init>", desc := "()V" } : Jvm.MethodName) object_method_1_code (1 : Nat) (Option.none : Option Jvm.ClassFile.FieldType)).before a0 Z = true := hw _ (List.mem_of_getElem? (i := 10) rfl)
theorem tw_11 {Z : State} {a0 : Array Value} (hw : ∀ d ∈ tables_1, d.before a0 Z = true) : (Jvm.Cond.methodLink "com/example/nodecard/nodecard/card/Pin" (7 : Nat) ({ cls := "com/example/nodecard/nodecard/card/Pin", name := "checkLength", desc := "(I)V" } : Jvm.MethodName)).before a0 Z = true := hw _ (List.mem_of_getElem? (i := 11) rfl)
theorem tw_12 {Z : State} {a0 : Array Value} (hw : ∀ d ∈ tables_1, d.before a0 Z = true) : (Jvm.Cond.static ({ cls := "com/example/nodecard/nodecard/card/Pin", name := "checkLength", desc := "(I)V" } : Jvm.MethodName)).before a0 Z = true := hw _ (List.mem_of_getElem? (i := 12) rfl)
theorem tw_13 {Z : State} {a0 : Array Value} (hw : ∀ d ∈ tables_1, d.before a0 Z = true) : (Jvm.Cond.code ({ cls := "com/example/nodecard/nodecard/card/Pin", name := "checkLength", desc := "(I)V" } : Jvm.MethodName) prog_29_method_3_code (1 : Nat) (Option.none : Option Jvm.ClassFile.FieldType)).before a0 Z = true := hw _ (List.mem_of_getElem? (i := 13) rfl)
theorem tw_14 {Z : State} {a0 : Array Value} (hw : ∀ d ∈ tables_1, d.before a0 Z = true) : (Jvm.Cond.fieldLink "com/example/nodecard/nodecard/card/Pin" (25 : Nat) "com/example/nodecard/nodecard/card/Pin" "keyReference" "I").before a0 Z = true := hw _ (List.mem_of_getElem? (i := 14) rfl)
theorem tw_15 {Z : State} {a0 : Array Value} (hw : ∀ d ∈ tables_1, d.before a0 Z = true) : (Jvm.Cond.laysFinal "com/example/nodecard/nodecard/card/Pin" "com/example/nodecard/nodecard/card/Pin" "keyReference" "I").before a0 Z = true := hw _ (List.mem_of_getElem? (i := 15) rfl)
theorem tw_16 {Z : State} {a0 : Array Value} (hw : ∀ d ∈ tables_1, d.before a0 Z = true) : (Jvm.Cond.methodLink "com/example/nodecard/nodecard/card/Pin" (29 : Nat) ({ cls := "[B", name := "clone", desc := "()Ljava/lang/Object;" } : Jvm.MethodName)).before a0 Z = true := hw _ (List.mem_of_getElem? (i := 16) rfl)
theorem tw_17 {Z : State} {a0 : Array Value} (hw : ∀ d ∈ tables_1, d.before a0 Z = true) : (Jvm.Cond.sameMethod "[B" "java/lang/Object" "clone" "()Ljava/lang/Object;").before a0 Z = true := hw _ (List.mem_of_getElem? (i := 17) rfl)
theorem tw_19 {Z : State} {a0 : Array Value} (hw : ∀ d ∈ tables_1, d.before a0 Z = true) : (Jvm.Cond.instanceMethod ({ cls := "java/lang/Object", name := "clone", desc := "()Ljava/lang/Object;" } : Jvm.MethodName)).before a0 Z = true := hw _ (List.mem_of_getElem? (i := 19) rfl)
theorem tw_20 {Z : State} {a0 : Array Value} (hw : ∀ d ∈ tables_1, d.before a0 Z = true) : (Jvm.Cond.selects "[B" ({ cls := "[B", name := "clone", desc := "()Ljava/lang/Object;" } : Jvm.MethodName) ({ cls := "java/lang/Object", name := "clone", desc := "()Ljava/lang/Object;" } : Jvm.MethodName)).before a0 Z = true := hw _ (List.mem_of_getElem? (i := 20) rfl)
theorem tw_21 {Z : State} {a0 : Array Value} (hw : ∀ d ∈ tables_1, d.before a0 Z = true) : (Jvm.Cond.native ({ cls := "java/lang/Object", name := "clone", desc := "()Ljava/lang/Object;" } : Jvm.MethodName)).before a0 Z = true := hw _ (List.mem_of_getElem? (i := 21) rfl)
theorem tw_22 {Z : State} {a0 : Array Value} (hw : ∀ d ∈ tables_1, d.before a0 Z = true) : (Jvm.Cond.castable "[B" "java/lang/Cloneable").before a0 Z = true := hw _ (List.mem_of_getElem? (i := 22) rfl)
theorem tw_23 {Z : State} {a0 : Array Value} (hw : ∀ d ∈ tables_1, d.before a0 Z = true) : (Jvm.Cond.classLink "com/example/nodecard/nodecard/card/Pin" (30 : Nat) "[B").before a0 Z = true := hw _ (List.mem_of_getElem? (i := 23) rfl)
theorem tw_25 {Z : State} {a0 : Array Value} (hw : ∀ d ∈ tables_1, d.before a0 Z = true) : (Jvm.Cond.fieldLink "com/example/nodecard/nodecard/card/Pin" (35 : Nat) "com/example/nodecard/nodecard/card/Pin" "value" "[B").before a0 Z = true := hw _ (List.mem_of_getElem? (i := 25) rfl)
theorem tw_26 {Z : State} {a0 : Array Value} (hw : ∀ d ∈ tables_1, d.before a0 Z = true) : (Jvm.Cond.laysFinal "com/example/nodecard/nodecard/card/Pin" "com/example/nodecard/nodecard/card/Pin" "value" "[B").before a0 Z = true := hw _ (List.mem_of_getElem? (i := 26) rfl)
theorem tw_27 {Z : State} {a0 : Array Value} (hw : ∀ d ∈ tables_1, d.before a0 Z = true) : (Jvm.Cond.fieldLink "com/example/nodecard/nodecard/card/Pin" (38 : Nat) "com/example/nodecard/nodecard/card/Pin" "maxTries" "I").before a0 Z = true := hw _ (List.mem_of_getElem? (i := 27) rfl)
theorem tw_28 {Z : State} {a0 : Array Value} (hw : ∀ d ∈ tables_1, d.before a0 Z = true) : (Jvm.Cond.laysFinal "com/example/nodecard/nodecard/card/Pin" "com/example/nodecard/nodecard/card/Pin" "maxTries" "I").before a0 Z = true := hw _ (List.mem_of_getElem? (i := 28) rfl)
theorem tw_29 {Z : State} {a0 : Array Value} (hw : ∀ d ∈ tables_1, d.before a0 Z = true) : (Jvm.Cond.fieldLink "com/example/nodecard/nodecard/card/Pin" (41 : Nat) "com/example/nodecard/nodecard/card/Pin" "triesLeft" "I").before a0 Z = true := hw _ (List.mem_of_getElem? (i := 29) rfl)
theorem tw_30 {Z : State} {a0 : Array Value} (hw : ∀ d ∈ tables_1, d.before a0 Z = true) : (Jvm.Cond.lays "com/example/nodecard/nodecard/card/Pin" "com/example/nodecard/nodecard/card/Pin" "triesLeft" "I").before a0 Z = true := hw _ (List.mem_of_getElem? (i := 30) rfl)
theorem tw_31 {Z : State} {a0 : Array Value} (hw : ∀ d ∈ tables_1, d.before a0 Z = true) : (Jvm.Cond.methodLink "com/example/nodecard/nodecard/card/PinBlockedPinLaw" (13 : Nat) ({ cls := "com/example/nodecard/nodecard/card/Pin", name := "blocked", desc := "()Z" } : Jvm.MethodName)).before a0 Z = true := hw _ (List.mem_of_getElem? (i := 31) rfl)
theorem tw_32 {Z : State} {a0 : Array Value} (hw : ∀ d ∈ tables_1, d.before a0 Z = true) : (Jvm.Cond.declares ({ cls := "com/example/nodecard/nodecard/card/Pin", name := "blocked", desc := "()Z" } : Jvm.MethodName)).before a0 Z = true := hw _ (List.mem_of_getElem? (i := 32) rfl)
theorem tw_33 {Z : State} {a0 : Array Value} (hw : ∀ d ∈ tables_1, d.before a0 Z = true) : (Jvm.Cond.instanceMethod ({ cls := "com/example/nodecard/nodecard/card/Pin", name := "blocked", desc := "()Z" } : Jvm.MethodName)).before a0 Z = true := hw _ (List.mem_of_getElem? (i := 33) rfl)
theorem tw_34 {Z : State} {a0 : Array Value} (hw : ∀ d ∈ tables_1, d.before a0 Z = true) : (Jvm.Cond.selects "com/example/nodecard/nodecard/card/Pin" ({ cls := "com/example/nodecard/nodecard/card/Pin", name := "blocked", desc := "()Z" } : Jvm.MethodName) ({ cls := "com/example/nodecard/nodecard/card/Pin", name := "blocked", desc := "()Z" } : Jvm.MethodName)).before a0 Z = true := hw _ (List.mem_of_getElem? (i := 34) rfl)
theorem tw_35 {Z : State} {a0 : Array Value} (hw : ∀ d ∈ tables_1, d.before a0 Z = true) : (Jvm.Cond.code ({ cls := "com/example/nodecard/nodecard/card/Pin", name := "blocked", desc := "()Z" } : Jvm.MethodName) prog_29_method_8_code (1 : Nat) (Option.some Jvm.ClassFile.FieldType.boolean)).before a0 Z = true := hw _ (List.mem_of_getElem? (i := 35) rfl)
theorem tw_36 {Z : State} {a0 : Array Value} (hw : ∀ d ∈ tables_1, d.before a0 Z = true) : (Jvm.Cond.methodLink "com/example/nodecard/nodecard/card/PinBlockedPinLaw" (17 : Nat) ({ cls := "com/example/nodecard/nodecard/card/Pin", name := "takeTry", desc := "()V" } : Jvm.MethodName)).before a0 Z = true := hw _ (List.mem_of_getElem? (i := 36) rfl)
theorem tw_37 {Z : State} {a0 : Array Value} (hw : ∀ d ∈ tables_1, d.before a0 Z = true) : (Jvm.Cond.declares ({ cls := "com/example/nodecard/nodecard/card/Pin", name := "takeTry", desc := "()V" } : Jvm.MethodName)).before a0 Z = true := hw _ (List.mem_of_getElem? (i := 37) rfl)
theorem tw_38 {Z : State} {a0 : Array Value} (hw : ∀ d ∈ tables_1, d.before a0 Z = true) : (Jvm.Cond.instanceMethod ({ cls := "com/example/nodecard/nodecard/card/Pin", name := "takeTry", desc := "()V" } : Jvm.MethodName)).before a0 Z = true := hw _ (List.mem_of_getElem? (i := 38) rfl)
theorem tw_39 {Z : State} {a0 : Array Value} (hw : ∀ d ∈ tables_1, d.before a0 Z = true) : (Jvm.Cond.selects "com/example/nodecard/nodecard/card/Pin" ({ cls := "com/example/nodecard/nodecard/card/Pin", name := "takeTry", desc := "()V" } : Jvm.MethodName) ({ cls := "com/example/nodecard/nodecard/card/Pin", name := "takeTry", desc := "()V" } : Jvm.MethodName)).before a0 Z = true := hw _ (List.mem_of_getElem? (i := 39) rfl)
theorem tw_40 {Z : State} {a0 : Array Value} (hw : ∀ d ∈ tables_1, d.before a0 Z = true) : (Jvm.Cond.code ({ cls := "com/example/nodecard/nodecard/card/Pin", name := "takeTry", desc := "()V" } : Jvm.MethodName) prog_29_method_9_code (1 : Nat) (Option.none : Option Jvm.ClassFile.FieldType)).before a0 Z = true := hw _ (List.mem_of_getElem? (i := 40) rfl)
theorem tw_41 {Z : State} {a0 : Array Value} (hw : ∀ d ∈ tables_1, d.before a0 Z = true) : (Jvm.Cond.methodLink "com/example/nodecard/nodecard/card/Pin" (67 : Nat) ({ cls := "com/example/nodecard/nodecard/card/Pin", name := "blocked", desc := "()Z" } : Jvm.MethodName)).before a0 Z = true := hw _ (List.mem_of_getElem? (i := 41) rfl)
theorem tw_42 {Z : State} {a0 : Array Value} (hw : ∀ d ∈ tables_1, d.before a0 Z = true) : (Jvm.Cond.methodLink "com/example/nodecard/nodecard/card/PinBlockedPinLaw" (20 : Nat) ({ cls := "com/example/nodecard/nodecard/card/Pin", name := "giveTriesBack", desc := "()V" } : Jvm.MethodName)).before a0 Z = true := hw _ (List.mem_of_getElem? (i := 42) rfl)
theorem tw_43 {Z : State} {a0 : Array Value} (hw : ∀ d ∈ tables_1, d.before a0 Z = true) : (Jvm.Cond.declares ({ cls := "com/example/nodecard/nodecard/card/Pin", name := "giveTriesBack", desc := "()V" } : Jvm.MethodName)).before a0 Z = true := hw _ (List.mem_of_getElem? (i := 43) rfl)
theorem tw_44 {Z : State} {a0 : Array Value} (hw : ∀ d ∈ tables_1, d.before a0 Z = true) : (Jvm.Cond.instanceMethod ({ cls := "com/example/nodecard/nodecard/card/Pin", name := "giveTriesBack", desc := "()V" } : Jvm.MethodName)).before a0 Z = true := hw _ (List.mem_of_getElem? (i := 44) rfl)
theorem tw_45 {Z : State} {a0 : Array Value} (hw : ∀ d ∈ tables_1, d.before a0 Z = true) : (Jvm.Cond.selects "com/example/nodecard/nodecard/card/Pin" ({ cls := "com/example/nodecard/nodecard/card/Pin", name := "giveTriesBack", desc := "()V" } : Jvm.MethodName) ({ cls := "com/example/nodecard/nodecard/card/Pin", name := "giveTriesBack", desc := "()V" } : Jvm.MethodName)).before a0 Z = true := hw _ (List.mem_of_getElem? (i := 45) rfl)
theorem tw_46 {Z : State} {a0 : Array Value} (hw : ∀ d ∈ tables_1, d.before a0 Z = true) : (Jvm.Cond.code ({ cls := "com/example/nodecard/nodecard/card/Pin", name := "giveTriesBack", desc := "()V" } : Jvm.MethodName) prog_29_method_10_code (1 : Nat) (Option.none : Option Jvm.ClassFile.FieldType)).before a0 Z = true := hw _ (List.mem_of_getElem? (i := 46) rfl)
theorem d3_0 : decode prog_29_method_3_code 0 = .ok (.iload_n 0, 1) := by decide +kernel
theorem d3_1 : decode prog_29_method_3_code 1 = .ok (.iconst 4, 1) := by decide +kernel
theorem d3_2 : decode prog_29_method_3_code 2 = .ok (.if_icmp .lt 9, 3) := by decide +kernel
theorem d3_5 : decode prog_29_method_3_code 5 = .ok (.iload_n 0, 1) := by decide +kernel
theorem d3_6 : decode prog_29_method_3_code 6 = .ok (.bipush 8, 2) := by decide +kernel
theorem d3_8 : decode prog_29_method_3_code 8 = .ok (.if_icmp .le 17, 3) := by decide +kernel
theorem d3_25 : decode prog_29_method_3_code 25 = .ok (.return_, 1) := by decide +kernel
theorem pn_0 : plainName "com/example/nodecard/nodecard/card/Pin" = true := by first | (simp [plainName, overriddenIn]; done) | decide +kernel
abbrev mN_3 : MethodName := ⟨"com/example/nodecard/nodecard/card/Pin", "checkLength", "(I)V"⟩
theorem pd_0 : parseMethodDescriptor "(I)V" = some ⟨[.int], none⟩ := by decide +kernel
theorem d1_0 : decode prog_29_method_1_code 0 = .ok (.aload_n 0, 1) := by decide +kernel
theorem d1_1 : decode prog_29_method_1_code 1 = .ok (.invokespecial 1, 3) := by decide +kernel
theorem d1_4 : decode prog_29_method_1_code 4 = .ok (.aload_n 2, 1) := by decide +kernel
theorem d1_5 : decode prog_29_method_1_code 5 = .ok (.arraylength, 1) := by decide +kernel
theorem d1_6 : decode prog_29_method_1_code 6 = .ok (.invokestatic 7, 3) := by decide +kernel
theorem d1_9 : decode prog_29_method_1_code 9 = .ok (.iload_n 3, 1) := by decide +kernel
theorem d1_10 : decode prog_29_method_1_code 10 = .ok (.iconst 1, 1) := by decide +kernel
theorem d1_11 : decode prog_29_method_1_code 11 = .ok (.if_icmp .lt 9, 3) := by decide +kernel
theorem d1_14 : decode prog_29_method_1_code 14 = .ok (.iload_n 3, 1) := by decide +kernel
theorem d1_15 : decode prog_29_method_1_code 15 = .ok (.bipush 15, 2) := by decide +kernel
theorem d1_17 : decode prog_29_method_1_code 17 = .ok (.if_icmp .le 17, 3) := by decide +kernel
theorem d1_34 : decode prog_29_method_1_code 34 = .ok (.iload 4, 2) := by decide +kernel
theorem d1_36 : decode prog_29_method_1_code 36 = .ok (.ifCond .lt 9, 3) := by decide +kernel
theorem d1_39 : decode prog_29_method_1_code 39 = .ok (.iload 4, 2) := by decide +kernel
theorem d1_41 : decode prog_29_method_1_code 41 = .ok (.iload_n 3, 1) := by decide +kernel
theorem d1_42 : decode prog_29_method_1_code 42 = .ok (.if_icmp .le 19, 3) := by decide +kernel
theorem d1_61 : decode prog_29_method_1_code 61 = .ok (.aload_n 0, 1) := by decide +kernel
theorem d1_62 : decode prog_29_method_1_code 62 = .ok (.iload_n 1, 1) := by decide +kernel
theorem d1_63 : decode prog_29_method_1_code 63 = .ok (.putfield 25, 3) := by decide +kernel
theorem d1_66 : decode prog_29_method_1_code 66 = .ok (.aload_n 0, 1) := by decide +kernel
theorem d1_67 : decode prog_29_method_1_code 67 = .ok (.aload_n 2, 1) := by decide +kernel
theorem d1_68 : decode prog_29_method_1_code 68 = .ok (.invokevirtual 29, 3) := by decide +kernel
theorem d1_71 : decode prog_29_method_1_code 71 = .ok (.checkcast 30, 3) := by decide +kernel
theorem d1_74 : decode prog_29_method_1_code 74 = .ok (.putfield 35, 3) := by decide +kernel
theorem d1_77 : decode prog_29_method_1_code 77 = .ok (.aload_n 0, 1) := by decide +kernel
theorem d1_78 : decode prog_29_method_1_code 78 = .ok (.iload_n 3, 1) := by decide +kernel
theorem d1_79 : decode prog_29_method_1_code 79 = .ok (.putfield 38, 3) := by decide +kernel
theorem d1_82 : decode prog_29_method_1_code 82 = .ok (.aload_n 0, 1) := by decide +kernel
theorem d1_83 : decode prog_29_method_1_code 83 = .ok (.iload 4, 2) := by decide +kernel
theorem d1_85 : decode prog_29_method_1_code 85 = .ok (.putfield 41, 3) := by decide +kernel
theorem d1_88 : decode prog_29_method_1_code 88 = .ok (.return_, 1) := by decide +kernel
abbrev mN_1 : MethodName := ⟨"com/example/nodecard/nodecard/card/Pin", "<init>", "(I[BII)V"⟩
theorem d4_0 : decode prog_29_method_8_code 0 = .ok (.aload_n 0, 1) := by decide +kernel
theorem d4_1 : decode prog_29_method_8_code 1 = .ok (.getfield 41, 3) := by decide +kernel
theorem d4_4 : decode prog_29_method_8_code 4 = .ok (.ifCond .ne 7, 3) := by decide +kernel
theorem d4_7 : decode prog_29_method_8_code 7 = .ok (.iconst 1, 1) := by decide +kernel
theorem d4_8 : decode prog_29_method_8_code 8 = .ok (.goto 4, 3) := by decide +kernel
theorem d4_11 : decode prog_29_method_8_code 11 = .ok (.iconst 0, 1) := by decide +kernel
theorem d4_12 : decode prog_29_method_8_code 12 = .ok (.ireturn, 1) := by decide +kernel
abbrev mN_4 : MethodName := ⟨"com/example/nodecard/nodecard/card/Pin", "blocked", "()Z"⟩
theorem pd_1 : parseMethodDescriptor "()Z" = some ⟨[], some .boolean⟩ := by decide +kernel
theorem d5_0 : decode prog_29_method_9_code 0 = .ok (.aload_n 0, 1) := by decide +kernel
theorem d5_1 : decode prog_29_method_9_code 1 = .ok (.invokevirtual 67, 3) := by decide +kernel
theorem d5_4 : decode prog_29_method_9_code 4 = .ok (.ifCond .eq 13, 3) := by decide +kernel
theorem d5_17 : decode prog_29_method_9_code 17 = .ok (.aload_n 0, 1) := by decide +kernel
theorem d5_18 : decode prog_29_method_9_code 18 = .ok (.dup, 1) := by decide +kernel
theorem d5_19 : decode prog_29_method_9_code 19 = .ok (.getfield 41, 3) := by decide +kernel
theorem d5_22 : decode prog_29_method_9_code 22 = .ok (.iconst 1, 1) := by decide +kernel
theorem d5_23 : decode prog_29_method_9_code 23 = .ok (.isub, 1) := by decide +kernel
theorem d5_24 : decode prog_29_method_9_code 24 = .ok (.putfield 41, 3) := by decide +kernel
theorem d5_27 : decode prog_29_method_9_code 27 = .ok (.return_, 1) := by decide +kernel
abbrev mN_5 : MethodName := ⟨"com/example/nodecard/nodecard/card/Pin", "takeTry", "()V"⟩
theorem d6_0 : decode prog_29_method_10_code 0 = .ok (.aload_n 0, 1) := by decide +kernel
theorem d6_1 : decode prog_29_method_10_code 1 = .ok (.aload_n 0, 1) := by decide +kernel
theorem d6_2 : decode prog_29_method_10_code 2 = .ok (.getfield 38, 3) := by decide +kernel
theorem d6_5 : decode prog_29_method_10_code 5 = .ok (.putfield 41, 3) := by decide +kernel
theorem d6_8 : decode prog_29_method_10_code 8 = .ok (.return_, 1) := by decide +kernel
abbrev mN_6 : MethodName := ⟨"com/example/nodecard/nodecard/card/Pin", "giveTriesBack", "()V"⟩
theorem pd_2 : parseMethodDescriptor "(I[BII)V" = some ⟨[.int, (.array .byte), .int, .int], none⟩ := by decide +kernel
theorem pd_3 : parseMethodDescriptor "()V" = some ⟨[], none⟩ := by decide +kernel
theorem pn_1 : plainName "com/example/nodecard/nodecard/card/PinBlockedPinLaw" = true := by first | (simp [plainName, overriddenIn]; done) | decide +kernel
theorem ef_3 (m : MethodId) (x0 : Int32) : entryFrame m #[(.int x0)] 1 = mkF m 0 #[.val (.int x0)] [] := by first | (simp [entryFrame, mkF, argsToLocals, Value.category]; done) | rfl
def Q3 (Z : State) (x : Int32) (h0 : Heap) (n0 : Nat) (v : Option Value) (h : Heap) (L : List Loc) : Prop := v = none ∧ Fr n0 L ∧ h = h0
set_option maxRecDepth 65536 in
set_option maxHeartbeats 40000000 in
theorem rm3 (l : Launch) (Z : State) (a0 : Array Value) (hw : ∀ d ∈ tables_1, d.before a0 Z = true) (ws : List Jvm.Cond) (x : Int32) (h0 : Heap) (n0 : Nat) (Z0 : n0 ≤ h0.size) (p0 : 4 ≤ x.toInt) (p1 : x.toInt ≤ 8) :
    CT l mN_3 prog_29_method_3_code 1 none ws ({ frames := 0, cells := 0, slots := 0, locals := 0 } : Room) #[(.int x)] Z h0 (Q3 Z x h0 n0) := by
  refine body_of (plainFor_of_name pn_0) ?_
  intro p e s m below meth c s₁ hx dB hret hlk hml hown0 hnm X0 e0 hZ
  have hown : s.vm.findClass cN_0 = some m.cls := hown0
  have N0 := Fr.nil n0
  rw [ef_3]
  show Wk p e below (FN s (Q3 Z x h0 n0) 0 0) s₁ (mkF m 0 #[.val (.int x)] [])
  have r_x := rng32 x
  refine w_iloadN X0 hx x (dB d3_0) 1 rfl rfl ?_
  refine w_iconst X0 hx (dB d3_1) 2 rfl (4 : Int32) (by decide) ?_
  refine w_icmp_lt X0 hx x.toInt 4 rfl (by decide) (dB d3_2) 11 5 (fun c1 => ?_) (fun c1 => ?_)
  ·exfalso; omega
  ·refine w_iloadN X0 hx x (dB d3_5) 6 rfl rfl ?_
   refine w_bipush X0 hx (dB d3_6) 8 rfl (8 : Int32) (by decide) ?_
   refine w_icmp_le X0 hx x.toInt 8 rfl (by decide) (dB d3_8) 25 11 (fun c2 => ?_) (fun c2 => ?_)
   ·refine w_ret0 X0 hx hlk hret (dB d3_25) (by decide) (by decide) ?_
    rw [e0]
    exact ⟨rfl, N0, rfl⟩
   ·exfalso; omega
theorem ef_1 (m : MethodId) (x0 : Addr) (x1 : Int32) (x2 : Addr) (x3 : Int32) (x4 : Int32) : entryFrame m #[(.ref x0), (.int x1), (.ref x2), (.int x3), (.int x4)] 5 = mkF m 0 #[.val (.ref x0), .val (.int x1), .val (.ref x2), .val (.int x3), .val (.int x4)] [] := by first | (simp [entryFrame, mkF, argsToLocals, Value.category]; done) | rfl
def Q1 (Z : State) (a : Addr) (kr : Int32) (ar : Addr) (mx : Int32) (tl : Int32) (kb : ClassId) (zz : Int32) (el0 : Int32) (h0 : Heap) (n0 : Nat) (v : Option Value) (h : Heap) (L : List Loc) : Prop := v = none ∧ Fr n0 L ∧ Keep h0 h [a] ∧ Fld Z h a cN_0 "maxTries" "I" (.int mx) ∧ Fld Z h a cN_0 "triesLeft" "I" (.int tl)
set_option maxRecDepth 65536 in
set_option maxHeartbeats 40000000 in
theorem rm1 (l : Launch) (Z : State) (a0 : Array Value) (hw : ∀ d ∈ tables_1, d.before a0 Z = true) (ws : List Jvm.Cond) (a : Addr) (kr : Int32) (ar : Addr) (mx : Int32) (tl : Int32) (kb : ClassId) (zz : Int32) (el0 : Int32) (h0 : Heap) (n0 : Nat) (Z0 : n0 ≤ h0.size) (E_a : Exa Z h0 a cN_0) (F_keyReference_a : Fld Z h0 a cN_0 "keyReference" "I" (.int (0 : Int32))) (F_value_a : Fld Z h0 a cN_0 "value" "[B" .null) (F_maxTries_a : Fld Z h0 a cN_0 "maxTries" "I" (.int (0 : Int32))) (F_triesLeft_a : Fld Z h0 a cN_0 "triesLeft" "I" (.int (0 : Int32))) (V_ar : Arv Z h0 ar kb .byte zz [(.int el0), (.int (0 : Int32)), (.int (0 : Int32)), (.int (0 : Int32)), (.int (0 : Int32)), (.int (0 : Int32)), (.int (0 : Int32)), (.int (0 : Int32))] (.int (0 : Int32))) (E_ar : Exa Z h0 ar "[B") (g_a : n0 ≤ a) (p0 : 1 ≤ mx.toInt) (p1 : mx.toInt ≤ 15) (p2 : 0 ≤ tl.toInt) (p3 : tl.toInt ≤ mx.toInt) (p4 : 4 ≤ zz.toInt) (p5 : zz.toInt ≤ 8) :
    CT l mN_1 prog_29_method_1_code 5 none ws ({ frames := 1, cells := 1, slots := 8, locals := 15 } : Room) #[(.ref a), (.int kr), (.ref ar), (.int mx), (.int tl)] Z h0 (Q1 Z a kr ar mx tl kb zz el0 h0 n0) := by
  refine body_of (plainFor_of_name pn_0) ?_
  intro p e s m below meth c s₁ hx dB hret hlk hml hown0 hnm X0 e0 hZ
  have hown : s.vm.findClass cN_0 = some m.cls := hown0
  have N0 := Fr.nil n0
  rw [ef_1]
  show Wk p e below (FN s (Q1 Z a kr ar mx tl kb zz el0 h0 n0) 1 8) s₁ (mkF m 0 #[.val (.ref a), .val (.int kr), .val (.ref ar), .val (.int mx), .val (.int tl)] [])
  have r_kr := rng32 kr
  have r_mx := rng32 mx
  have r_tl := rng32 tl
  refine w_aloadN X0 hx (.ref a) (dB d1_0) 1 rfl rfl rfl ?_
  refine w_objinit X0 hx hZ hown e0 (tw_8 hw) (tw_9 hw) (tw_10 hw) (by rw [hml]; rfl) (by decide) 0 rfl (by decide) (dB d1_1) 4 rfl (fun T3 X3 e3 => ?_)
  refine w_aloadN X3 hx (.ref ar) (dB d1_4) 5 rfl rfl rfl ?_
  refine w_length X3 hx hZ e3 V_ar (dB d1_5) 6 rfl ?_
  refine w_callS X3 hx hZ hown e3 (rm3 l Z a0 hw [] zz h0 n0 Z0 (by omega) (by omega)) (tw_11 hw) (tw_12 hw) (tw_4 hw) (tw_13 hw) (by decide) (by rw [hml]; rfl) [(.int zz)] [] (lenOf pd_0 rfl) rfl rfl (by decide) 0 rfl (by decide) (by decide) (by decide) (dB d1_6) 9 rfl (fun r4 T4 L4 X4 q4 => ?_)
  obtain ⟨rfl, Nq4, eq4⟩ := q4
  have N4 := Fr.app N0 Nq4
  dsimp only [Option.toList_some, Option.toList_none, List.cons_append, List.nil_append]
  refine w_iloadN X4 hx mx (dB d1_9) 10 rfl rfl ?_
  refine w_iconst X4 hx (dB d1_10) 11 rfl (1 : Int32) (by decide) ?_
  refine w_icmp_lt X4 hx mx.toInt 1 rfl (by decide) (dB d1_11) 20 14 (fun c5 => ?_) (fun c5 => ?_)
  ·exfalso; omega
  ·refine w_iloadN X4 hx mx (dB d1_14) 15 rfl rfl ?_
   refine w_bipush X4 hx (dB d1_15) 17 rfl (15 : Int32) (by decide) ?_
   refine w_icmp_le X4 hx mx.toInt 15 rfl (by decide) (dB d1_17) 34 20 (fun c6 => ?_) (fun c6 => ?_)
   ·refine w_iload X4 hx tl (dB d1_34) 36 rfl rfl ?_
    refine w_if_lt X4 hx tl.toInt rfl (dB d1_36) 45 39 (fun c7 => ?_) (fun c7 => ?_)
    ·exfalso; omega
    ·refine w_iload X4 hx tl (dB d1_39) 41 rfl rfl ?_
     refine w_iloadN X4 hx mx (dB d1_41) 42 rfl rfl ?_
     refine w_icmp_le X4 hx tl.toInt mx.toInt rfl rfl (dB d1_42) 61 45 (fun c8 => ?_) (fun c8 => ?_)
     ·refine w_aloadN X4 hx (.ref a) (dB d1_61) 62 rfl rfl rfl ?_
      refine w_iloadN X4 hx kr (dB d1_62) 63 rfl rfl ?_
      refine w_putF X4 hx hZ hown eq4 (host := "") (Or.inl (tw_14 hw)) Via.refl F_keyReference_a E_a (Or.inr ⟨(tw_15 hw), rfl, hnm⟩) (tw_3 hw) (ty := .int) (by decide) rfl rfl (dB d1_63) 66 rfl (fun T9 h9 X9 e9 W9 => ?_)
      have F10 : Exa Z h9 a cN_0 := E_a.wr W9
      have F11 : Fld Z h9 a cN_0 "keyReference" "I" (.int kr) := F_keyReference_a.same W9
      have F12 : Fld Z h9 a cN_0 "value" "[B" .null := F_value_a.other W9 (Or.inr (slot_ne (Or.inr (tw_26 hw)) (Or.inr (tw_15 hw)) (by decide) (t := (.array .byte)) (t' := .int) (by decide) (by decide)))
      have F13 : Fld Z h9 a cN_0 "maxTries" "I" (.int (0 : Int32)) := F_maxTries_a.other W9 (Or.inr (slot_ne (Or.inr (tw_28 hw)) (Or.inr (tw_15 hw)) (by decide) (t := .int) (t' := .int) (by decide) (by decide)))
      have F14 : Fld Z h9 a cN_0 "triesLeft" "I" (.int (0 : Int32)) := F_triesLeft_a.other W9 (Or.inr (slot_ne (Or.inl (tw_30 hw)) (Or.inr (tw_15 hw)) (by decide) (t := .int) (t' := .int) (by decide) (by decide)))
      have F15 : Arv Z h9 ar kb .byte zz [(.int el0), (.int (0 : Int32)), (.int (0 : Int32)), (.int (0 : Int32)), (.int (0 : Int32)), (.int (0 : Int32)), (.int (0 : Int32)), (.int (0 : Int32))] (.int (0 : Int32)) := V_ar.other W9 (Ne.symm (ne_arv E_a (tw_3 hw) V_ar))
      have F16 : Exa Z h9 ar "[B" := E_ar.wr W9
      have Z9 : n0 ≤ h9.size := by rw [W9.size]; exact Z0
      have K9 : Keep h0 h9 [a] := (Keep.refl h0 [a]).wr W9 (Or.inl (List.mem_of_getElem? (i := 0) rfl))
      have N9 := Fr.snoc X9 N4 g_a
      refine w_aloadN X9 hx (.ref a) (dB d1_66) 67 rfl rfl rfl ?_
      refine w_aloadN X9 hx (.ref ar) (dB d1_67) 68 rfl rfl rfl ?_
      refine w_clone X9 hx hZ hown e9 (tw_16 hw) (tw_17 hw) (tw_21 hw) (tw_19 hw) (tw_20 hw) (tw_22 hw) F15 F16 (by rw [hml]; rfl) (by decide) 1 rfl (by decide) 8 (by have := clampN (x := zz) rfl (by omega); omega) (by decide) (by decide) (dB d1_68) 71 rfl (fun T17 h17 a17 X17 e17 g17 E17 V17 A17 => ?_)
      have ne_a_a17 : a ≠ a17 := Nat.ne_of_lt (Nat.lt_of_lt_of_le F10.lt (Nat.le_of_eq g17.symm))
      have ne_ar_a17 : ar ≠ a17 := Nat.ne_of_lt (Nat.lt_of_lt_of_le F15.lt (Nat.le_of_eq g17.symm))
      have g_a17 : n0 ≤ a17 := Nat.le_trans Z9 (Nat.le_of_eq g17.symm)
      have s_a17 : h0.size ≤ a17 := Nat.le_trans K9.1 (Nat.le_of_eq g17.symm)
      have F18 : Exa Z h17 a cN_0 := F10.ext E17
      have F19 : Fld Z h17 a cN_0 "keyReference" "I" (.int kr) := F11.ext E17
      have F20 : Fld Z h17 a cN_0 "value" "[B" .null := F12.ext E17
      have F21 : Fld Z h17 a cN_0 "maxTries" "I" (.int (0 : Int32)) := F13.ext E17
      have F22 : Fld Z h17 a cN_0 "triesLeft" "I" (.int (0 : Int32)) := F14.ext E17
      have F23 : Arv Z h17 ar kb .byte zz [(.int el0), (.int (0 : Int32)), (.int (0 : Int32)), (.int (0 : Int32)), (.int (0 : Int32)), (.int (0 : Int32)), (.int (0 : Int32)), (.int (0 : Int32))] (.int (0 : Int32)) := F15.ext E17
      have F24 : Exa Z h17 ar "[B" := F16.ext E17
      have Z17 : n0 ≤ h17.size := Nat.le_trans Z9 E17.1
      have K17 : Keep h0 h17 [a] := K9.ext E17
      refine w_cast X17 hx hZ hown e17 (tw_23 hw) (Ins.self A17) (dB d1_71) 74 rfl (fun T25 X25 e25 => ?_)
      refine w_putF X25 hx hZ hown e25 (host := "") (Or.inl (tw_25 hw)) Via.refl F20 F18 (Or.inr ⟨(tw_26 hw), rfl, hnm⟩) (tw_3 hw) (ty := (.array .byte)) (by decide) rfl rfl (dB d1_74) 77 rfl (fun T26 h26 X26 e26 W26 => ?_)
      have F27 : Exa Z h26 a cN_0 := F18.wr W26
      have F28 : Fld Z h26 a cN_0 "keyReference" "I" (.int kr) := F19.other W26 (Or.inr (slot_ne (Or.inr (tw_15 hw)) (Or.inr (tw_26 hw)) (by decide) (t := .int) (t' := (.array .byte)) (by decide) (by decide)))
      have F29 : Fld Z h26 a cN_0 "value" "[B" (.ref a17) := F20.same W26
      have F30 : Fld Z h26 a cN_0 "maxTries" "I" (.int (0 : Int32)) := F21.other W26 (Or.inr (slot_ne (Or.inr (tw_28 hw)) (Or.inr (tw_26 hw)) (by decide) (t := .int) (t' := (.array .byte)) (by decide) (by decide)))
      have F31 : Fld Z h26 a cN_0 "triesLeft" "I" (.int (0 : Int32)) := F22.other W26 (Or.inr (slot_ne (Or.inl (tw_30 hw)) (Or.inr (tw_26 hw)) (by decide) (t := .int) (t' := (.array .byte)) (by decide) (by decide)))
      have F32 : Arv Z h26 ar kb .byte zz [(.int el0), (.int (0 : Int32)), (.int (0 : Int32)), (.int (0 : Int32)), (.int (0 : Int32)), (.int (0 : Int32)), (.int (0 : Int32)), (.int (0 : Int32))] (.int (0 : Int32)) := F23.other W26 (Ne.symm (ne_arv F18 (tw_3 hw) F23))
      have F33 : Exa Z h26 ar "[B" := F24.wr W26
      have F34 : Arv Z h26 a17 kb .byte zz [(.int el0), (.int (0 : Int32)), (.int (0 : Int32)), (.int (0 : Int32)), (.int (0 : Int32)), (.int (0 : Int32)), (.int (0 : Int32)), (.int (0 : Int32))] (.int (0 : Int32)) := V17.other W26 (Ne.symm ne_a_a17)
      have F35 : Exa Z h26 a17 "[B" := A17.wr W26
      have Z26 : n0 ≤ h26.size := by rw [W26.size]; exact Z17
      have K26 : Keep h0 h26 [a] := K17.wr W26 (Or.inl (List.mem_of_getElem? (i := 0) rfl))
      have N26 := Fr.snoc X26 N9 g_a
      refine w_aloadN X26 hx (.ref a) (dB d1_77) 78 rfl rfl rfl ?_
      refine w_iloadN X26 hx mx (dB d1_78) 79 rfl rfl ?_
      refine w_putF X26 hx hZ hown e26 (host := "") (Or.inl (tw_27 hw)) Via.refl F30 F27 (Or.inr ⟨(tw_28 hw), rfl, hnm⟩) (tw_3 hw) (ty := .int) (by decide) rfl rfl (dB d1_79) 82 rfl (fun T36 h36 X36 e36 W36 => ?_)
      have F37 : Exa Z h36 a cN_0 := F27.wr W36
      have F38 : Fld Z h36 a cN_0 "keyReference" "I" (.int kr) := F28.other W36 (Or.inr (slot_ne (Or.inr (tw_15 hw)) (Or.inr (tw_28 hw)) (by decide) (t := .int) (t' := .int) (by decide) (by decide)))
      have F39 : Fld Z h36 a cN_0 "value" "[B" (.ref a17) := F29.other W36 (Or.inr (slot_ne (Or.inr (tw_26 hw)) (Or.inr (tw_28 hw)) (by decide) (t := (.array .byte)) (t' := .int) (by decide) (by decide)))
      have F40 : Fld Z h36 a cN_0 "maxTries" "I" (.int mx) := F30.same W36
      have F41 : Fld Z h36 a cN_0 "triesLeft" "I" (.int (0 : Int32)) := F31.other W36 (Or.inr (slot_ne (Or.inl (tw_30 hw)) (Or.inr (tw_28 hw)) (by decide) (t := .int) (t' := .int) (by decide) (by decide)))
      have F42 : Arv Z h36 ar kb .byte zz [(.int el0), (.int (0 : Int32)), (.int (0 : Int32)), (.int (0 : Int32)), (.int (0 : Int32)), (.int (0 : Int32)), (.int (0 : Int32)), (.int (0 : Int32))] (.int (0 : Int32)) := F32.other W36 (Ne.symm (ne_arv F27 (tw_3 hw) F32))
      have F43 : Exa Z h36 ar "[B" := F33.wr W36
      have F44 : Arv Z h36 a17 kb .byte zz [(.int el0), (.int (0 : Int32)), (.int (0 : Int32)), (.int (0 : Int32)), (.int (0 : Int32)), (.int (0 : Int32)), (.int (0 : Int32)), (.int (0 : Int32))] (.int (0 : Int32)) := F34.other W36 (Ne.symm ne_a_a17)
      have F45 : Exa Z h36 a17 "[B" := F35.wr W36
      have Z36 : n0 ≤ h36.size := by rw [W36.size]; exact Z26
      have K36 : Keep h0 h36 [a] := K26.wr W36 (Or.inl (List.mem_of_getElem? (i := 0) rfl))
      have N36 := Fr.snoc X36 N26 g_a
      refine w_aloadN X36 hx (.ref a) (dB d1_82) 83 rfl rfl rfl ?_
      refine w_iload X36 hx tl (dB d1_83) 85 rfl rfl ?_
      refine w_putF X36 hx hZ hown e36 (host := "") (Or.inl (tw_29 hw)) Via.refl F41 F37 (Or.inl (tw_30 hw)) (tw_3 hw) (ty := .int) (by decide) rfl rfl (dB d1_85) 88 rfl (fun T46 h46 X46 e46 W46 => ?_)
      have F47 : Exa Z h46 a cN_0 := F37.wr W46
      have F48 : Fld Z h46 a cN_0 "keyReference" "I" (.int kr) := F38.other W46 (Or.inr (slot_ne (Or.inr (tw_15 hw)) (Or.inl (tw_30 hw)) (by decide) (t := .int) (t' := .int) (by decide) (by decide)))
      have F49 : Fld Z h46 a cN_0 "value" "[B" (.ref a17) := F39.other W46 (Or.inr (slot_ne (Or.inr (tw_26 hw)) (Or.inl (tw_30 hw)) (by decide) (t := (.array .byte)) (t' := .int) (by decide) (by decide)))
      have F50 : Fld Z h46 a cN_0 "maxTries" "I" (.int mx) := F40.other W46 (Or.inr (slot_ne (Or.inr (tw_28 hw)) (Or.inl (tw_30 hw)) (by decide) (t := .int) (t' := .int) (by decide) (by decide)))
      have F51 : Fld Z h46 a cN_0 "triesLeft" "I" (.int tl) := F41.same W46
      have F52 : Arv Z h46 ar kb .byte zz [(.int el0), (.int (0 : Int32)), (.int (0 : Int32)), (.int (0 : Int32)), (.int (0 : Int32)), (.int (0 : Int32)), (.int (0 : Int32)), (.int (0 : Int32))] (.int (0 : Int32)) := F42.other W46 (Ne.symm (ne_arv F37 (tw_3 hw) F42))
      have F53 : Exa Z h46 ar "[B" := F43.wr W46
      have F54 : Arv Z h46 a17 kb .byte zz [(.int el0), (.int (0 : Int32)), (.int (0 : Int32)), (.int (0 : Int32)), (.int (0 : Int32)), (.int (0 : Int32)), (.int (0 : Int32)), (.int (0 : Int32))] (.int (0 : Int32)) := F44.other W46 (Ne.symm ne_a_a17)
      have F55 : Exa Z h46 a17 "[B" := F45.wr W46
      have Z46 : n0 ≤ h46.size := by rw [W46.size]; exact Z36
      have K46 : Keep h0 h46 [a] := K36.wr W46 (Or.inl (List.mem_of_getElem? (i := 0) rfl))
      have N46 := Fr.snoc X46 N36 g_a
      refine w_ret0 X46 hx hlk hret (dB d1_88) (by decide) (by decide) ?_
      rw [e46]
      exact ⟨rfl, N46, K46, F50, F51⟩
     ·exfalso; omega
   ·exfalso; omega
theorem ef_4 (m : MethodId) (x0 : Addr) : entryFrame m #[(.ref x0)] 1 = mkF m 0 #[.val (.ref x0)] [] := by first | (simp [entryFrame, mkF, argsToLocals, Value.category]; done) | rfl
def Q4 (Z : State) (a : Addr) (mx : Int32) (tl : Int32) (h0 : Heap) (n0 : Nat) (v : Option Value) (h : Heap) (L : List Loc) : Prop := ∃ z : Int32, v = some (.int z) ∧ ((z.toInt = 1 ∧ (tl.toInt = 0)) ∨ (z.toInt = 0 ∧ ¬ (tl.toInt = 0))) ∧ Fr n0 L ∧ h = h0
set_option maxRecDepth 65536 in
set_option maxHeartbeats 40000000 in
theorem rm4 (l : Launch) (Z : State) (a0 : Array Value) (hw : ∀ d ∈ tables_1, d.before a0 Z = true) (ws : List Jvm.Cond) (a : Addr) (mx : Int32) (tl : Int32) (h0 : Heap) (n0 : Nat) (Z0 : n0 ≤ h0.size) (F_maxTries_a : Fld Z h0 a cN_0 "maxTries" "I" (.int mx)) (F_triesLeft_a : Fld Z h0 a cN_0 "triesLeft" "I" (.int tl)) :
    CT l mN_4 prog_29_method_8_code 1 (some .boolean) ws ({ frames := 0, cells := 0, slots := 0, locals := 0 } : Room) #[(.ref a)] Z h0 (Q4 Z a mx tl h0 n0) := by
  refine body_of (plainFor_of_name pn_0) ?_
  intro p e s m below meth c s₁ hx dB hret hlk hml hown0 hnm X0 e0 hZ
  have hown : s.vm.findClass cN_0 = some m.cls := hown0
  have N0 := Fr.nil n0
  rw [ef_4]
  show Wk p e below (FN s (Q4 Z a mx tl h0 n0) 0 0) s₁ (mkF m 0 #[.val (.ref a)] [])
  refine w_aloadN X0 hx (.ref a) (dB d4_0) 1 rfl rfl rfl ?_
  refine w_getF X0 hx hZ hown e0 (host := "") (Or.inl (tw_29 hw)) Via.refl F_triesLeft_a (dB d4_1) 4 rfl (fun T56 X56 e56 => ?_)
  refine w_if_ne X56 hx tl.toInt rfl (dB d4_4) 11 7 (fun c57 => ?_) (fun c57 => ?_)
  ·refine w_iconst X56 hx (dB d4_11) 12 rfl (0 : Int32) (by decide) ?_
   refine w_retN X56 hx hlk (t := .boolean) hret (by simp) (dB d4_12) (by decide) (by decide) ?_
   rw [e56]
   exact ⟨(0 : Int32), rfl, by have hz : (0 : Int32).toInt = 0 := (by decide); omega, N0, rfl⟩
  ·refine w_iconst X56 hx (dB d4_7) 8 rfl (1 : Int32) (by decide) ?_
   refine w_goto X56 hx (dB d4_8) 12 ?_
   refine w_retN X56 hx hlk (t := .boolean) hret (by simp) (dB d4_12) (by decide) (by decide) ?_
   rw [e56]
   exact ⟨(1 : Int32), rfl, by have hz : (1 : Int32).toInt = 1 := (by decide); omega, N0, rfl⟩
theorem ef_5 (m : MethodId) (x0 : Addr) : entryFrame m #[(.ref x0)] 1 = mkF m 0 #[.val (.ref x0)] [] := by first | (simp [entryFrame, mkF, argsToLocals, Value.category]; done) | rfl
def Q5 (Z : State) (a : Addr) (mx : Int32) (tl : Int32) (h0 : Heap) (n0 : Nat) (v : Option Value) (h : Heap) (L : List Loc) : Prop := ∃ y : Int32, (y.toInt = tl.toInt - 1) ∧ v = none ∧ Fr n0 L ∧ Keep h0 h [a] ∧ Fld Z h a cN_0 "maxTries" "I" (.int mx) ∧ Fld Z h a cN_0 "triesLeft" "I" (.int y)
set_option maxRecDepth 65536 in
set_option maxHeartbeats 40000000 in
theorem rm5 (l : Launch) (Z : State) (a0 : Array Value) (hw : ∀ d ∈ tables_1, d.before a0 Z = true) (ws : List Jvm.Cond) (a : Addr) (mx : Int32) (tl : Int32) (h0 : Heap) (n0 : Nat) (Z0 : n0 ≤ h0.size) (E_a : Exa Z h0 a cN_0) (F_maxTries_a : Fld Z h0 a cN_0 "maxTries" "I" (.int mx)) (F_triesLeft_a : Fld Z h0 a cN_0 "triesLeft" "I" (.int tl)) (g_a : n0 ≤ a) (p0 : 1 ≤ tl.toInt) (p1 : tl.toInt ≤ 15) :
    CT l mN_5 prog_29_method_9_code 1 none ws ({ frames := 1, cells := 0, slots := 0, locals := 12 } : Room) #[(.ref a)] Z h0 (Q5 Z a mx tl h0 n0) := by
  refine body_of (plainFor_of_name pn_0) ?_
  intro p e s m below meth c s₁ hx dB hret hlk hml hown0 hnm X0 e0 hZ
  have hown : s.vm.findClass cN_0 = some m.cls := hown0
  have N0 := Fr.nil n0
  rw [ef_5]
  show Wk p e below (FN s (Q5 Z a mx tl h0 n0) 0 0) s₁ (mkF m 0 #[.val (.ref a)] [])
  refine w_aloadN X0 hx (.ref a) (dB d5_0) 1 rfl rfl rfl ?_
  refine w_virt X0 hx hZ hown e0 (rm4 l Z a0 hw [] a mx tl h0 n0 Z0 F_maxTries_a F_triesLeft_a) (tw_41 hw) (tw_32 hw) (notFace_of_selects (args := #[]) (mvT hZ (tw_34 hw))) (tw_34 hw) (tw_33 hw) (tw_4 hw) (tw_35 hw) (by decide) a E_a (by rw [hml]; rfl) [] [] (lenOf pd_1 rfl) rfl rfl (by decide) 0 rfl (by decide) (by decide) (by decide) (dB d5_1) 4 rfl (fun r58 T58 L58 X58 q58 => ?_)
  obtain ⟨z58, rfl, f58, Nq58, eq58⟩ := q58
  have N58 := Fr.app N0 Nq58
  dsimp only [Option.toList_some, Option.toList_none, List.cons_append, List.nil_append]
  refine w_if_eq X58 hx z58.toInt rfl (dB d5_4) 17 7 (fun c59 => ?_) (fun c59 => ?_)
  ·refine w_aloadN X58 hx (.ref a) (dB d5_17) 18 rfl rfl rfl ?_
   refine w_dup X58 hx (dB d5_18) 19 rfl rfl ?_
   refine w_getF X58 hx hZ hown eq58 (host := "") (Or.inl (tw_29 hw)) Via.refl F_triesLeft_a (dB d5_19) 22 rfl (fun T60 X60 e60 => ?_)
   refine w_iconst X60 hx (dB d5_22) 23 rfl (1 : Int32) (by decide) ?_
   obtain ⟨v61, e61⟩ : ∃ z : Int32, z = tl - (1 : Int32) := ⟨_, rfl⟩
   have n61 : v61.toInt = tl.toInt - 1 := by rw [e61]; exact subX rfl (by decide) (by omega) (by omega)
   refine w_isub X60 hx (dB d5_23) 24 rfl e61 ?_
   refine w_putF X60 hx hZ hown e60 (host := "") (Or.inl (tw_29 hw)) Via.refl F_triesLeft_a E_a (Or.inl (tw_30 hw)) (tw_3 hw) (ty := .int) (by decide) rfl rfl (dB d5_24) 27 rfl (fun T62 h62 X62 e62 W62 => ?_)
   have F63 : Exa Z h62 a cN_0 := E_a.wr W62
   have F64 : Fld Z h62 a cN_0 "maxTries" "I" (.int mx) := F_maxTries_a.other W62 (Or.inr (slot_ne (Or.inr (tw_28 hw)) (Or.inl (tw_30 hw)) (by decide) (t := .int) (t' := .int) (by decide) (by decide)))
   have F65 : Fld Z h62 a cN_0 "triesLeft" "I" (.int v61) := F_triesLeft_a.same W62
   have Z62 : n0 ≤ h62.size := by rw [W62.size]; exact Z0
   have K62 : Keep h0 h62 [a] := (Keep.refl h0 [a]).wr W62 (Or.inl (List.mem_of_getElem? (i := 0) rfl))
   have N62 := Fr.snoc X62 N58 g_a
   refine w_ret0 X62 hx hlk hret (dB d5_27) (by decide) (by decide) ?_
   rw [e62]
   exact ⟨v61, by omega, rfl, N62, K62, F64, F65⟩
  ·exfalso; omega
theorem ef_6 (m : MethodId) (x0 : Addr) : entryFrame m #[(.ref x0)] 1 = mkF m 0 #[.val (.ref x0)] [] := by first | (simp [entryFrame, mkF, argsToLocals, Value.category]; done) | rfl
def Q6 (Z : State) (a : Addr) (mx : Int32) (tl : Int32) (h0 : Heap) (n0 : Nat) (v : Option Value) (h : Heap) (L : List Loc) : Prop := v = none ∧ Fr n0 L ∧ Keep h0 h [a] ∧ Fld Z h a cN_0 "maxTries" "I" (.int mx) ∧ Fld Z h a cN_0 "triesLeft" "I" (.int mx)
set_option maxRecDepth 65536 in
set_option maxHeartbeats 40000000 in
theorem rm6 (l : Launch) (Z : State) (a0 : Array Value) (hw : ∀ d ∈ tables_1, d.before a0 Z = true) (ws : List Jvm.Cond) (a : Addr) (mx : Int32) (tl : Int32) (h0 : Heap) (n0 : Nat) (Z0 : n0 ≤ h0.size) (E_a : Exa Z h0 a cN_0) (F_maxTries_a : Fld Z h0 a cN_0 "maxTries" "I" (.int mx)) (F_triesLeft_a : Fld Z h0 a cN_0 "triesLeft" "I" (.int tl)) (g_a : n0 ≤ a) :
    CT l mN_6 prog_29_method_10_code 1 none ws ({ frames := 0, cells := 0, slots := 0, locals := 0 } : Room) #[(.ref a)] Z h0 (Q6 Z a mx tl h0 n0) := by
  refine body_of (plainFor_of_name pn_0) ?_
  intro p e s m below meth c s₁ hx dB hret hlk hml hown0 hnm X0 e0 hZ
  have hown : s.vm.findClass cN_0 = some m.cls := hown0
  have N0 := Fr.nil n0
  rw [ef_6]
  show Wk p e below (FN s (Q6 Z a mx tl h0 n0) 0 0) s₁ (mkF m 0 #[.val (.ref a)] [])
  refine w_aloadN X0 hx (.ref a) (dB d6_0) 1 rfl rfl rfl ?_
  refine w_aloadN X0 hx (.ref a) (dB d6_1) 2 rfl rfl rfl ?_
  refine w_getF X0 hx hZ hown e0 (host := "") (Or.inl (tw_27 hw)) Via.refl F_maxTries_a (dB d6_2) 5 rfl (fun T66 X66 e66 => ?_)
  refine w_putF X66 hx hZ hown e66 (host := "") (Or.inl (tw_29 hw)) Via.refl F_triesLeft_a E_a (Or.inl (tw_30 hw)) (tw_3 hw) (ty := .int) (by decide) rfl rfl (dB d6_5) 8 rfl (fun T67 h67 X67 e67 W67 => ?_)
  have F68 : Exa Z h67 a cN_0 := E_a.wr W67
  have F69 : Fld Z h67 a cN_0 "maxTries" "I" (.int mx) := F_maxTries_a.other W67 (Or.inr (slot_ne (Or.inr (tw_28 hw)) (Or.inl (tw_30 hw)) (by decide) (t := .int) (t' := .int) (by decide) (by decide)))
  have F70 : Fld Z h67 a cN_0 "triesLeft" "I" (.int mx) := F_triesLeft_a.same W67
  have Z67 : n0 ≤ h67.size := by rw [W67.size]; exact Z0
  have K67 : Keep h0 h67 [a] := (Keep.refl h0 [a]).wr W67 (Or.inl (List.mem_of_getElem? (i := 0) rfl))
  have N67 := Fr.snoc X67 N0 g_a
  refine w_ret0 X67 hx hlk hret (dB d6_8) (by decide) (by decide) ?_
  rw [e67]
  exact ⟨rfl, N67, K67, F69, F70⟩
theorem ef_0 (m : MethodId) (x0 : Int32) (x1 : Int32) (x2 : Int32) (x3 : Int32) : entryFrame m #[(.int x0), (.int x1), (.int x2), (.int x3)] maxLocals = mkF m 0 #[.val (.int x0), .val (.int x1), .val (.int x2), .val (.int x3), .unset, .unset, .unset, .unset, .unset, .unset] [] := by first | (simp [entryFrame, mkF, argsToLocals, Value.category, maxLocals]; done) | rfl
def Q0 (Z : State) (kr : Int32) (ls : Int32) (ms : Int32) (lf : Int32) (h0 : Heap) (n0 : Nat) (v : Option Value) (h : Heap) (L : List Loc) : Prop := v = some (.int 1) ∧ Fr n0 L
set_option maxRecDepth 65536 in
set_option maxHeartbeats 40000000 in
theorem rm0 (l : Launch) (Z : State) (a0 : Array Value) (hw : ∀ d ∈ tables_1, d.before a0 Z = true) (ws : List Jvm.Cond) (kr : Int32) (ls : Int32) (ms : Int32) (lf : Int32) (h0 : Heap) (n0 : Nat) (Z0 : n0 ≤ h0.size) :
    MetFree l x (head1 (Jvm.Cond.code x code maxLocals ret :: ws) room_1) (fun as_ U => as_ = #[(.int kr), (.int ls), (.int ms), (.int lf)] ∧ Z.Warmed39 U.vm ∧ U.heap = h0) (fun _ _ _ _ _ => True) (fun _ U o U' => ∃ v L, o = .returned v ∧ Q0 Z kr ls ms lf h0 n0 v U'.heap L ∧ FrameEnd U o U' L 3 20) := by
  refine body_of (plainFor_of_name pn_1) ?_
  intro p e s m below meth c s₁ hx dB hret hlk hml hown0 hnm X0 e0 hZ
  have hown : s.vm.findClass cN_1 = some m.cls := hown0
  have N0 := Fr.nil n0
  rw [ef_0]
  show Wk p e below (FN s (Q0 Z kr ls ms lf h0 n0) 3 20) s₁ (mkF m 0 #[.val (.int kr), .val (.int ls), .val (.int ms), .val (.int lf), .unset, .unset, .unset, .unset, .unset, .unset] [])
  have r_kr := rng32 kr
  have r_ls := rng32 ls
  have r_ms := rng32 ms
  have r_lf := rng32 lf
  refine w_iloadN X0 hx ls (dB at_0) 1 rfl rfl ?_
  refine w_ldc X0 hx hZ hown (tw_0 hw) (dB at_1) 3 rfl ?_
  obtain ⟨v71, e71⟩ : ∃ z : Int32, z = ls &&& (2147483647 : Int32) := ⟨_, rfl⟩
  have n71 : v71.toInt = ls.toInt % 2147483648 := by rw [e71]; exact maskX 31 rfl (by decide) (by decide)
  refine w_iand X0 hx (dB at_3) 4 rfl e71 ?_
  refine w_iconst X0 hx (dB at_4) 5 rfl (5 : Int32) (by decide) ?_
  obtain ⟨v72, e72⟩ : ∃ z : Int32, z = v71 % (5 : Int32) := ⟨_, rfl⟩
  have n72 : v72.toInt = v71.toInt % 5 := by rw [e72]; exact iremX rfl (by decide) (by omega)
  refine w_irem X0 hx (dB at_5) 6 rfl (by decide) e72 ?_
  refine w_iconst X0 hx (dB at_6) 7 rfl (4 : Int32) (by decide) ?_
  obtain ⟨v73, e73⟩ : ∃ z : Int32, z = v72 + (4 : Int32) := ⟨_, rfl⟩
  have n73 : v73.toInt = v72.toInt + 4 := by rw [e73]; exact addX rfl (by decide) (by omega) (by omega)
  refine w_iadd X0 hx (dB at_7) 8 rfl e73 ?_
  refine w_istore X0 hx (dB at_8) 10 rfl #[.val (.int kr), .val (.int ls), .val (.int ms), .val (.int lf), .val (.int v73), .unset, .unset, .unset, .unset, .unset] rfl ?_
  refine w_iloadN X0 hx ms (dB at_10) 11 rfl rfl ?_
  refine w_ldc X0 hx hZ hown (tw_0 hw) (dB at_11) 13 rfl ?_
  obtain ⟨v74, e74⟩ : ∃ z : Int32, z = ms &&& (2147483647 : Int32) := ⟨_, rfl⟩
  have n74 : v74.toInt = ms.toInt % 2147483648 := by rw [e74]; exact maskX 31 rfl (by decide) (by decide)
  refine w_iand X0 hx (dB at_13) 14 rfl e74 ?_
  refine w_bipush X0 hx (dB at_14) 16 rfl (15 : Int32) (by decide) ?_
  obtain ⟨v75, e75⟩ : ∃ z : Int32, z = v74 % (15 : Int32) := ⟨_, rfl⟩
  have n75 : v75.toInt = v74.toInt % 15 := by rw [e75]; exact iremX rfl (by decide) (by omega)
  refine w_irem X0 hx (dB at_16) 17 rfl (by decide) e75 ?_
  refine w_iconst X0 hx (dB at_17) 18 rfl (1 : Int32) (by decide) ?_
  obtain ⟨v76, e76⟩ : ∃ z : Int32, z = v75 + (1 : Int32) := ⟨_, rfl⟩
  have n76 : v76.toInt = v75.toInt + 1 := by rw [e76]; exact addX rfl (by decide) (by omega) (by omega)
  refine w_iadd X0 hx (dB at_18) 19 rfl e76 ?_
  refine w_istore X0 hx (dB at_19) 21 rfl #[.val (.int kr), .val (.int ls), .val (.int ms), .val (.int lf), .val (.int v73), .val (.int v76), .unset, .unset, .unset, .unset] rfl ?_
  refine w_iloadN X0 hx lf (dB at_21) 22 rfl rfl ?_
  refine w_ldc X0 hx hZ hown (tw_0 hw) (dB at_22) 24 rfl ?_
  obtain ⟨v77, e77⟩ : ∃ z : Int32, z = lf &&& (2147483647 : Int32) := ⟨_, rfl⟩
  have n77 : v77.toInt = lf.toInt % 2147483648 := by rw [e77]; exact maskX 31 rfl (by decide) (by decide)
  refine w_iand X0 hx (dB at_24) 25 rfl e77 ?_
  refine w_iload X0 hx v76 (dB at_25) 27 rfl rfl ?_
  refine w_iconst X0 hx (dB at_27) 28 rfl (1 : Int32) (by decide) ?_
  obtain ⟨v78, e78⟩ : ∃ z : Int32, z = v76 + (1 : Int32) := ⟨_, rfl⟩
  have n78 : v78.toInt = v76.toInt + 1 := by rw [e78]; exact addX rfl (by decide) (by omega) (by omega)
  refine w_iadd X0 hx (dB at_28) 29 rfl e78 ?_
  obtain ⟨v79, e79⟩ : ∃ z : Int32, z = v77 % v78 := ⟨_, rfl⟩
  have n79 : 0 ≤ v79.toInt ∧ v79.toInt < v78.toInt := by rw [e79]; exact iremB rfl rfl (by omega) (by omega)
  refine w_irem X0 hx (dB at_29) 30 rfl (neI rfl (by omega)) e79 ?_
  refine w_istore X0 hx (dB at_30) 32 rfl #[.val (.int kr), .val (.int ls), .val (.int ms), .val (.int lf), .val (.int v73), .val (.int v76), .val (.int v79), .unset, .unset, .unset] rfl ?_
  refine w_iload X0 hx v73 (dB at_32) 34 rfl rfl ?_
  refine w_newPE X0 hx hZ e0 (aty := .byte) (tw_1 hw) (nlt0 rfl (by omega)) 8 (by have := clampN (x := v73) rfl (by omega); omega) (by decide) (by decide) (by decide) "[B" (by decide) (dB at_34) 36 rfl (fun T80 h80 a80 k80 X80 e80 g80 E80 A80 B80 => ?_)
  have g_a80 : n0 ≤ a80 := Nat.le_trans Z0 (Nat.le_of_eq g80.symm)
  have s_a80 : h0.size ≤ a80 := Nat.le_trans (Keep.refl h0 []).1 (Nat.le_of_eq g80.symm)
  have Z80 : n0 ≤ h80.size := Nat.le_trans Z0 E80.1
  have K80 : Keep h0 h80 [] := (Keep.refl h0 []).ext E80
  have V80 : Arv Z h80 a80 k80 .byte v73 [(.int (0 : Int32)), (.int (0 : Int32)), (.int (0 : Int32)), (.int (0 : Int32)), (.int (0 : Int32)), (.int (0 : Int32)), (.int (0 : Int32)), (.int (0 : Int32))] (.int (0 : Int32)) := A80.pad (pad_rep [] (.int (0 : Int32)) 8)
  refine w_astore X80 hx (dB at_36) 38 rfl rfl #[.val (.int kr), .val (.int ls), .val (.int ms), .val (.int lf), .val (.int v73), .val (.int v76), .val (.int v79), .val (.ref a80), .unset, .unset] rfl ?_
  refine w_aload X80 hx (.ref a80) (dB at_38) 40 rfl rfl rfl ?_
  refine w_iconst X80 hx (dB at_40) 41 rfl (0 : Int32) (by decide) ?_
  refine w_iloadN X80 hx ls (dB at_41) 42 rfl rfl ?_
  refine w_bipush X80 hx (dB at_42) 44 rfl (127 : Int32) (by decide) ?_
  obtain ⟨v81, e81⟩ : ∃ z : Int32, z = ls &&& (127 : Int32) := ⟨_, rfl⟩
  have n81 : v81.toInt = ls.toInt % 128 := by rw [e81]; exact maskX 7 rfl (by decide) (by decide)
  refine w_iand X80 hx (dB at_44) 45 rfl e81 ?_
  obtain ⟨v82, e82⟩ : ∃ z : Int32, z = v81.toInt8.toInt32 := ⟨_, rfl⟩
  have n82 : (v82.toInt - v81.toInt) % 256 = 0 ∧ -128 ≤ v82.toInt ∧ v82.toInt < 128 := by rw [e82]; exact i2bX rfl
  refine w_i2b X80 hx (dB at_45) 46 rfl e82 ?_
  refine w_bastore X80 hx hZ e80 V80 ⟨by decide, by have hj : (0 : Int32).toInt = 0 := (by decide); omega⟩ 0 (by decide) (by decide) (dB at_46) 47 rfl (fun T83 h83 X83 e83 W83 V83 => ?_)
  have b83 : v82.toInt8.toInt32 = v82 := eqI (byteE rfl (by omega) (by omega))
  rw [b83] at W83 V83
  have F84 : Arv Z h83 a80 k80 .byte v73 [(.int v82), (.int (0 : Int32)), (.int (0 : Int32)), (.int (0 : Int32)), (.int (0 : Int32)), (.int (0 : Int32)), (.int (0 : Int32)), (.int (0 : Int32))] (.int (0 : Int32)) := V83
  have F85 : Exa Z h83 a80 "[B" := B80.wr W83
  have Z83 : n0 ≤ h83.size := by rw [W83.size]; exact Z80
  have K83 : Keep h0 h83 [] := K80.wr W83 (Or.inr s_a80)
  have N83 := Fr.snoc X83 N0 g_a80
  refine w_new X83 hx hZ hown e83 (tw_2 hw) (tw_3 hw) (tw_4 hw) (by decide) (by decide) (dB at_47) 50 rfl (fun T86 h86 a86 X86 e86 g86 E86 A86 D86 => ?_)
  have ne_a80_a86 : a80 ≠ a86 := Nat.ne_of_lt (Nat.lt_of_lt_of_le F84.lt (Nat.le_of_eq g86.symm))
  have g_a86 : n0 ≤ a86 := Nat.le_trans Z83 (Nat.le_of_eq g86.symm)
  have s_a86 : h0.size ≤ a86 := Nat.le_trans K83.1 (Nat.le_of_eq g86.symm)
  have F87 : Arv Z h86 a80 k80 .byte v73 [(.int v82), (.int (0 : Int32)), (.int (0 : Int32)), (.int (0 : Int32)), (.int (0 : Int32)), (.int (0 : Int32)), (.int (0 : Int32)), (.int (0 : Int32))] (.int (0 : Int32)) := F84.ext E86
  have F88 : Exa Z h86 a80 "[B" := F85.ext E86
  have Z86 : n0 ≤ h86.size := Nat.le_trans Z83 E86.1
  have K86 : Keep h0 h86 [] := K83.ext E86
  have F89 : Fld Z h86 a86 cN_0 "keyReference" "I" (.int (0 : Int32)) := D86 (Or.inr (tw_15 hw)) (ty := .int) (by decide)
  have F90 : Fld Z h86 a86 cN_0 "value" "[B" .null := D86 (Or.inr (tw_26 hw)) (ty := (.array .byte)) (by decide)
  have F91 : Fld Z h86 a86 cN_0 "maxTries" "I" (.int (0 : Int32)) := D86 (Or.inr (tw_28 hw)) (ty := .int) (by decide)
  have F92 : Fld Z h86 a86 cN_0 "triesLeft" "I" (.int (0 : Int32)) := D86 (Or.inl (tw_30 hw)) (ty := .int) (by decide)
  refine w_dup X86 hx (dB at_50) 51 rfl rfl ?_
  refine w_iloadN X86 hx kr (dB at_51) 52 rfl rfl ?_
  refine w_aload X86 hx (.ref a80) (dB at_52) 54 rfl rfl rfl ?_
  refine w_iload X86 hx v76 (dB at_54) 56 rfl rfl ?_
  refine w_iload X86 hx v79 (dB at_56) 58 rfl rfl ?_
  refine w_init X86 hx hZ rfl hown e86 (rm1 l Z a0 hw [] a86 kr a80 v76 v79 k80 v73 v82 h86 n0 Z86 A86 F89 F90 F91 F92 F87 F88 g_a86 (by omega) (by omega) (by omega) (by omega) (by omega) (by omega)) (tw_5 hw) (tw_6 hw) (tw_4 hw) (tw_7 hw) (by decide) (by rw [hml]; rfl) a86 [(.int kr), (.ref a80), (.int v76), (.int v79)] [(.ref a86)] (lenOf pd_2 rfl) rfl rfl (by decide) 1 rfl (by decide) (by decide) (by decide) (dB at_58) 61 rfl (fun r93 T93 L93 X93 q93 => ?_)
  obtain ⟨rfl, Nq93, Kq93, G93_0, G93_1⟩ := q93
  have N93 := Fr.app N83 Nq93
  have F94 : Arv Z T93.heap a80 k80 .byte v73 [(.int v82), (.int (0 : Int32)), (.int (0 : Int32)), (.int (0 : Int32)), (.int (0 : Int32)), (.int (0 : Int32)), (.int (0 : Int32)), (.int (0 : Int32))] (.int (0 : Int32)) := F87.keep Kq93 (ninS ne_a80_a86 nin0)
  have F95 : Exa Z T93.heap a80 "[B" := F88.keep Kq93
  have F96 : Exa Z T93.heap a86 cN_0 := A86.keep Kq93
  have Z93 : n0 ≤ T93.heap.size := Nat.le_trans Z86 Kq93.1
  have K93 : Keep h0 T93.heap [] := K86.trans Kq93 (allS (Or.inr s_a86) all0)
  dsimp only [Option.toList_some, Option.toList_none, List.cons_append, List.nil_append]
  refine w_astore X93 hx (dB at_61) 63 rfl rfl #[.val (.int kr), .val (.int ls), .val (.int ms), .val (.int lf), .val (.int v73), .val (.int v76), .val (.int v79), .val (.ref a80), .val (.ref a86), .unset] rfl ?_
  refine w_aload X93 hx (.ref a86) (dB at_63) 65 rfl rfl rfl ?_
  refine w_virt X93 hx hZ hown rfl (rm4 l Z a0 hw [] a86 v76 v79 T93.heap n0 Z93 G93_0 G93_1) (tw_31 hw) (tw_32 hw) (notFace_of_selects (args := #[]) (mvT hZ (tw_34 hw))) (tw_34 hw) (tw_33 hw) (tw_4 hw) (tw_35 hw) (by decide) a86 F96 (by rw [hml]; rfl) [] [] (lenOf pd_1 rfl) rfl rfl (by decide) 0 rfl (by decide) (by decide) (by decide) (dB at_65) 68 rfl (fun r97 T97 L97 X97 q97 => ?_)
  obtain ⟨z97, rfl, f97, Nq97, eq97⟩ := q97
  have N97 := Fr.app N93 Nq97
  dsimp only [Option.toList_some, Option.toList_none, List.cons_append, List.nil_append]
  refine w_iload X97 hx v79 (dB at_68) 70 rfl rfl ?_
  refine w_if_ne X97 hx v79.toInt rfl (dB at_70) 77 73 (fun c98 => ?_) (fun c98 => ?_)
  ·refine w_iconst X97 hx (dB at_77) 78 rfl (0 : Int32) (by decide) ?_
   refine w_icmp_ne X97 hx z97.toInt 0 rfl (by decide) (dB at_78) 85 81 (fun c99 => ?_) (fun c99 => ?_)
   ·exfalso; omega
   ·refine w_iconst X97 hx (dB at_81) 82 rfl (1 : Int32) (by decide) ?_
    refine w_goto X97 hx (dB at_82) 86 ?_
    refine w_istore X97 hx (dB at_86) 88 rfl #[.val (.int kr), .val (.int ls), .val (.int ms), .val (.int lf), .val (.int v73), .val (.int v76), .val (.int v79), .val (.ref a80), .val (.ref a86), .val (.int (1 : Int32))] rfl ?_
    refine w_iload X97 hx v79 (dB at_88) 90 rfl rfl ?_
    refine w_if_le X97 hx v79.toInt rfl (dB at_90) 129 93 (fun c100 => ?_) (fun c100 => ?_)
    ·exfalso; omega
    ·refine w_aload X97 hx (.ref a86) (dB at_93) 95 rfl rfl rfl ?_
     refine w_virt X97 hx hZ hown eq97 (rm5 l Z a0 hw [] a86 v76 v79 T93.heap n0 Z93 F96 G93_0 G93_1 g_a86 (by omega) (by omega)) (tw_36 hw) (tw_37 hw) (notFace_of_selects (args := #[]) (mvT hZ (tw_39 hw))) (tw_39 hw) (tw_38 hw) (tw_4 hw) (tw_40 hw) (by decide) a86 F96 (by rw [hml]; rfl) [] [] (lenOf pd_3 rfl) rfl rfl (by decide) 0 rfl (by decide) (by decide) (by decide) (dB at_95) 98 rfl (fun r101 T101 L101 X101 q101 => ?_)
     obtain ⟨y101, fx101, q101⟩ := q101
     obtain ⟨rfl, Nq101, Kq101, G101_0, G101_1⟩ := q101
     have N101 := Fr.app N97 Nq101
     have F102 : Arv Z T101.heap a80 k80 .byte v73 [(.int v82), (.int (0 : Int32)), (.int (0 : Int32)), (.int (0 : Int32)), (.int (0 : Int32)), (.int (0 : Int32)), (.int (0 : Int32)), (.int (0 : Int32))] (.int (0 : Int32)) := F94.keep Kq101 (ninS ne_a80_a86 nin0)
     have F103 : Exa Z T101.heap a80 "[B" := F95.keep Kq101
     have F104 : Exa Z T101.heap a86 cN_0 := F96.keep Kq101
     have Z101 : n0 ≤ T101.heap.size := Nat.le_trans Z93 Kq101.1
     have K101 : Keep h0 T101.heap [] := K93.trans Kq101 (allS (Or.inr s_a86) all0)
     dsimp only [Option.toList_some, Option.toList_none, List.cons_append, List.nil_append]
     refine w_iload X101 hx (1 : Int32) (dB at_98) 100 rfl rfl ?_
     refine w_if_eq X101 hx 1 (by decide) (dB at_100) 126 103 (fun c105 => ?_) (fun c105 => ?_)
     ·exfalso; omega
     ·refine w_aload X101 hx (.ref a86) (dB at_103) 105 rfl rfl rfl ?_
      refine w_virt X101 hx hZ hown rfl (rm4 l Z a0 hw [] a86 v76 y101 T101.heap n0 Z101 G101_0 G101_1) (tw_31 hw) (tw_32 hw) (notFace_of_selects (args := #[]) (mvT hZ (tw_34 hw))) (tw_34 hw) (tw_33 hw) (tw_4 hw) (tw_35 hw) (by decide) a86 F104 (by rw [hml]; rfl) [] [] (lenOf pd_1 rfl) rfl rfl (by decide) 0 rfl (by decide) (by decide) (by decide) (dB at_105) 108 rfl (fun r106 T106 L106 X106 q106 => ?_)
      obtain ⟨z106, rfl, f106, Nq106, eq106⟩ := q106
      have N106 := Fr.app N101 Nq106
      dsimp only [Option.toList_some, Option.toList_none, List.cons_append, List.nil_append]
      refine w_iload X106 hx v79 (dB at_108) 110 rfl rfl ?_
      refine w_iconst X106 hx (dB at_110) 111 rfl (1 : Int32) (by decide) ?_
      refine w_icmp_ne X106 hx v79.toInt 1 rfl (by decide) (dB at_111) 118 114 (fun c107 => ?_) (fun c107 => ?_)
      ·refine w_iconst X106 hx (dB at_118) 119 rfl (0 : Int32) (by decide) ?_
       refine w_icmp_ne X106 hx z106.toInt 0 rfl (by decide) (dB at_119) 126 122 (fun c108 => ?_) (fun c108 => ?_)
       ·exfalso; omega
       ·refine w_iconst X106 hx (dB at_122) 123 rfl (1 : Int32) (by decide) ?_
        refine w_goto X106 hx (dB at_123) 127 ?_
        refine w_istore X106 hx (dB at_127) 129 rfl #[.val (.int kr), .val (.int ls), .val (.int ms), .val (.int lf), .val (.int v73), .val (.int v76), .val (.int v79), .val (.ref a80), .val (.ref a86), .val (.int (1 : Int32))] rfl ?_
        refine w_aload X106 hx (.ref a86) (dB at_129) 131 rfl rfl rfl ?_
        refine w_virt X106 hx hZ hown eq106 (rm6 l Z a0 hw [] a86 v76 y101 T101.heap n0 Z101 F104 G101_0 G101_1 g_a86) (tw_42 hw) (tw_43 hw) (notFace_of_selects (args := #[]) (mvT hZ (tw_45 hw))) (tw_45 hw) (tw_44 hw) (tw_4 hw) (tw_46 hw) (by decide) a86 F104 (by rw [hml]; rfl) [] [] (lenOf pd_3 rfl) rfl rfl (by decide) 0 rfl (by decide) (by decide) (by decide) (dB at_131) 134 rfl (fun r109 T109 L109 X109 q109 => ?_)
        obtain ⟨rfl, Nq109, Kq109, G109_0, G109_1⟩ := q109
        have N109 := Fr.app N106 Nq109
        have F110 : Arv Z T109.heap a80 k80 .byte v73 [(.int v82), (.int (0 : Int32)), (.int (0 : Int32)), (.int (0 : Int32)), (.int (0 : Int32)), (.int (0 : Int32)), (.int (0 : Int32)), (.int (0 : Int32))] (.int (0 : Int32)) := F102.keep Kq109 (ninS ne_a80_a86 nin0)
        have F111 : Exa Z T109.heap a80 "[B" := F103.keep Kq109
        have F112 : Exa Z T109.heap a86 cN_0 := F104.keep Kq109
        have Z109 : n0 ≤ T109.heap.size := Nat.le_trans Z101 Kq109.1
        have K109 : Keep h0 T109.heap [] := K101.trans Kq109 (allS (Or.inr s_a86) all0)
        dsimp only [Option.toList_some, Option.toList_none, List.cons_append, List.nil_append]
        refine w_iload X109 hx (1 : Int32) (dB at_134) 136 rfl rfl ?_
        refine w_if_eq X109 hx 1 (by decide) (dB at_136) 151 139 (fun c113 => ?_) (fun c113 => ?_)
        ·exfalso; omega
        ·refine w_aload X109 hx (.ref a86) (dB at_139) 141 rfl rfl rfl ?_
         refine w_virt X109 hx hZ hown rfl (rm4 l Z a0 hw [] a86 v76 v76 T109.heap n0 Z109 G109_0 G109_1) (tw_31 hw) (tw_32 hw) (notFace_of_selects (args := #[]) (mvT hZ (tw_34 hw))) (tw_34 hw) (tw_33 hw) (tw_4 hw) (tw_35 hw) (by decide) a86 F112 (by rw [hml]; rfl) [] [] (lenOf pd_1 rfl) rfl rfl (by decide) 0 rfl (by decide) (by decide) (by decide) (dB at_141) 144 rfl (fun r114 T114 L114 X114 q114 => ?_)
         obtain ⟨z114, rfl, f114, Nq114, eq114⟩ := q114
         have N114 := Fr.app N109 Nq114
         dsimp only [Option.toList_some, Option.toList_none, List.cons_append, List.nil_append]
         refine w_if_ne X114 hx z114.toInt rfl (dB at_144) 151 147 (fun c115 => ?_) (fun c115 => ?_)
         ·exfalso; omega
         ·refine w_iconst X114 hx (dB at_147) 148 rfl (1 : Int32) (by decide) ?_
          refine w_goto X114 hx (dB at_148) 152 ?_
          refine w_istore X114 hx (dB at_152) 154 rfl #[.val (.int kr), .val (.int ls), .val (.int ms), .val (.int lf), .val (.int v73), .val (.int v76), .val (.int v79), .val (.ref a80), .val (.ref a86), .val (.int (1 : Int32))] rfl ?_
          refine w_iload X114 hx (1 : Int32) (dB at_154) 156 rfl rfl ?_
          refine w_retN X114 hx hlk (t := .boolean) hret (by simp) (dB at_156) (by decide) (by decide) ?_
          rw [eq114]
          exact ⟨rfl, N114⟩
      ·refine w_iconst X106 hx (dB at_114) 115 rfl (1 : Int32) (by decide) ?_
       refine w_goto X106 hx (dB at_115) 119 ?_
       refine w_icmp_ne X106 hx z106.toInt 1 rfl (by decide) (dB at_119) 126 122 (fun c116 => ?_) (fun c116 => ?_)
       ·exfalso; omega
       ·refine w_iconst X106 hx (dB at_122) 123 rfl (1 : Int32) (by decide) ?_
        refine w_goto X106 hx (dB at_123) 127 ?_
        refine w_istore X106 hx (dB at_127) 129 rfl #[.val (.int kr), .val (.int ls), .val (.int ms), .val (.int lf), .val (.int v73), .val (.int v76), .val (.int v79), .val (.ref a80), .val (.ref a86), .val (.int (1 : Int32))] rfl ?_
        refine w_aload X106 hx (.ref a86) (dB at_129) 131 rfl rfl rfl ?_
        refine w_virt X106 hx hZ hown eq106 (rm6 l Z a0 hw [] a86 v76 y101 T101.heap n0 Z101 F104 G101_0 G101_1 g_a86) (tw_42 hw) (tw_43 hw) (notFace_of_selects (args := #[]) (mvT hZ (tw_45 hw))) (tw_45 hw) (tw_44 hw) (tw_4 hw) (tw_46 hw) (by decide) a86 F104 (by rw [hml]; rfl) [] [] (lenOf pd_3 rfl) rfl rfl (by decide) 0 rfl (by decide) (by decide) (by decide) (dB at_131) 134 rfl (fun r117 T117 L117 X117 q117 => ?_)
        obtain ⟨rfl, Nq117, Kq117, G117_0, G117_1⟩ := q117
        have N117 := Fr.app N106 Nq117
        have F118 : Arv Z T117.heap a80 k80 .byte v73 [(.int v82), (.int (0 : Int32)), (.int (0 : Int32)), (.int (0 : Int32)), (.int (0 : Int32)), (.int (0 : Int32)), (.int (0 : Int32)), (.int (0 : Int32))] (.int (0 : Int32)) := F102.keep Kq117 (ninS ne_a80_a86 nin0)
        have F119 : Exa Z T117.heap a80 "[B" := F103.keep Kq117
        have F120 : Exa Z T117.heap a86 cN_0 := F104.keep Kq117
        have Z117 : n0 ≤ T117.heap.size := Nat.le_trans Z101 Kq117.1
        have K117 : Keep h0 T117.heap [] := K101.trans Kq117 (allS (Or.inr s_a86) all0)
        dsimp only [Option.toList_some, Option.toList_none, List.cons_append, List.nil_append]
        refine w_iload X117 hx (1 : Int32) (dB at_134) 136 rfl rfl ?_
        refine w_if_eq X117 hx 1 (by decide) (dB at_136) 151 139 (fun c121 => ?_) (fun c121 => ?_)
        ·exfalso; omega
        ·refine w_aload X117 hx (.ref a86) (dB at_139) 141 rfl rfl rfl ?_
         refine w_virt X117 hx hZ hown rfl (rm4 l Z a0 hw [] a86 v76 v76 T117.heap n0 Z117 G117_0 G117_1) (tw_31 hw) (tw_32 hw) (notFace_of_selects (args := #[]) (mvT hZ (tw_34 hw))) (tw_34 hw) (tw_33 hw) (tw_4 hw) (tw_35 hw) (by decide) a86 F120 (by rw [hml]; rfl) [] [] (lenOf pd_1 rfl) rfl rfl (by decide) 0 rfl (by decide) (by decide) (by decide) (dB at_141) 144 rfl (fun r122 T122 L122 X122 q122 => ?_)
         obtain ⟨z122, rfl, f122, Nq122, eq122⟩ := q122
         have N122 := Fr.app N117 Nq122
         dsimp only [Option.toList_some, Option.toList_none, List.cons_append, List.nil_append]
         refine w_if_ne X122 hx z122.toInt rfl (dB at_144) 151 147 (fun c123 => ?_) (fun c123 => ?_)
         ·exfalso; omega
         ·refine w_iconst X122 hx (dB at_147) 148 rfl (1 : Int32) (by decide) ?_
          refine w_goto X122 hx (dB at_148) 152 ?_
          refine w_istore X122 hx (dB at_152) 154 rfl #[.val (.int kr), .val (.int ls), .val (.int ms), .val (.int lf), .val (.int v73), .val (.int v76), .val (.int v79), .val (.ref a80), .val (.ref a86), .val (.int (1 : Int32))] rfl ?_
          refine w_iload X122 hx (1 : Int32) (dB at_154) 156 rfl rfl ?_
          refine w_retN X122 hx hlk (t := .boolean) hret (by simp) (dB at_156) (by decide) (by decide) ?_
          rw [eq122]
          exact ⟨rfl, N122⟩
  ·refine w_iconst X97 hx (dB at_73) 74 rfl (1 : Int32) (by decide) ?_
   refine w_goto X97 hx (dB at_74) 78 ?_
   refine w_icmp_ne X97 hx z97.toInt 1 rfl (by decide) (dB at_78) 85 81 (fun c124 => ?_) (fun c124 => ?_)
   ·exfalso; omega
   ·refine w_iconst X97 hx (dB at_81) 82 rfl (1 : Int32) (by decide) ?_
    refine w_goto X97 hx (dB at_82) 86 ?_
    refine w_istore X97 hx (dB at_86) 88 rfl #[.val (.int kr), .val (.int ls), .val (.int ms), .val (.int lf), .val (.int v73), .val (.int v76), .val (.int v79), .val (.ref a80), .val (.ref a86), .val (.int (1 : Int32))] rfl ?_
    refine w_iload X97 hx v79 (dB at_88) 90 rfl rfl ?_
    refine w_if_le X97 hx v79.toInt rfl (dB at_90) 129 93 (fun c125 => ?_) (fun c125 => ?_)
    ·refine w_aload X97 hx (.ref a86) (dB at_129) 131 rfl rfl rfl ?_
     refine w_virt X97 hx hZ hown eq97 (rm6 l Z a0 hw [] a86 v76 v79 T93.heap n0 Z93 F96 G93_0 G93_1 g_a86) (tw_42 hw) (tw_43 hw) (notFace_of_selects (args := #[]) (mvT hZ (tw_45 hw))) (tw_45 hw) (tw_44 hw) (tw_4 hw) (tw_46 hw) (by decide) a86 F96 (by rw [hml]; rfl) [] [] (lenOf pd_3 rfl) rfl rfl (by decide) 0 rfl (by decide) (by decide) (by decide) (dB at_131) 134 rfl (fun r126 T126 L126 X126 q126 => ?_)
     obtain ⟨rfl, Nq126, Kq126, G126_0, G126_1⟩ := q126
     have N126 := Fr.app N97 Nq126
     have F127 : Arv Z T126.heap a80 k80 .byte v73 [(.int v82), (.int (0 : Int32)), (.int (0 : Int32)), (.int (0 : Int32)), (.int (0 : Int32)), (.int (0 : Int32)), (.int (0 : Int32)), (.int (0 : Int32))] (.int (0 : Int32)) := F94.keep Kq126 (ninS ne_a80_a86 nin0)
     have F128 : Exa Z T126.heap a80 "[B" := F95.keep Kq126
     have F129 : Exa Z T126.heap a86 cN_0 := F96.keep Kq126
     have Z126 : n0 ≤ T126.heap.size := Nat.le_trans Z93 Kq126.1
     have K126 : Keep h0 T126.heap [] := K93.trans Kq126 (allS (Or.inr s_a86) all0)
     dsimp only [Option.toList_some, Option.toList_none, List.cons_append, List.nil_append]
     refine w_iload X126 hx (1 : Int32) (dB at_134) 136 rfl rfl ?_
     refine w_if_eq X126 hx 1 (by decide) (dB at_136) 151 139 (fun c130 => ?_) (fun c130 => ?_)
     ·exfalso; omega
     ·refine w_aload X126 hx (.ref a86) (dB at_139) 141 rfl rfl rfl ?_
      refine w_virt X126 hx hZ hown rfl (rm4 l Z a0 hw [] a86 v76 v76 T126.heap n0 Z126 G126_0 G126_1) (tw_31 hw) (tw_32 hw) (notFace_of_selects (args := #[]) (mvT hZ (tw_34 hw))) (tw_34 hw) (tw_33 hw) (tw_4 hw) (tw_35 hw) (by decide) a86 F129 (by rw [hml]; rfl) [] [] (lenOf pd_1 rfl) rfl rfl (by decide) 0 rfl (by decide) (by decide) (by decide) (dB at_141) 144 rfl (fun r131 T131 L131 X131 q131 => ?_)
      obtain ⟨z131, rfl, f131, Nq131, eq131⟩ := q131
      have N131 := Fr.app N126 Nq131
      dsimp only [Option.toList_some, Option.toList_none, List.cons_append, List.nil_append]
      refine w_if_ne X131 hx z131.toInt rfl (dB at_144) 151 147 (fun c132 => ?_) (fun c132 => ?_)
      ·exfalso; omega
      ·refine w_iconst X131 hx (dB at_147) 148 rfl (1 : Int32) (by decide) ?_
       refine w_goto X131 hx (dB at_148) 152 ?_
       refine w_istore X131 hx (dB at_152) 154 rfl #[.val (.int kr), .val (.int ls), .val (.int ms), .val (.int lf), .val (.int v73), .val (.int v76), .val (.int v79), .val (.ref a80), .val (.ref a86), .val (.int (1 : Int32))] rfl ?_
       refine w_iload X131 hx (1 : Int32) (dB at_154) 156 rfl rfl ?_
       refine w_retN X131 hx hlk (t := .boolean) hret (by simp) (dB at_156) (by decide) (by decide) ?_
       rw [eq131]
       exact ⟨rfl, N131⟩
    ·exfalso; omega
set_option maxRecDepth 65536 in
set_option maxHeartbeats 40000000 in
theorem comes_1 {Post : Tables → Env → Array Value → State → Outcome → State → Prop} (hpost : ∀ tb e args s v u, (limb_1_1.after args s (.returned v) u = true ∧ limb_1_2.after args s (.returned v) u = true ∧ True) → FrameEnd s (.returned v) u (Jvm.fieldLocs frame_1_writes args s ++ Jvm.arrayLocs frame_1_arrays args s ++ Jvm.staticLocs frame_1_statics s) 16 128 → Post tb e args s (.returned v) u) :
    ArmFor flags0 classFile x code maxLocals ret World_1 tables_1 room_1 Calls_1 rest_1 Pre_1 Post := by
  intro l hfl _ _ p e ha hc hk s m args below hf hA hF happ hP
  obtain ⟨hcalls, hrest, hpre⟩ := hP
  obtain ⟨-, -, -, hnamed, -, -, -, hat⟩ := (Spec.applies_iff hf).mp happ
  obtain ⟨hg, hn⟩ := and_e (Cond.before_iff.mp (show (Jvm.Cond.and given_1 narrow_1).before args s = true from hpre))
  obtain ⟨gg1, gg2⟩ := and_e hg
  obtain ⟨gg3, gg4⟩ := and_e gg2
  obtain ⟨gg5, gg6⟩ := and_e gg4
  obtain ⟨gg7, gg8⟩ := and_e gg6
  obtain ⟨w0, w1, w2, w3, rfl⟩ : ∃ w0 w1 w2 w3 : Value, args = #[w0, w1, w2, w3] := by
    have hs : args.size = 4 := by simpa [Cond.value, given_1] using gg1
    obtain ⟨L⟩ := args
    match L, hs with
    | [w0, w1, w2, w3], _ => exact ⟨w0, w1, w2, w3, rfl⟩
  have hw := fun d (hd : d ∈ tables_1) => atoms_spec (ws := Jvm.Cond.code x code maxLocals ret :: tables_1) hat d (List.mem_cons_of_mem _ hd)
  have hfit : Fit s := fun {y c} hc i hi => by
    obtain ⟨ha, rfl⟩ := Array.getElem?_eq_some_iff.mp hc
    have q := List.all_eq_true.mp ((Array.all_eq_true_iff_forall_mem.mp hF) _ (Array.getElem_mem ha)) i (List.mem_range.mpr hi)
    simpa [Array.getElem?_eq_getElem hi] using q
  obtain ⟨i0, ei0⟩ := is_v gg3
  obtain rfl : w0 = (.int i0) := Option.some.inj ei0
  obtain ⟨i1, ei1⟩ := is_v gg5
  obtain rfl : w1 = (.int i1) := Option.some.inj ei1
  obtain ⟨i2, ei2⟩ := is_v gg7
  obtain rfl : w2 = (.int i2) := Option.some.inj ei2
  obtain ⟨i3, ei3⟩ := is_v gg8
  obtain rfl : w3 = (.int i3) := Option.some.inj ei3
  obtain ⟨n, o, h1, h2, h3, _, L, rfl, ⟨rfl, N⟩, hq⟩ := rm0 l s _ hw tables_1 i0 i1 i2 i3 s.heap s.heap.size (Nat.le_refl _) p e ha hc hk s m _ below hf ((Spec.applies_iff_loose hf).mp happ).1 ⟨rfl, State.Warmed39.refl s, rfl⟩ trivial
  refine ⟨n, _, h1, h2, h3, hpost _ _ _ _ _ _ ⟨Cond.after_iff.mpr rfl, Cond.after_iff.mpr (eq_i res_at (Term.int_eval (1)) rfl), trivial⟩ ⟨hq.1, hq.2.1, (hq.2.2.sift fun y hy => Or.inr (N y hy)).mono (by decide) (by decide)⟩⟩
theorem main_1_1 : Claimed_1_1 := comes_1 fun _ _ _ _ _ _ h hF => ⟨h.1, hF⟩
theorem main_1_2 : Claimed_1_2 := comes_1 fun _ _ _ _ _ _ h hF => ⟨h.2.1, hF⟩
end Jvm.Pilot.@@N@@
namespace Jvm.Pilot.@@N@@
open Jvm Jvm.ClassFile Sem Op Lib Jvm.Free Jvm.Stand Jvm.Pilot.@@N@@.Jvm.D
/-! MADE BY PROGRAM (witnessworld.py) out of the Statement's table words and the real class files: 9 classes; the members and pool entries that the words name. The judged class is class 1, her method 1. -/
namespace start1
open Jvm.ClassFile
def u (s : String) : CpInfo := .utf8 (stringToUtf16 s)
/-- a pool by its gaps: so many unusable entries, then the entry; so many at the end -/
def gap : Nat → List CpInfo → List CpInfo
  | 0, r => r
  | n + 1, r => .unusable :: gap n r
def poolList (es : List (Nat × CpInfo)) (last : Nat) : List CpInfo := es.foldr (fun e r => gap e.1 (e.2 :: r)) (gap last [])
def pool (es : List (Nat × CpInfo)) (last : Nat) : Array CpInfo := ⟨poolList es last⟩
def fileOf (pool : Array CpInfo) (this : Nat) (attrs : Array Attribute := #[]) (ms : Array MethodInfo := #[]) (fl : Nat := 33) (sup : Nat := 0) (ifs : Array Nat := #[]) (fds : Array FieldInfo := #[]) : ClassFile where
  minorVersion := 0
  majorVersion := 65
  constantPool := pool
  accessFlags := fl
  thisClass := this
  superClass := sup
  interfaces := ifs
  fields := fds
  methods := ms
  attributes := attrs
def plain (name : String) (sup : Option ClassId) : Class where
  name := name
  kind := .ordinary
  loader := none
  accessFlags := 33
  super := sup
  interfaces := #[]
  cf := none
  fields := #[]
  methods := #[]
  instanceTypes := #[]
  staticTypes := #[]
  resolved := #[]
  callSites := []
  init := .initialized
  statics := none
  mirror := none

def pool0 : Array CpInfo := pool [(5, u "<init>"), (0, u "()V"), (1, .class_ 10), (1, u "java/lang/Object"), (85, u "clone"), (0, u "()Ljava/lang/Object;")] 26

def k0c0 : Code := { maxStack := 0, maxLocals := 1, code := object_method_1_code, exceptionTable := #[], attributes := #[] }
def k0m0 : Method := { name := "<init>", desc := "()V", sig := { parameters := [], returnType := none }, accessFlags := 1, code := some k0c0 }
def k0m1 : Method := { name := "clone", desc := "()Ljava/lang/Object;", sig := { parameters := [], returnType := some (.object "java/lang/Object") }, accessFlags := 260, code := none }
/-- java/lang/Object -/
def k0 : Class := { plain "java/lang/Object" none with
  accessFlags := 33
  interfaces := #[]
  cf := some (fileOf pool0 8 #[] #[{ accessFlags := 1, nameIndex := 5, descriptorIndex := 6, attributes := #[] }, { accessFlags := 260, nameIndex := 96, descriptorIndex := 97, attributes := #[] }] 33 0 #[] #[])
  fields := #[]
  methods := #[k0m0, k0m1]
  instanceTypes := #[]
  staticTypes := #[]
  resolved := Array.replicate 124 none
  statics := none }

def pool1 : Array CpInfo := pool [(2, .class_ 4), (1, u "java/lang/Object"), (0, u "<init>"), (0, u "()V"), (0, .integer 2147483647), (0, .class_ 9), (0, u "com/example/nodecard/nodecard/card/Pin"), (0, .methodref 8 11), (0, .nameAndType 5 12), (0, u "(I[BII)V"), (0, .methodref 8 14), (0, .nameAndType 15 16), (0, u "blocked"), (0, u "()Z"), (0, .methodref 8 18), (0, .nameAndType 19 6), (0, u "takeTry"), (0, .methodref 8 21), (0, .nameAndType 22 6), (0, u "giveTriesBack"), (0, .class_ 24), (0, u "com/example/nodecard/nodecard/card/PinBlockedPinLaw"), (2, u "law"), (0, u "(IIII)Z")] 5

def k1m0 : Method := { name := "<init>", desc := "()V", sig := { parameters := [], returnType := none }, accessFlags := 1, code := none }
def k1c1 : Code := { maxStack := 6, maxLocals := 10, code := code, exceptionTable := #[], attributes := #[] }
def k1m1 : Method := { name := "law", desc := "(IIII)Z", sig := { parameters := [.int, .int, .int, .int], returnType := some .boolean }, accessFlags := 9, code := some k1c1 }
/-- com/example/nodecard/nodecard/card/PinBlockedPinLaw -/
def k1 : Class := { plain "com/example/nodecard/nodecard/card/PinBlockedPinLaw" (some 0) with
  accessFlags := 49
  interfaces := #[]
  cf := some (fileOf pool1 23 #[] #[{ accessFlags := 1, nameIndex := 5, descriptorIndex := 6, attributes := #[] }, { accessFlags := 9, nameIndex := 27, descriptorIndex := 28, attributes := #[] }] 49 2 #[] #[])
  fields := #[]
  methods := #[k1m0, k1m1]
  instanceTypes := #[]
  staticTypes := #[]
  resolved := Array.replicate 34 none
  statics := none }

def pool2 : Array CpInfo := pool [(1, .methodref 2 3), (0, .class_ 4), (0, .nameAndType 5 6), (0, u "java/lang/Object"), (0, u "<init>"), (0, u "()V"), (0, .methodref 8 9), (0, .class_ 10), (0, .nameAndType 11 12), (0, u "com/example/nodecard/nodecard/card/Pin"), (0, u "checkLength"), (0, u "(I)V"), (12, .fieldref 8 26), (0, .nameAndType 27 28), (0, u "keyReference"), (0, u "I"), (0, .methodref 30 31), (0, .class_ 32), (0, .nameAndType 33 34), (0, u "[B"), (0, u "clone"), (0, u "()Ljava/lang/Object;"), (0, .fieldref 8 36), (0, .nameAndType 37 32), (0, u "value"), (0, .fieldref 8 39), (0, .nameAndType 40 28), (0, u "maxTries"), (0, .fieldref 8 42), (0, .nameAndType 43 28), (0, u "triesLeft"), (23, .methodref 8 68), (0, .nameAndType 69 70), (0, u "blocked"), (0, u "()Z"), (21, u "MIN_LENGTH"), (2, u "MAX_LENGTH"), (1, u "MIN_TRIES"), (1, u "MAX_TRIES"), (1, u "PADDING"), (0, u "B"), (1, u "(I[BII)V"), (8, u "takeTry"), (0, u "giveTriesBack")] 23

def k2c0 : Code := { maxStack := 4, maxLocals := 5, code := prog_29_method_1_code, exceptionTable := #[], attributes := #[] }
def k2m0 : Method := { name := "<init>", desc := "(I[BII)V", sig := { parameters := [.int, (.array .byte), .int, .int], returnType := none }, accessFlags := 0, code := some k2c0 }
def k2c1 : Code := { maxStack := 3, maxLocals := 1, code := prog_29_method_3_code, exceptionTable := #[], attributes := #[] }
def k2m1 : Method := { name := "checkLength", desc := "(I)V", sig := { parameters := [.int], returnType := none }, accessFlags := 10, code := some k2c1 }
def k2c2 : Code := { maxStack := 1, maxLocals := 1, code := prog_29_method_8_code, exceptionTable := #[], attributes := #[] }
def k2m2 : Method := { name := "blocked", desc := "()Z", sig := { parameters := [], returnType := some .boolean }, accessFlags := 0, code := some k2c2 }
def k2c3 : Code := { maxStack := 3, maxLocals := 1, code := prog_29_method_9_code, exceptionTable := #[], attributes := #[] }
def k2m3 : Method := { name := "takeTry", desc := "()V", sig := { parameters := [], returnType := none }, accessFlags := 0, code := some k2c3 }
def k2c4 : Code := { maxStack := 2, maxLocals := 1, code := prog_29_method_10_code, exceptionTable := #[], attributes := #[] }
def k2m4 : Method := { name := "giveTriesBack", desc := "()V", sig := { parameters := [], returnType := none }, accessFlags := 0, code := some k2c4 }
/-- com/example/nodecard/nodecard/card/Pin -/
def k2 : Class := { plain "com/example/nodecard/nodecard/card/Pin" (some 0) with
  accessFlags := 48
  interfaces := #[]
  cf := some (fileOf pool2 8 #[] #[{ accessFlags := 0, nameIndex := 5, descriptorIndex := 104, attributes := #[] }, { accessFlags := 10, nameIndex := 11, descriptorIndex := 12, attributes := #[] }, { accessFlags := 0, nameIndex := 69, descriptorIndex := 70, attributes := #[] }, { accessFlags := 0, nameIndex := 113, descriptorIndex := 6, attributes := #[] }, { accessFlags := 0, nameIndex := 114, descriptorIndex := 6, attributes := #[] }] 48 2 #[] #[{ accessFlags := 24, nameIndex := 92, descriptorIndex := 28, attributes := #[] }, { accessFlags := 24, nameIndex := 95, descriptorIndex := 28, attributes := #[] }, { accessFlags := 24, nameIndex := 97, descriptorIndex := 28, attributes := #[] }, { accessFlags := 24, nameIndex := 99, descriptorIndex := 28, attributes := #[] }, { accessFlags := 26, nameIndex := 101, descriptorIndex := 102, attributes := #[] }, { accessFlags := 18, nameIndex := 27, descriptorIndex := 28, attributes := #[] }, { accessFlags := 18, nameIndex := 37, descriptorIndex := 32, attributes := #[] }, { accessFlags := 18, nameIndex := 40, descriptorIndex := 28, attributes := #[] }, { accessFlags := 2, nameIndex := 43, descriptorIndex := 28, attributes := #[] }])
  fields := #[{ name := "MIN_LENGTH", type := .int, accessFlags := 24, slot := 0, constantValue := 0 }, { name := "MAX_LENGTH", type := .int, accessFlags := 24, slot := 1, constantValue := 0 }, { name := "MIN_TRIES", type := .int, accessFlags := 24, slot := 2, constantValue := 0 }, { name := "MAX_TRIES", type := .int, accessFlags := 24, slot := 3, constantValue := 0 }, { name := "PADDING", type := .byte, accessFlags := 26, slot := 4, constantValue := 0 }, { name := "keyReference", type := .int, accessFlags := 18, slot := 0, constantValue := 0 }, { name := "value", type := (.array .byte), accessFlags := 18, slot := 1, constantValue := 0 }, { name := "maxTries", type := .int, accessFlags := 18, slot := 2, constantValue := 0 }, { name := "triesLeft", type := .int, accessFlags := 2, slot := 3, constantValue := 0 }]
  methods := #[k2m0, k2m1, k2m2, k2m3, k2m4]
  instanceTypes := #[.int, (.array .byte), .int, .int]
  staticTypes := #[.int, .int, .int, .int, .byte]
  resolved := Array.replicate 138 none
  statics := none }

def pool3 : Array CpInfo := pool [(1, .class_ 2), (0, u "java/lang/Cloneable"), (0, .class_ 4), (0, u "java/lang/Object")] 2

/-- java/lang/Cloneable -/
def k3 : Class := { plain "java/lang/Cloneable" (some 0) with
  accessFlags := 1537
  interfaces := #[]
  cf := some (fileOf pool3 1 #[] #[] 1537 3 #[] #[])
  fields := #[]
  methods := #[]
  instanceTypes := #[]
  staticTypes := #[]
  resolved := Array.replicate 7 none
  statics := none }

def pool4 : Array CpInfo := pool [(1, u "java/io/Serializable"), (0, .class_ 1), (0, u "java/lang/Object"), (0, .class_ 3)] 3

/-- java/io/Serializable -/
def k4 : Class := { plain "java/io/Serializable" (some 0) with
  accessFlags := 1537
  interfaces := #[]
  cf := some (fileOf pool4 2 #[] #[] 1537 4 #[] #[])
  fields := #[]
  methods := #[]
  instanceTypes := #[]
  staticTypes := #[]
  resolved := Array.replicate 8 none
  statics := none }

/-- the primitive byte -/
def k5 : Class := { plain "byte" none with kind := .primitive 'B', accessFlags := 0x411 }
/-- [B -/
def k6 : Class := { plain "[B" (some 0) with kind := .array 5 .byte, interfaces := #[3, 4], accessFlags := 1041 }

/-- the primitive int -/
def k7 : Class := { plain "int" none with kind := .primitive 'I', accessFlags := 0x411 }
/-- [I -/
def k8 : Class := { plain "[I" (some 0) with kind := .array 7 .int, interfaces := #[3, 4], accessFlags := 1041 }

def heap : Heap := #[]
def classes : Array Class := #[k0, k1, k2, k3, k4, k5, k6, k7, k8]
def interned : List (Array UInt16 × Addr) := []
def slotsUsed : Nat := 0
def theMethod : MethodId := ⟨1, 1⟩
def args0 : Array Value := #[.int 5, .int 7, .int 1, .int 2]
def aboutOver (below : List Frame) : State where
  vm := { classes := classes, interned := interned.toArray }
  heap := heap
  slotsUsed := slotsUsed
  threads := #[{ frames := .invoking theMethod args0 :: below }]
def below0 : List Frame := [.native { method := ⟨0, 0⟩, args := #[] }]
def about1 : State := aboutOver below0
def p0 : Program := .bare "" "" ""
def e0 : Env := launch0.env 0 0 0
theorem w_frames : about1.frames = Frame.invoking theMethod args0 :: below0 := rfl
set_option maxRecDepth 65536 in
theorem w_args : argsFit about1.vm theMethod args0 = true := by decide +kernel
set_option maxRecDepth 65536 in
theorem w_heap : heapFits about1 = true := by decide +kernel
set_option maxRecDepth 65536 in
theorem w_runnable : about1.curStatus? = some .runnable := by decide +kernel
set_option maxRecDepth 65536 in
theorem w_alone : about1.alone = true := by decide +kernel
set_option maxRecDepth 65536 in
theorem w_named : about1.methodNamed? x = some theMethod := by decide +kernel
set_option maxRecDepth 65536 in
theorem w_hears : about1.hears theMethod below0 = true := by decide +kernel
set_option maxRecDepth 65536 in
theorem w_ripe : about1.ripe theMethod args0 below0 = true := by decide +kernel
theorem w_running : about1.status = .running := rfl
set_option maxRecDepth 65536 in
theorem w_room : about1.hasRoom e0.platform room_1 = true :=
  launch0.hasRoom_least _ room_1 (by decide +kernel) (by decide +kernel) (by decide +kernel) (by decide +kernel) (by decide +kernel) (by decide +kernel)
theorem allAtoms_all (ts : List Jvm.Cond) (a : Array Jvm.Value) (st : Jvm.State) : (allAtoms ts).before a st = ts.all (fun c => c.before a st) := by
  induction ts with
  | nil => rfl
  | cons c t ih =>
    show (Jvm.Cond.and c (allAtoms t)).before a st = _
    rw [Jvm.Cond.before_and, ih, List.all_cons]
def words1 : List Jvm.Cond := Jvm.Cond.code x code maxLocals ret :: tables_1
/-- a 'code' word, met by the world's own term for the bytes: nothing is compared byte by byte -/
theorem code_word {y : MethodName} {bytes : ByteArray} {mx : Nat} {rt : Option FieldType} {a : Array Value} {s : State} {m : MethodId} {meth : Method} {c : Code} (h1 : s.methodNamed? y = some m) (h2 : s.vm.method? m = some meth) (h3 : meth.code = some c) (h4 : c.code = bytes)
    (h5 : (c.maxLocals == mx && c.exceptionTable.isEmpty && decide (c.maxStack ≤ mostOperands) && decide (meth.sig.returnType = rt) && !meth.locks && decide (parseMethodDescriptor y.desc = some meth.sig)) = true) : (Jvm.Cond.code y bytes mx rt).before a s = true := by
  simp only [Bool.and_eq_true, beq_iff_eq, Bool.not_eq_true', decide_eq_true_eq] at h5
  obtain ⟨⟨⟨⟨⟨g1, g2⟩, g3⟩, g4⟩, g5⟩, g6⟩ := h5
  simp [Cond.before, Cond.holds, Cond.value, h1, h2, h3, h4, g1, g2, g3, g4, g5, g6]
def isCode : Jvm.Cond → Bool
  | .code _ _ _ _ => true
  | _ => false
theorem all_split {L : List Jvm.Cond} {P : Jvm.Cond → Bool} (h1 : L.all (fun c => isCode c || P c) = true) (h2 : ∀ c ∈ L.filter isCode, P c = true) : L.all P = true := by
  refine List.all_eq_true.mpr fun c hc => ?_
  have h := List.all_eq_true.mp h1 c hc
  rcases Bool.eq_false_or_eq_true (isCode c) with hi | hi
  · exact h2 c (List.mem_filter.mpr ⟨hc, hi⟩)
  · simpa [hi] using h
set_option maxRecDepth 65536 in
theorem w_c0 : (Jvm.Cond.code x code maxLocals ret).before args0 about1 = true := code_word (m := ⟨1, 1⟩) (meth := k1m1) (c := k1c1) (by decide +kernel) rfl rfl rfl (by decide +kernel)
set_option maxRecDepth 65536 in
theorem w_c1 : (Jvm.Cond.code ({ cls := "com/example/nodecard/nodecard/card/Pin", name := "<init>", desc := "(I[BII)V" } : Jvm.MethodName) prog_29_method_1_code (5 : Nat) (Option.none : Option Jvm.ClassFile.FieldType)).before args0 about1 = true := code_word (m := ⟨2, 0⟩) (meth := k2m0) (c := k2c0) (by decide +kernel) rfl rfl rfl (by decide +kernel)
set_option maxRecDepth 65536 in
theorem w_c2 : (Jvm.Cond.code ({ cls := "java/lang/Object", name := "<init>", desc := "()V" } : Jvm.MethodName) object_method_1_code (1 : Nat) (Option.none : Option Jvm.ClassFile.FieldType)).before args0 about1 = true := code_word (m := ⟨0, 0⟩) (meth := k0m0) (c := k0c0) (by decide +kernel) rfl rfl rfl (by decide +kernel)
set_option maxRecDepth 65536 in
theorem w_c3 : (Jvm.Cond.code ({ cls := "com/example/nodecard/nodecard/card/Pin", name := "checkLength", desc := "(I)V" } : Jvm.MethodName) prog_29_method_3_code (1 : Nat) (Option.none : Option Jvm.ClassFile.FieldType)).before args0 about1 = true := code_word (m := ⟨2, 1⟩) (meth := k2m1) (c := k2c1) (by decide +kernel) rfl rfl rfl (by decide +kernel)
set_option maxRecDepth 65536 in
theorem w_c4 : (Jvm.Cond.code ({ cls := "com/example/nodecard/nodecard/card/Pin", name := "blocked", desc := "()Z" } : Jvm.MethodName) prog_29_method_8_code (1 : Nat) (Option.some Jvm.ClassFile.FieldType.boolean)).before args0 about1 = true := code_word (m := ⟨2, 2⟩) (meth := k2m2) (c := k2c2) (by decide +kernel) rfl rfl rfl (by decide +kernel)
set_option maxRecDepth 65536 in
theorem w_c5 : (Jvm.Cond.code ({ cls := "com/example/nodecard/nodecard/card/Pin", name := "takeTry", desc := "()V" } : Jvm.MethodName) prog_29_method_9_code (1 : Nat) (Option.none : Option Jvm.ClassFile.FieldType)).before args0 about1 = true := code_word (m := ⟨2, 3⟩) (meth := k2m3) (c := k2c3) (by decide +kernel) rfl rfl rfl (by decide +kernel)
set_option maxRecDepth 65536 in
theorem w_c6 : (Jvm.Cond.code ({ cls := "com/example/nodecard/nodecard/card/Pin", name := "giveTriesBack", desc := "()V" } : Jvm.MethodName) prog_29_method_10_code (1 : Nat) (Option.none : Option Jvm.ClassFile.FieldType)).before args0 about1 = true := code_word (m := ⟨2, 4⟩) (meth := k2m4) (c := k2c4) (by decide +kernel) rfl rfl rfl (by decide +kernel)
def codes1 : List Jvm.Cond := [Jvm.Cond.code x code maxLocals ret, Jvm.Cond.code ({ cls := "com/example/nodecard/nodecard/card/Pin", name := "<init>", desc := "(I[BII)V" } : Jvm.MethodName) prog_29_method_1_code (5 : Nat) (Option.none : Option Jvm.ClassFile.FieldType), Jvm.Cond.code ({ cls := "java/lang/Object", name := "<init>", desc := "()V" } : Jvm.MethodName) object_method_1_code (1 : Nat) (Option.none : Option Jvm.ClassFile.FieldType), Jvm.Cond.code ({ cls := "com/example/nodecard/nodecard/card/Pin", name := "checkLength", desc := "(I)V" } : Jvm.MethodName) prog_29_method_3_code (1 : Nat) (Option.none : Option Jvm.ClassFile.FieldType), Jvm.Cond.code ({ cls := "com/example/nodecard/nodecard/card/Pin", name := "blocked", desc := "()Z" } : Jvm.MethodName) prog_29_method_8_code (1 : Nat) (Option.some Jvm.ClassFile.FieldType.boolean), Jvm.Cond.code ({ cls := "com/example/nodecard/nodecard/card/Pin", name := "takeTry", desc := "()V" } : Jvm.MethodName) prog_29_method_9_code (1 : Nat) (Option.none : Option Jvm.ClassFile.FieldType), Jvm.Cond.code ({ cls := "com/example/nodecard/nodecard/card/Pin", name := "giveTriesBack", desc := "()V" } : Jvm.MethodName) prog_29_method_10_code (1 : Nat) (Option.none : Option Jvm.ClassFile.FieldType)]
set_option maxRecDepth 65536 in
theorem codes_eq : words1.filter isCode = codes1 := rfl
theorem w_codes : ∀ c ∈ words1.filter isCode, c.before args0 about1 = true := by
  rw [codes_eq]
  intro c hc
  simp only [codes1, List.mem_cons, List.not_mem_nil, or_false] at hc
  rcases hc with rfl | rfl | rfl | rfl | rfl | rfl | rfl
  · exact w_c0
  · exact w_c1
  · exact w_c2
  · exact w_c3
  · exact w_c4
  · exact w_c5
  · exact w_c6
set_option maxRecDepth 65536 in
theorem w_t1 : (words1.take 24).all (fun c => isCode c || c.before args0 about1) = true := by decide +kernel
set_option maxRecDepth 65536 in
theorem w_t2 : (words1.drop 24).all (fun c => isCode c || c.before args0 about1) = true := by decide +kernel
theorem w_tables : (allAtoms (Jvm.Cond.code x code maxLocals ret :: tables_1)).before args0 about1 = true := by
  rw [allAtoms_all]
  show words1.all (fun c => c.before args0 about1) = true
  refine all_split ?_ w_codes
  rw [← List.take_append_drop 24 words1, List.all_append, w_t1, w_t2]
  rfl
set_option maxRecDepth 65536 in
theorem w_case : (Jvm.Cond.and given_1 narrow_1).before args0 about1 = true := by decide +kernel
theorem w_applies : (headSpec (Jvm.Cond.code x code maxLocals ret :: tables_1) room_1).applies x e0.platform about1 = true :=
  (Spec.applies_iff w_frames).mpr ⟨w_running, w_runnable, w_alone, w_named, w_hears, w_ripe, w_room, w_tables⟩
theorem atStart : AtStart classFile x code maxLocals ret World_1 tables_1 room_1 Calls_1 rest_1 Pre_1 launch0 p0 e0 about1 theMethod args0 below0 :=
  ⟨lists_1, trivial, launch0.admits_env _ _ _, launch0.least_env, fairChoices_fair.cas, fairChoices_fair.clock, w_frames, w_args, w_heap, w_applies, trivial, trivial, w_case⟩
end start1
theorem witness_1 : WitnessClaimed_1 := ⟨start1.p0, start1.e0, start1.about1, start1.theMethod, start1.args0, start1.below0, start1.atStart⟩
end Jvm.Pilot.@@N@@
