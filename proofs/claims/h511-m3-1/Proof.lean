import JvmDerived
import JvmDerived.Pilot.@@N@@Statement
import JvmDerived.Pilot.@@N@@Code
set_option linter.unusedVariables false
set_option linter.unusedSimpArgs false
namespace Jvm.Own
open Sem ClassFile Op Lib Jvm.Stand Jvm.Free Jvm.LawKit Jvm.RoadKit
/-- from here the run goes on to a return that the contract allows -/
def Wk (p : Program) (e : Env) (below : List Frame) (F : Outcome → State → Prop) (T : State) (g : JFrame) : Prop :=
  ∃ s₂ o, Steps p.tables e below (T.setTop g) s₂ ∧ s₂.status = .running ∧ Ended s₂ below o ∧ F o s₂
abbrev FN (s : State) (Q : Option Value → Heap → List Loc → Prop) (kc ks : Nat) : Outcome → State → Prop := fun o s₂ => ∃ v L, o = .returned v ∧ Q v s₂.heap L ∧ FrameEnd s o s₂ L kc ks
section Walk
variable {p : Program} {l : Launch} {e : Env} {R : Room} {s : State} {m : MethodId} {args : Array Value} {below : List Frame} {meth : Method} {c : Code} {T : State} {locs : List Loc} {cells slots : Nat} {Q : Option Value → Heap → List Loc → Prop} {Fe : Outcome → State → Prop} {kc ks pc : Nat} {Ls : Array Slot} {S : List Value} {Z : State} {a0 : Array Value} {h : Heap}
theorem Wk.step {T' : State} {g g' : JFrame} (h : Wk p e below Fe T' g') (st : ∀ t, Steps p.tables e below (T'.setTop g') t → Steps p.tables e below (T.setTop g) t) : Wk p e below Fe T g := by
  obtain ⟨s₂, o, h1, h2⟩ := h
  exact ⟨s₂, o, st _ h1, h2⟩
theorem Wk.come {T' : State} {g g' : JFrame} (h : Wk p e below Fe T' g') (st : Steps p.tables e below (T.setTop g) (T'.setTop g')) : Wk p e below Fe T g := h.step fun _ k => st.trans k
theorem w_iload (X : Stand p l e R s m args below meth c T locs cells slots) (hx : p.tables.exec = Jvm.exec) {k : Nat} (v : Int32) (hd : decode c.code pc = .ok (.iload k, 2)) (pc' : Nat) (hp : pc + 2 = pc') (hl : Ls[k]? = some (.val (.int v))) (h : Wk p e below Fe T (mkF m pc' Ls (.int v :: S))) : Wk p e below Fe T (mkF m pc Ls S) := by
  subst hp; exact h.step fun _ k => XS.iload X.here hx rfl hd hl k
theorem w_iloadN (X : Stand p l e R s m args below meth c T locs cells slots) (hx : p.tables.exec = Jvm.exec) {k : Fin 4} (v : Int32) (hd : decode c.code pc = .ok (.iload_n k, 1)) (pc' : Nat) (hp : pc + 1 = pc') (hl : Ls[k.val]? = some (.val (.int v))) (h : Wk p e below Fe T (mkF m pc' Ls (.int v :: S))) : Wk p e below Fe T (mkF m pc Ls S) := by
  subst hp; exact h.step fun _ k => XS.iloadN X.here hx rfl hd hl k
theorem w_istore (X : Stand p l e R s m args below meth c T locs cells slots) (hx : p.tables.exec = Jvm.exec) {k : Nat} {x : Int32} (hd : decode c.code pc = .ok (.istore k, 2)) (pc' : Nat) (hp : pc + 2 = pc') (l' : Array Slot) (hl : storeLocals Ls k (.int x) = some l') (h : Wk p e below Fe T (mkF m pc' l' S)) : Wk p e below Fe T (mkF m pc Ls (.int x :: S)) := by
  subst hp; exact h.step fun _ k => XS.istore X.here hx rfl hd rfl hl k
theorem w_istoreN (X : Stand p l e R s m args below meth c T locs cells slots) (hx : p.tables.exec = Jvm.exec) {k : Fin 4} {x : Int32} (hd : decode c.code pc = .ok (.istore_n k, 1)) (pc' : Nat) (hp : pc + 1 = pc') (l' : Array Slot) (hl : storeLocals Ls k.val (.int x) = some l') (h : Wk p e below Fe T (mkF m pc' l' S)) : Wk p e below Fe T (mkF m pc Ls (.int x :: S)) := by
  subst hp; exact h.step fun _ k => XS.istoreN X.here hx rfl hd rfl hl k
theorem w_iconst (X : Stand p l e R s m args below meth c T locs cells slots) (hx : p.tables.exec = Jvm.exec) {i : Int} (hd : decode c.code pc = .ok (.iconst i, 1)) (pc' : Nat) (hp : pc + 1 = pc') (z : Int32) (hz : Int32.ofInt i = z) (h : Wk p e below Fe T (mkF m pc' Ls (.int z :: S))) : Wk p e below Fe T (mkF m pc Ls S) := by
  subst hp hz; exact h.step fun _ k => XS.iconst X.here hx rfl hd k
theorem w_bipush (X : Stand p l e R s m args below meth c T locs cells slots) (hx : p.tables.exec = Jvm.exec) {i : Int} (hd : decode c.code pc = .ok (.bipush i, 2)) (pc' : Nat) (hp : pc + 2 = pc') (z : Int32) (hz : (Int8.ofInt i).toInt32 = z) (h : Wk p e below Fe T (mkF m pc' Ls (.int z :: S))) : Wk p e below Fe T (mkF m pc Ls S) := by
  subst hp hz; exact h.step fun _ k => XS.bipush X.here hx rfl hd k
theorem w_ldc (X : Stand p l e R s m args below meth c T locs cells slots) (hx : p.tables.exec = Jvm.exec) (hZ : Z.Warmed39 s.vm) {own : String} {index : Nat} {v : Int32} (hown : s.vm.findClass own = some m.cls) (w : (Cond.constant own index v).before a0 Z = true) (hd : decode c.code pc = .ok (.ldc index, 2)) (pc' : Nat) (hp : pc + 2 = pc') (h : Wk p e below Fe T (mkF m pc' Ls (.int v :: S))) : Wk p e below Fe T (mkF m pc Ls S) := by
  subst hp; exact h.step fun _ k => X.ldcInt hx hown (mvT hZ w) (g := mkF m pc Ls S) rfl hd _ k
theorem w_isub (X : Stand p l e R s m args below meth c T locs cells slots) (hx : p.tables.exec = Jvm.exec) {x y : Int32} (hd : decode c.code pc = .ok (.isub, 1)) (pc' : Nat) (hp : pc + 1 = pc') {z : Int32} (hz : z = x - y) (h : Wk p e below Fe T (mkF m pc' Ls (.int z :: S))) : Wk p e below Fe T (mkF m pc Ls (.int y :: .int x :: S)) := by
  subst hp hz; exact h.step fun _ k => XS.isub X.here hx rfl hd rfl k
theorem w_iand (X : Stand p l e R s m args below meth c T locs cells slots) (hx : p.tables.exec = Jvm.exec) {x y : Int32} (hd : decode c.code pc = .ok (.iand, 1)) (pc' : Nat) (hp : pc + 1 = pc') {z : Int32} (hz : z = x &&& y) (h : Wk p e below Fe T (mkF m pc' Ls (.int z :: S))) : Wk p e below Fe T (mkF m pc Ls (.int y :: .int x :: S)) := by
  subst hp hz; exact h.step fun _ k => XS.iand X.here hx rfl hd rfl k
theorem w_ior (X : Stand p l e R s m args below meth c T locs cells slots) (hx : p.tables.exec = Jvm.exec) {x y : Int32} (hd : decode c.code pc = .ok (.ior, 1)) (pc' : Nat) (hp : pc + 1 = pc') {z : Int32} (hz : z = x ||| y) (h : Wk p e below Fe T (mkF m pc' Ls (.int z :: S))) : Wk p e below Fe T (mkF m pc Ls (.int y :: .int x :: S)) := by
  subst hp hz; exact h.step fun _ k => XS.ior X.here hx rfl hd rfl k
theorem w_i2c (X : Stand p l e R s m args below meth c T locs cells slots) (hx : p.tables.exec = Jvm.exec) {x : Int32} (hd : decode c.code pc = .ok (.i2c, 1)) (pc' : Nat) (hp : pc + 1 = pc') {z : Int32} (hz : z = x.toUInt32.toUInt16.toUInt32.toInt32) (h : Wk p e below Fe T (mkF m pc' Ls (.int z :: S))) : Wk p e below Fe T (mkF m pc Ls (.int x :: S)) := by
  subst hp hz; exact h.step fun _ k => XS.i2c X.here hx rfl hd rfl k
theorem w_goto (X : Stand p l e R s m args below meth c T locs cells slots) (hx : p.tables.exec = Jvm.exec) {o : Int} (hd : decode c.code pc = .ok (.goto o, 3)) (pc' : Nat) (h : Wk p e below Fe T (mkF m pc' Ls S)) (ho : 0 ≤ (pc : Int) + o := by decide) (hp : ((pc : Int) + o).toNat = pc' := by decide) : Wk p e below Fe T (mkF m pc Ls S) := by
  exact h.step fun _ k => XS.goto X.here hx rfl rfl hd ho hp k
theorem holds_eq {x y : Int32} {A B : Int} (ha : x.toInt = A) (hb : y.toInt = B) : ((A = B) → if_icmp.holds .eq x y = true) ∧ ((¬ A = B) → if_icmp.holds .eq x y = false) := by
  subst ha hb
  constructor
  · intro q
    first
    | exact (tlt (x := x) (y := y) (Int32.lt_iff_toInt_lt.mpr (by omega))).1
    | exact (flt (x := x) (y := y) (fun r => by have := Int32.lt_iff_toInt_lt.mp r; omega)).2.1
    | exact (tlt (x := y) (y := x) (Int32.lt_iff_toInt_lt.mpr (by omega))).2.2.1
    | exact (flt (x := y) (y := x) (fun r => by have := Int32.lt_iff_toInt_lt.mp r; omega)).2.2.2
    | exact (teq (x := x) (y := y) (Int32.toInt_inj.mp (by omega))).1
    | exact (feq (x := x) (y := y) (fun r => q (by rw [r]))).2
  · intro q
    first
    | exact (flt (x := x) (y := y) (fun r => by have := Int32.lt_iff_toInt_lt.mp r; omega)).1
    | exact (tlt (x := x) (y := y) (Int32.lt_iff_toInt_lt.mpr (by omega))).2.1
    | exact (flt (x := y) (y := x) (fun r => by have := Int32.lt_iff_toInt_lt.mp r; omega)).2.2.1
    | exact (tlt (x := y) (y := x) (Int32.lt_iff_toInt_lt.mpr (by omega))).2.2.2
    | exact (feq (x := x) (y := y) (fun r => q (by rw [r]))).1
    | exact (teq (x := x) (y := y) (Int32.toInt_inj.mp (by omega))).2
theorem w_if_eq (X : Stand p l e R s m args below meth c T locs cells slots) (hx : p.tables.exec = Jvm.exec) {x : Int32} {o : Int} (A : Int) (ha : x.toInt = A) (hd : decode c.code pc = .ok (.ifCond .eq o, 3)) (pt pn : Nat) (h1 : A = 0 → Wk p e below Fe T (mkF m pt Ls S)) (h2 : ¬ A = 0 → Wk p e below Fe T (mkF m pn Ls S)) (ho : 0 ≤ (pc : Int) + o := by decide) (hp : ((pc : Int) + o).toNat = pt := by decide) (hn : pc + 3 = pn := by rfl) : Wk p e below Fe T (mkF m pc Ls (.int x :: S)) := by
  subst hn
  have hb : (0 : Int32).toInt = 0 := rfl
  by_cases q : A = 0
  · exact (h1 q).step fun _ k => XS.ifYes X.here hx rfl rfl hd rfl ((if0 _ _).trans ((holds_eq ha hb).1 q)) ho hp k
  · have q' : ¬ A = 0 := by omega
    exact (h2 q').step fun _ k => XS.ifNo X.here hx rfl hd rfl ((if0 _ _).trans ((holds_eq ha hb).2 q')) k
theorem holds_ne {x y : Int32} {A B : Int} (ha : x.toInt = A) (hb : y.toInt = B) : ((¬ A = B) → if_icmp.holds .ne x y = true) ∧ ((A = B) → if_icmp.holds .ne x y = false) := by
  subst ha hb
  constructor
  · intro q
    first
    | exact (tlt (x := x) (y := y) (Int32.lt_iff_toInt_lt.mpr (by omega))).1
    | exact (flt (x := x) (y := y) (fun r => by have := Int32.lt_iff_toInt_lt.mp r; omega)).2.1
    | exact (tlt (x := y) (y := x) (Int32.lt_iff_toInt_lt.mpr (by omega))).2.2.1
    | exact (flt (x := y) (y := x) (fun r => by have := Int32.lt_iff_toInt_lt.mp r; omega)).2.2.2
    | exact (teq (x := x) (y := y) (Int32.toInt_inj.mp (by omega))).1
    | exact (feq (x := x) (y := y) (fun r => q (by rw [r]))).2
  · intro q
    first
    | exact (flt (x := x) (y := y) (fun r => by have := Int32.lt_iff_toInt_lt.mp r; omega)).1
    | exact (tlt (x := x) (y := y) (Int32.lt_iff_toInt_lt.mpr (by omega))).2.1
    | exact (flt (x := y) (y := x) (fun r => by have := Int32.lt_iff_toInt_lt.mp r; omega)).2.2.1
    | exact (tlt (x := y) (y := x) (Int32.lt_iff_toInt_lt.mpr (by omega))).2.2.2
    | exact (feq (x := x) (y := y) (fun r => q (by rw [r]))).1
    | exact (teq (x := x) (y := y) (Int32.toInt_inj.mp (by omega))).2
theorem w_icmp_ne (X : Stand p l e R s m args below meth c T locs cells slots) (hx : p.tables.exec = Jvm.exec) {x y : Int32} {o : Int} (A B : Int) (ha : x.toInt = A) (hb : y.toInt = B) (hd : decode c.code pc = .ok (.if_icmp .ne o, 3)) (pt pn : Nat) (h1 : ¬ A = B → Wk p e below Fe T (mkF m pt Ls S)) (h2 : A = B → Wk p e below Fe T (mkF m pn Ls S)) (ho : 0 ≤ (pc : Int) + o := by decide) (hp : ((pc : Int) + o).toNat = pt := by decide) (hn : pc + 3 = pn := by rfl) : Wk p e below Fe T (mkF m pc Ls (.int y :: .int x :: S)) := by
  subst hn
  by_cases q : ¬ A = B
  · exact (h1 q).step fun _ k => XS.icmpYes X.here hx rfl rfl hd rfl ((holds_ne ha hb).1 q) ho hp k
  · have q' : A = B := by omega
    exact (h2 q').step fun _ k => XS.icmpNo X.here hx rfl hd rfl ((holds_ne ha hb).2 q') k
theorem w_if_ne (X : Stand p l e R s m args below meth c T locs cells slots) (hx : p.tables.exec = Jvm.exec) {x : Int32} {o : Int} (A : Int) (ha : x.toInt = A) (hd : decode c.code pc = .ok (.ifCond .ne o, 3)) (pt pn : Nat) (h1 : ¬ A = 0 → Wk p e below Fe T (mkF m pt Ls S)) (h2 : A = 0 → Wk p e below Fe T (mkF m pn Ls S)) (ho : 0 ≤ (pc : Int) + o := by decide) (hp : ((pc : Int) + o).toNat = pt := by decide) (hn : pc + 3 = pn := by rfl) : Wk p e below Fe T (mkF m pc Ls (.int x :: S)) := by
  subst hn
  have hb : (0 : Int32).toInt = 0 := rfl
  by_cases q : ¬ A = 0
  · exact (h1 q).step fun _ k => XS.ifYes X.here hx rfl rfl hd rfl ((if0 _ _).trans ((holds_ne ha hb).1 q)) ho hp k
  · have q' : A = 0 := by omega
    exact (h2 q').step fun _ k => XS.ifNo X.here hx rfl hd rfl ((if0 _ _).trans ((holds_ne ha hb).2 q')) k
theorem holds_lt {x y : Int32} {A B : Int} (ha : x.toInt = A) (hb : y.toInt = B) : ((A < B) → if_icmp.holds .lt x y = true) ∧ ((B ≤ A) → if_icmp.holds .lt x y = false) := by
  subst ha hb
  constructor
  · intro q
    first
    | exact (tlt (x := x) (y := y) (Int32.lt_iff_toInt_lt.mpr (by omega))).1
    | exact (flt (x := x) (y := y) (fun r => by have := Int32.lt_iff_toInt_lt.mp r; omega)).2.1
    | exact (tlt (x := y) (y := x) (Int32.lt_iff_toInt_lt.mpr (by omega))).2.2.1
    | exact (flt (x := y) (y := x) (fun r => by have := Int32.lt_iff_toInt_lt.mp r; omega)).2.2.2
    | exact (teq (x := x) (y := y) (Int32.toInt_inj.mp (by omega))).1
    | exact (feq (x := x) (y := y) (fun r => q (by rw [r]))).2
  · intro q
    first
    | exact (flt (x := x) (y := y) (fun r => by have := Int32.lt_iff_toInt_lt.mp r; omega)).1
    | exact (tlt (x := x) (y := y) (Int32.lt_iff_toInt_lt.mpr (by omega))).2.1
    | exact (flt (x := y) (y := x) (fun r => by have := Int32.lt_iff_toInt_lt.mp r; omega)).2.2.1
    | exact (tlt (x := y) (y := x) (Int32.lt_iff_toInt_lt.mpr (by omega))).2.2.2
    | exact (feq (x := x) (y := y) (fun r => q (by rw [r]))).1
    | exact (teq (x := x) (y := y) (Int32.toInt_inj.mp (by omega))).2
theorem w_icmp_lt (X : Stand p l e R s m args below meth c T locs cells slots) (hx : p.tables.exec = Jvm.exec) {x y : Int32} {o : Int} (A B : Int) (ha : x.toInt = A) (hb : y.toInt = B) (hd : decode c.code pc = .ok (.if_icmp .lt o, 3)) (pt pn : Nat) (h1 : A < B → Wk p e below Fe T (mkF m pt Ls S)) (h2 : B ≤ A → Wk p e below Fe T (mkF m pn Ls S)) (ho : 0 ≤ (pc : Int) + o := by decide) (hp : ((pc : Int) + o).toNat = pt := by decide) (hn : pc + 3 = pn := by rfl) : Wk p e below Fe T (mkF m pc Ls (.int y :: .int x :: S)) := by
  subst hn
  by_cases q : A < B
  · exact (h1 q).step fun _ k => XS.icmpYes X.here hx rfl rfl hd rfl ((holds_lt ha hb).1 q) ho hp k
  · have q' : B ≤ A := by omega
    exact (h2 q').step fun _ k => XS.icmpNo X.here hx rfl hd rfl ((holds_lt ha hb).2 q') k
theorem w_if_lt (X : Stand p l e R s m args below meth c T locs cells slots) (hx : p.tables.exec = Jvm.exec) {x : Int32} {o : Int} (A : Int) (ha : x.toInt = A) (hd : decode c.code pc = .ok (.ifCond .lt o, 3)) (pt pn : Nat) (h1 : A < 0 → Wk p e below Fe T (mkF m pt Ls S)) (h2 : 0 ≤ A → Wk p e below Fe T (mkF m pn Ls S)) (ho : 0 ≤ (pc : Int) + o := by decide) (hp : ((pc : Int) + o).toNat = pt := by decide) (hn : pc + 3 = pn := by rfl) : Wk p e below Fe T (mkF m pc Ls (.int x :: S)) := by
  subst hn
  have hb : (0 : Int32).toInt = 0 := rfl
  by_cases q : A < 0
  · exact (h1 q).step fun _ k => XS.ifYes X.here hx rfl rfl hd rfl ((if0 _ _).trans ((holds_lt ha hb).1 q)) ho hp k
  · have q' : 0 ≤ A := by omega
    exact (h2 q').step fun _ k => XS.ifNo X.here hx rfl hd rfl ((if0 _ _).trans ((holds_lt ha hb).2 q')) k
theorem holds_ge {x y : Int32} {A B : Int} (ha : x.toInt = A) (hb : y.toInt = B) : ((B ≤ A) → if_icmp.holds .ge x y = true) ∧ ((A < B) → if_icmp.holds .ge x y = false) := by
  subst ha hb
  constructor
  · intro q
    first
    | exact (tlt (x := x) (y := y) (Int32.lt_iff_toInt_lt.mpr (by omega))).1
    | exact (flt (x := x) (y := y) (fun r => by have := Int32.lt_iff_toInt_lt.mp r; omega)).2.1
    | exact (tlt (x := y) (y := x) (Int32.lt_iff_toInt_lt.mpr (by omega))).2.2.1
    | exact (flt (x := y) (y := x) (fun r => by have := Int32.lt_iff_toInt_lt.mp r; omega)).2.2.2
    | exact (teq (x := x) (y := y) (Int32.toInt_inj.mp (by omega))).1
    | exact (feq (x := x) (y := y) (fun r => q (by rw [r]))).2
  · intro q
    first
    | exact (flt (x := x) (y := y) (fun r => by have := Int32.lt_iff_toInt_lt.mp r; omega)).1
    | exact (tlt (x := x) (y := y) (Int32.lt_iff_toInt_lt.mpr (by omega))).2.1
    | exact (flt (x := y) (y := x) (fun r => by have := Int32.lt_iff_toInt_lt.mp r; omega)).2.2.1
    | exact (tlt (x := y) (y := x) (Int32.lt_iff_toInt_lt.mpr (by omega))).2.2.2
    | exact (feq (x := x) (y := y) (fun r => q (by rw [r]))).1
    | exact (teq (x := x) (y := y) (Int32.toInt_inj.mp (by omega))).2
theorem w_icmp_ge (X : Stand p l e R s m args below meth c T locs cells slots) (hx : p.tables.exec = Jvm.exec) {x y : Int32} {o : Int} (A B : Int) (ha : x.toInt = A) (hb : y.toInt = B) (hd : decode c.code pc = .ok (.if_icmp .ge o, 3)) (pt pn : Nat) (h1 : B ≤ A → Wk p e below Fe T (mkF m pt Ls S)) (h2 : A < B → Wk p e below Fe T (mkF m pn Ls S)) (ho : 0 ≤ (pc : Int) + o := by decide) (hp : ((pc : Int) + o).toNat = pt := by decide) (hn : pc + 3 = pn := by rfl) : Wk p e below Fe T (mkF m pc Ls (.int y :: .int x :: S)) := by
  subst hn
  by_cases q : B ≤ A
  · exact (h1 q).step fun _ k => XS.icmpYes X.here hx rfl rfl hd rfl ((holds_ge ha hb).1 q) ho hp k
  · have q' : A < B := by omega
    exact (h2 q').step fun _ k => XS.icmpNo X.here hx rfl hd rfl ((holds_ge ha hb).2 q') k
theorem holds_gt {x y : Int32} {A B : Int} (ha : x.toInt = A) (hb : y.toInt = B) : ((B < A) → if_icmp.holds .gt x y = true) ∧ ((A ≤ B) → if_icmp.holds .gt x y = false) := by
  subst ha hb
  constructor
  · intro q
    first
    | exact (tlt (x := x) (y := y) (Int32.lt_iff_toInt_lt.mpr (by omega))).1
    | exact (flt (x := x) (y := y) (fun r => by have := Int32.lt_iff_toInt_lt.mp r; omega)).2.1
    | exact (tlt (x := y) (y := x) (Int32.lt_iff_toInt_lt.mpr (by omega))).2.2.1
    | exact (flt (x := y) (y := x) (fun r => by have := Int32.lt_iff_toInt_lt.mp r; omega)).2.2.2
    | exact (teq (x := x) (y := y) (Int32.toInt_inj.mp (by omega))).1
    | exact (feq (x := x) (y := y) (fun r => q (by rw [r]))).2
  · intro q
    first
    | exact (flt (x := x) (y := y) (fun r => by have := Int32.lt_iff_toInt_lt.mp r; omega)).1
    | exact (tlt (x := x) (y := y) (Int32.lt_iff_toInt_lt.mpr (by omega))).2.1
    | exact (flt (x := y) (y := x) (fun r => by have := Int32.lt_iff_toInt_lt.mp r; omega)).2.2.1
    | exact (tlt (x := y) (y := x) (Int32.lt_iff_toInt_lt.mpr (by omega))).2.2.2
    | exact (feq (x := x) (y := y) (fun r => q (by rw [r]))).1
    | exact (teq (x := x) (y := y) (Int32.toInt_inj.mp (by omega))).2
theorem w_icmp_gt (X : Stand p l e R s m args below meth c T locs cells slots) (hx : p.tables.exec = Jvm.exec) {x y : Int32} {o : Int} (A B : Int) (ha : x.toInt = A) (hb : y.toInt = B) (hd : decode c.code pc = .ok (.if_icmp .gt o, 3)) (pt pn : Nat) (h1 : B < A → Wk p e below Fe T (mkF m pt Ls S)) (h2 : A ≤ B → Wk p e below Fe T (mkF m pn Ls S)) (ho : 0 ≤ (pc : Int) + o := by decide) (hp : ((pc : Int) + o).toNat = pt := by decide) (hn : pc + 3 = pn := by rfl) : Wk p e below Fe T (mkF m pc Ls (.int y :: .int x :: S)) := by
  subst hn
  by_cases q : B < A
  · exact (h1 q).step fun _ k => XS.icmpYes X.here hx rfl rfl hd rfl ((holds_gt ha hb).1 q) ho hp k
  · have q' : A ≤ B := by omega
    exact (h2 q').step fun _ k => XS.icmpNo X.here hx rfl hd rfl ((holds_gt ha hb).2 q') k
theorem w_retN (X : Stand p l e R s m args below meth c T locs cells slots) (hx : p.tables.exec = Jvm.exec) (hlocks : meth.locks = false) {t : FieldType} {z : Int32} (hret : meth.sig.returnType = some t) (ht : t = .boolean ∨ t = .byte ∨ t = .char ∨ t = .short) (hd : decode c.code pc = .ok (.ireturn, 1)) (hc : cells ≤ kc) (hs : slots ≤ ks) (hQ : Q (some (.int (nar t z))) T.heap locs) : Wk p e below (FN s Q kc ks) T (mkF m pc Ls (.int z :: S)) := by
  obtain ⟨fs, hr, hrun, hended, hW, hsame⟩ := X.leave (v := some (.int (nar t z))) (fun h => by rw [hret] at h; cases h) hlocks
  exact ⟨_, _, retN X hx hret ht hd hr, hrun, hended, _, _, rfl, hQ, ⟨_, rfl⟩, hW, hsame.mono hc hs⟩
theorem w_callS (X : Stand p l e R s m args below meth c T locs cells slots) (hx : p.tables.exec = Jvm.exec) (hZ : Z.Warmed39 s.vm) {own : String} {index : Nat} {y : MethodName} {bytes : ByteArray} {maxL : Nat} {ret : Option FieldType} {rm : Room} {as' : Array Value} {Qc : Option Value → Heap → List Loc → Prop} (hown : s.vm.findClass own = some m.cls) (eT : T.heap = h)
    (hM : MetFree l y (head1 [Cond.code y bytes maxL ret] rm) (fun a U => a = as' ∧ Z.Warmed39 U.vm ∧ U.heap = h) (fun _ _ _ _ _ => True) (fun _ U o U' => ∃ v L, o = .returned v ∧ Qc v U'.heap L ∧ FrameEnd U o U' L rm.cells rm.slots))
    (w1 : (Cond.methodLink own index y).before a0 Z = true) (w2 : (Cond.static y).before a0 Z = true) (w3 : (Cond.initialized y.cls).before a0 Z = true) (w4 : (Cond.code y bytes maxL ret).before a0 Z = true) (hy : y.cls ≠ "java/lang/invoke/MethodHandle" ∧ y.cls ≠ "java/lang/invoke/VarHandle")
    (hsize : Ls.size = c.maxLocals) (argsL rest : List Value) (hlen : ∀ sig, parseMethodDescriptor y.desc = some sig → argsL.length = sig.parameters.length) (hst : S = argsL.reverse ++ rest) (has : argsL.toArray = as')
    (hf : rm.frames + 1 ≤ R.frames) (W : Nat) (hW : (rest.map fun v => v.category).sum = W) (hl : W + (maxL + 11) + rm.locals ≤ R.locals) (hc : cells + rm.cells ≤ R.cells) (hs : slots + rm.slots ≤ R.slots) (hd : decode c.code pc = .ok (.invokestatic index, 3)) (pc' : Nat) (hp : pc + 3 = pc')
    (k : ∀ (v : Option Value) (T' : State) (L : List Loc), Stand p l e R s m args below meth c T' (locs ++ L) (cells + rm.cells) (slots + rm.slots) → Qc v T'.heap L → Wk p e below Fe T' (mkF m pc' Ls (v.toList ++ rest))) : Wk p e below Fe T (mkF m pc Ls S) := by
  subst hp hst has hW
  obtain ⟨v, _, ⟨T', L', k', n'⟩, -, X', ⟨Lc, q1, q2, q3, q4⟩, st⟩ := Jvm.LawKit.callS X hx hown (mvT hZ w1) (mvT hZ w2) (mvT hZ w3) (mvT hZ w4) hy (backOf hM hZ w4 w3 hf hl) (g := mkF m pc Ls (argsL.reverse ++ rest)) rfl hsize hlen rfl (by show 2 * 0 + _ ≤ _; rw [Nat.mul_zero, Nat.zero_add]; exact Nat.le_refl _) hd (fun _ _ => ⟨rfl, eT, hc, hs⟩)
  dsimp only [Pt.U, Pt.locs, Pt.cells, Pt.slots] at X' q2 q3 q4 st q1
  subst q2 q3 q4
  exact (k v T' Lc X' q1).step st
abbrev CT (l : Launch) (y : MethodName) (bytes : ByteArray) (maxL : Nat) (ret : Option FieldType) (ws : List Cond) (rm : Room) (as' : Array Value) (Z : State) (h0 : Heap) (Q : Option Value → Heap → List Loc → Prop) : Prop :=
  MetFree l y (head1 (Cond.code y bytes maxL ret :: ws) rm) (fun a U => a = as' ∧ Z.Warmed39 U.vm ∧ U.heap = h0) (fun _ _ _ _ _ => True) (fun _ U o U' => ∃ v L, o = .returned v ∧ Q v U'.heap L ∧ FrameEnd U o U' L rm.cells rm.slots)
theorem body_of {y : MethodName} {bytes : ByteArray} {maxL : Nat} {ret : Option FieldType} {ws : List Cond} {rm : Room} {as' : Array Value} {h0 : Heap} (hpl : plainFor y = true)
    (k : ∀ (p : Program) (e : Env) (s : State) (m : MethodId) (below : List Frame) (meth : Method) (c : Code) (s₁ : State), p.tables.exec = Jvm.exec → (∀ {pc : Nat} {r : Except DecodeError (Instr × Nat)}, decode bytes pc = r → decode c.code pc = r) → meth.sig.returnType = ret → meth.locks = false → c.maxLocals = maxL → s.vm.findClass y.cls = some m.cls → meth.name = y.name → Stand p l e rm s m as' below meth c s₁ [] 0 0 → s₁.heap = h0 → Z.Warmed39 s.vm → Wk p e below (FN s Q kc ks) s₁ (entryFrame m as' maxL)) :
    MetFree l y (head1 (Cond.code y bytes maxL ret :: ws) rm) (fun a U => a = as' ∧ Z.Warmed39 U.vm ∧ U.heap = h0) (fun _ _ _ _ _ => True) (fun _ U o U' => ∃ v L, o = .returned v ∧ Q v U'.heap L ∧ FrameEnd U o U' L kc ks) := by
  refine MetFree.of_bodySF hpl hisR ?_
  intro p e s m args below meth c s₁ Bd hml0 hP hK
  obtain ⟨rfl, hZ, hh⟩ := hP
  obtain ⟨s₂, o, h1, h2⟩ := k p e s m below meth c s₁ Bd.exec (fun q => hb Bd.bytes q) Bd.returns Bd.notSynchronized hml0 (findClass_of_methodNamed Bd.named) (name_of_methodNamed Bd.named Bd.method).1 (Stand.of_body Bd) (by rw [← hh, Bd.state]; rfl) hZ
  exact ⟨s₂, o, h1, h2⟩
end Walk
/-! plain facts on Int32 and Int64, in Ints -/
theorem eqI {x y : Int32} (h : x.toInt = y.toInt) : x = y := Int32.toInt_inj.mp h
theorem maskX {x m : Int32} {A : Int} (k : Nat) (ha : x.toInt = A) (hk : k ≤ 31) (hm : m.toBitVec.toNat = 2 ^ k - 1) : (x &&& m).toInt = A % (2 ^ k : Nat) := by subst ha; exact c_mask x m k hk hm
theorem subM {x y : Int32} {A B : Int} (ha : x.toInt = A) (hb : y.toInt = B) : ((x - y).toInt - (A - B)) % 4294967296 = 0 := by subst ha hb; exact c_isub x y
theorem i2cE {x : Int32} {A : Int} (ha : x.toInt = A) (h0 : 0 ≤ A) (h1 : A < 65536) : x.toUInt32.toUInt16.toUInt32.toInt32.toInt = A := by
  have := c_i2c x; subst ha; omega
end Jvm.Own
namespace Jvm.Pilot.@@N@@
open Jvm Jvm.ClassFile Sem Op Lib Jvm.Free Jvm.Stand Jvm.LawKit Jvm.RoadKit Bundle Jvm.Own Jvm.Pilot.@@N@@.Jvm.D
abbrev cN_0 : String := "com/example/simpagation/simpagation/Lexer"
abbrev cN_1 : String := "com/example/simpagation/simpagation/LexerIsAlphanumericPinLaw"
theorem tw_0 {Z : State} {a0 : Array Value} (hw : ∀ d ∈ tables_1, d.before a0 Z = true) : (Jvm.Cond.constant "com/example/simpagation/simpagation/LexerIsAlphanumericPinLaw" (7 : Nat) (65535 : Int32)).before a0 Z = true := hw _ (List.mem_of_getElem? (i := 0) rfl)
theorem tw_1 {Z : State} {a0 : Array Value} (hw : ∀ d ∈ tables_1, d.before a0 Z = true) : (Jvm.Cond.methodLink "com/example/simpagation/simpagation/LexerIsAlphanumericPinLaw" (8 : Nat) ({ cls := "com/example/simpagation/simpagation/Lexer", name := "isAlphanumeric", desc := "(C)Z" } : Jvm.MethodName)).before a0 Z = true := hw _ (List.mem_of_getElem? (i := 1) rfl)
theorem tw_2 {Z : State} {a0 : Array Value} (hw : ∀ d ∈ tables_1, d.before a0 Z = true) : (Jvm.Cond.static ({ cls := "com/example/simpagation/simpagation/Lexer", name := "isAlphanumeric", desc := "(C)Z" } : Jvm.MethodName)).before a0 Z = true := hw _ (List.mem_of_getElem? (i := 2) rfl)
theorem tw_3 {Z : State} {a0 : Array Value} (hw : ∀ d ∈ tables_1, d.before a0 Z = true) : (Jvm.Cond.initialized "com/example/simpagation/simpagation/Lexer").before a0 Z = true := hw _ (List.mem_of_getElem? (i := 3) rfl)
theorem tw_4 {Z : State} {a0 : Array Value} (hw : ∀ d ∈ tables_1, d.before a0 Z = true) : (Jvm.Cond.code ({ cls := "com/example/simpagation/simpagation/Lexer", name := "isAlphanumeric", desc := "(C)Z" } : Jvm.MethodName) prog_25_method_4_code (1 : Nat) (Option.some Jvm.ClassFile.FieldType.boolean)).before a0 Z = true := hw _ (List.mem_of_getElem? (i := 4) rfl)
theorem tw_5 {Z : State} {a0 : Array Value} (hw : ∀ d ∈ tables_1, d.before a0 Z = true) : (Jvm.Cond.methodLink "com/example/simpagation/simpagation/Lexer" (77 : Nat) ({ cls := "com/example/simpagation/simpagation/Lexer", name := "isLowerCase", desc := "(C)Z" } : Jvm.MethodName)).before a0 Z = true := hw _ (List.mem_of_getElem? (i := 5) rfl)
theorem tw_6 {Z : State} {a0 : Array Value} (hw : ∀ d ∈ tables_1, d.before a0 Z = true) : (Jvm.Cond.static ({ cls := "com/example/simpagation/simpagation/Lexer", name := "isLowerCase", desc := "(C)Z" } : Jvm.MethodName)).before a0 Z = true := hw _ (List.mem_of_getElem? (i := 6) rfl)
theorem tw_7 {Z : State} {a0 : Array Value} (hw : ∀ d ∈ tables_1, d.before a0 Z = true) : (Jvm.Cond.code ({ cls := "com/example/simpagation/simpagation/Lexer", name := "isLowerCase", desc := "(C)Z" } : Jvm.MethodName) prog_25_method_5_code (1 : Nat) (Option.some Jvm.ClassFile.FieldType.boolean)).before a0 Z = true := hw _ (List.mem_of_getElem? (i := 7) rfl)
theorem tw_8 {Z : State} {a0 : Array Value} (hw : ∀ d ∈ tables_1, d.before a0 Z = true) : (Jvm.Cond.methodLink "com/example/simpagation/simpagation/Lexer" (86 : Nat) ({ cls := "com/example/simpagation/simpagation/Lexer", name := "isUpperCase", desc := "(C)Z" } : Jvm.MethodName)).before a0 Z = true := hw _ (List.mem_of_getElem? (i := 8) rfl)
theorem tw_9 {Z : State} {a0 : Array Value} (hw : ∀ d ∈ tables_1, d.before a0 Z = true) : (Jvm.Cond.static ({ cls := "com/example/simpagation/simpagation/Lexer", name := "isUpperCase", desc := "(C)Z" } : Jvm.MethodName)).before a0 Z = true := hw _ (List.mem_of_getElem? (i := 9) rfl)
theorem tw_10 {Z : State} {a0 : Array Value} (hw : ∀ d ∈ tables_1, d.before a0 Z = true) : (Jvm.Cond.code ({ cls := "com/example/simpagation/simpagation/Lexer", name := "isUpperCase", desc := "(C)Z" } : Jvm.MethodName) prog_25_method_25_code (1 : Nat) (Option.some Jvm.ClassFile.FieldType.boolean)).before a0 Z = true := hw _ (List.mem_of_getElem? (i := 10) rfl)
theorem tw_11 {Z : State} {a0 : Array Value} (hw : ∀ d ∈ tables_1, d.before a0 Z = true) : (Jvm.Cond.methodLink "com/example/simpagation/simpagation/Lexer" (51 : Nat) ({ cls := "com/example/simpagation/simpagation/Lexer", name := "isDigit", desc := "(C)Z" } : Jvm.MethodName)).before a0 Z = true := hw _ (List.mem_of_getElem? (i := 11) rfl)
theorem tw_12 {Z : State} {a0 : Array Value} (hw : ∀ d ∈ tables_1, d.before a0 Z = true) : (Jvm.Cond.static ({ cls := "com/example/simpagation/simpagation/Lexer", name := "isDigit", desc := "(C)Z" } : Jvm.MethodName)).before a0 Z = true := hw _ (List.mem_of_getElem? (i := 12) rfl)
theorem tw_13 {Z : State} {a0 : Array Value} (hw : ∀ d ∈ tables_1, d.before a0 Z = true) : (Jvm.Cond.code ({ cls := "com/example/simpagation/simpagation/Lexer", name := "isDigit", desc := "(C)Z" } : Jvm.MethodName) prog_25_method_24_code (1 : Nat) (Option.some Jvm.ClassFile.FieldType.boolean)).before a0 Z = true := hw _ (List.mem_of_getElem? (i := 13) rfl)
theorem tw_14 {Z : State} {a0 : Array Value} (hw : ∀ d ∈ tables_1, d.before a0 Z = true) : (Jvm.Cond.methodLink "com/example/simpagation/simpagation/LexerIsAlphanumericPinLaw" (14 : Nat) ({ cls := "com/example/simpagation/simpagation/LexerIsAlphanumericPinLaw", name := "expected", desc := "(I)Z" } : Jvm.MethodName)).before a0 Z = true := hw _ (List.mem_of_getElem? (i := 14) rfl)
theorem tw_15 {Z : State} {a0 : Array Value} (hw : ∀ d ∈ tables_1, d.before a0 Z = true) : (Jvm.Cond.static ({ cls := "com/example/simpagation/simpagation/LexerIsAlphanumericPinLaw", name := "expected", desc := "(I)Z" } : Jvm.MethodName)).before a0 Z = true := hw _ (List.mem_of_getElem? (i := 15) rfl)
theorem tw_16 {Z : State} {a0 : Array Value} (hw : ∀ d ∈ tables_1, d.before a0 Z = true) : (Jvm.Cond.initialized "com/example/simpagation/simpagation/LexerIsAlphanumericPinLaw").before a0 Z = true := hw _ (List.mem_of_getElem? (i := 16) rfl)
theorem tw_17 {Z : State} {a0 : Array Value} (hw : ∀ d ∈ tables_1, d.before a0 Z = true) : (Jvm.Cond.code ({ cls := "com/example/simpagation/simpagation/LexerIsAlphanumericPinLaw", name := "expected", desc := "(I)Z" } : Jvm.MethodName) method_2_code (6 : Nat) (Option.some Jvm.ClassFile.FieldType.boolean)).before a0 Z = true := hw _ (List.mem_of_getElem? (i := 17) rfl)
theorem d2_0 : decode prog_25_method_5_code 0 = .ok (.iload_n 0, 1) := by decide +kernel
theorem d2_1 : decode prog_25_method_5_code 1 = .ok (.bipush 97, 2) := by decide +kernel
theorem d2_3 : decode prog_25_method_5_code 3 = .ok (.if_icmp .lt 13, 3) := by decide +kernel
theorem d2_6 : decode prog_25_method_5_code 6 = .ok (.iload_n 0, 1) := by decide +kernel
theorem d2_7 : decode prog_25_method_5_code 7 = .ok (.bipush 122, 2) := by decide +kernel
theorem d2_9 : decode prog_25_method_5_code 9 = .ok (.if_icmp .gt 7, 3) := by decide +kernel
theorem d2_12 : decode prog_25_method_5_code 12 = .ok (.iconst 1, 1) := by decide +kernel
theorem d2_13 : decode prog_25_method_5_code 13 = .ok (.goto 4, 3) := by decide +kernel
theorem d2_16 : decode prog_25_method_5_code 16 = .ok (.iconst 0, 1) := by decide +kernel
theorem d2_17 : decode prog_25_method_5_code 17 = .ok (.ireturn, 1) := by decide +kernel
theorem pn_0 : plainName "com/example/simpagation/simpagation/Lexer" = true := by first | (simp [plainName, overriddenIn]; done) | decide +kernel
abbrev mN_2 : MethodName := ⟨"com/example/simpagation/simpagation/Lexer", "isLowerCase", "(C)Z"⟩
theorem d3_0 : decode prog_25_method_25_code 0 = .ok (.iload_n 0, 1) := by decide +kernel
theorem d3_1 : decode prog_25_method_25_code 1 = .ok (.bipush 65, 2) := by decide +kernel
theorem d3_3 : decode prog_25_method_25_code 3 = .ok (.if_icmp .lt 13, 3) := by decide +kernel
theorem d3_6 : decode prog_25_method_25_code 6 = .ok (.iload_n 0, 1) := by decide +kernel
theorem d3_7 : decode prog_25_method_25_code 7 = .ok (.bipush 90, 2) := by decide +kernel
theorem d3_9 : decode prog_25_method_25_code 9 = .ok (.if_icmp .gt 7, 3) := by decide +kernel
theorem d3_12 : decode prog_25_method_25_code 12 = .ok (.iconst 1, 1) := by decide +kernel
theorem d3_13 : decode prog_25_method_25_code 13 = .ok (.goto 4, 3) := by decide +kernel
theorem d3_16 : decode prog_25_method_25_code 16 = .ok (.iconst 0, 1) := by decide +kernel
theorem d3_17 : decode prog_25_method_25_code 17 = .ok (.ireturn, 1) := by decide +kernel
abbrev mN_3 : MethodName := ⟨"com/example/simpagation/simpagation/Lexer", "isUpperCase", "(C)Z"⟩
theorem d4_0 : decode prog_25_method_24_code 0 = .ok (.iload_n 0, 1) := by decide +kernel
theorem d4_1 : decode prog_25_method_24_code 1 = .ok (.bipush 48, 2) := by decide +kernel
theorem d4_3 : decode prog_25_method_24_code 3 = .ok (.if_icmp .lt 13, 3) := by decide +kernel
theorem d4_6 : decode prog_25_method_24_code 6 = .ok (.iload_n 0, 1) := by decide +kernel
theorem d4_7 : decode prog_25_method_24_code 7 = .ok (.bipush 57, 2) := by decide +kernel
theorem d4_9 : decode prog_25_method_24_code 9 = .ok (.if_icmp .gt 7, 3) := by decide +kernel
theorem d4_12 : decode prog_25_method_24_code 12 = .ok (.iconst 1, 1) := by decide +kernel
theorem d4_13 : decode prog_25_method_24_code 13 = .ok (.goto 4, 3) := by decide +kernel
theorem d4_16 : decode prog_25_method_24_code 16 = .ok (.iconst 0, 1) := by decide +kernel
theorem d4_17 : decode prog_25_method_24_code 17 = .ok (.ireturn, 1) := by decide +kernel
abbrev mN_4 : MethodName := ⟨"com/example/simpagation/simpagation/Lexer", "isDigit", "(C)Z"⟩
theorem pd_0 : parseMethodDescriptor "(C)Z" = some ⟨[.char], some .boolean⟩ := by decide +kernel
theorem d1_0 : decode prog_25_method_4_code 0 = .ok (.iload_n 0, 1) := by decide +kernel
theorem d1_1 : decode prog_25_method_4_code 1 = .ok (.invokestatic 77, 3) := by decide +kernel
theorem d1_4 : decode prog_25_method_4_code 4 = .ok (.ifCond .ne 23, 3) := by decide +kernel
theorem d1_7 : decode prog_25_method_4_code 7 = .ok (.iload_n 0, 1) := by decide +kernel
theorem d1_8 : decode prog_25_method_4_code 8 = .ok (.invokestatic 86, 3) := by decide +kernel
theorem d1_11 : decode prog_25_method_4_code 11 = .ok (.ifCond .ne 16, 3) := by decide +kernel
theorem d1_14 : decode prog_25_method_4_code 14 = .ok (.iload_n 0, 1) := by decide +kernel
theorem d1_15 : decode prog_25_method_4_code 15 = .ok (.invokestatic 51, 3) := by decide +kernel
theorem d1_18 : decode prog_25_method_4_code 18 = .ok (.ifCond .ne 9, 3) := by decide +kernel
theorem d1_21 : decode prog_25_method_4_code 21 = .ok (.iload_n 0, 1) := by decide +kernel
theorem d1_22 : decode prog_25_method_4_code 22 = .ok (.bipush 95, 2) := by decide +kernel
theorem d1_24 : decode prog_25_method_4_code 24 = .ok (.if_icmp .ne 7, 3) := by decide +kernel
theorem d1_27 : decode prog_25_method_4_code 27 = .ok (.iconst 1, 1) := by decide +kernel
theorem d1_28 : decode prog_25_method_4_code 28 = .ok (.goto 4, 3) := by decide +kernel
theorem d1_31 : decode prog_25_method_4_code 31 = .ok (.iconst 0, 1) := by decide +kernel
theorem d1_32 : decode prog_25_method_4_code 32 = .ok (.ireturn, 1) := by decide +kernel
abbrev mN_1 : MethodName := ⟨"com/example/simpagation/simpagation/Lexer", "isAlphanumeric", "(C)Z"⟩
theorem d5_0 : decode method_2_code 0 = .ok (.iload_n 0, 1) := by decide +kernel
theorem d5_1 : decode method_2_code 1 = .ok (.bipush 32, 2) := by decide +kernel
theorem d5_3 : decode method_2_code 3 = .ok (.ior, 1) := by decide +kernel
theorem d5_4 : decode method_2_code 4 = .ok (.istore_n 1, 1) := by decide +kernel
theorem d5_5 : decode method_2_code 5 = .ok (.iload_n 1, 1) := by decide +kernel
theorem d5_6 : decode method_2_code 6 = .ok (.bipush 97, 2) := by decide +kernel
theorem d5_8 : decode method_2_code 8 = .ok (.if_icmp .lt 13, 3) := by decide +kernel
theorem d5_11 : decode method_2_code 11 = .ok (.iload_n 1, 1) := by decide +kernel
theorem d5_12 : decode method_2_code 12 = .ok (.bipush 122, 2) := by decide +kernel
theorem d5_14 : decode method_2_code 14 = .ok (.if_icmp .gt 7, 3) := by decide +kernel
theorem d5_17 : decode method_2_code 17 = .ok (.iconst 1, 1) := by decide +kernel
theorem d5_18 : decode method_2_code 18 = .ok (.goto 4, 3) := by decide +kernel
theorem d5_21 : decode method_2_code 21 = .ok (.iconst 0, 1) := by decide +kernel
theorem d5_22 : decode method_2_code 22 = .ok (.istore_n 2, 1) := by decide +kernel
theorem d5_23 : decode method_2_code 23 = .ok (.iload_n 0, 1) := by decide +kernel
theorem d5_24 : decode method_2_code 24 = .ok (.bipush 48, 2) := by decide +kernel
theorem d5_26 : decode method_2_code 26 = .ok (.isub, 1) := by decide +kernel
theorem d5_27 : decode method_2_code 27 = .ok (.istore_n 3, 1) := by decide +kernel
theorem d5_28 : decode method_2_code 28 = .ok (.iload_n 3, 1) := by decide +kernel
theorem d5_29 : decode method_2_code 29 = .ok (.ifCond .lt 13, 3) := by decide +kernel
theorem d5_32 : decode method_2_code 32 = .ok (.iload_n 3, 1) := by decide +kernel
theorem d5_33 : decode method_2_code 33 = .ok (.bipush 10, 2) := by decide +kernel
theorem d5_35 : decode method_2_code 35 = .ok (.if_icmp .ge 7, 3) := by decide +kernel
theorem d5_38 : decode method_2_code 38 = .ok (.iconst 1, 1) := by decide +kernel
theorem d5_39 : decode method_2_code 39 = .ok (.goto 4, 3) := by decide +kernel
theorem d5_42 : decode method_2_code 42 = .ok (.iconst 0, 1) := by decide +kernel
theorem d5_43 : decode method_2_code 43 = .ok (.istore 4, 2) := by decide +kernel
theorem d5_45 : decode method_2_code 45 = .ok (.iload_n 0, 1) := by decide +kernel
theorem d5_46 : decode method_2_code 46 = .ok (.bipush 95, 2) := by decide +kernel
theorem d5_48 : decode method_2_code 48 = .ok (.if_icmp .ne 7, 3) := by decide +kernel
theorem d5_51 : decode method_2_code 51 = .ok (.iconst 1, 1) := by decide +kernel
theorem d5_52 : decode method_2_code 52 = .ok (.goto 4, 3) := by decide +kernel
theorem d5_55 : decode method_2_code 55 = .ok (.iconst 0, 1) := by decide +kernel
theorem d5_56 : decode method_2_code 56 = .ok (.istore 5, 2) := by decide +kernel
theorem d5_58 : decode method_2_code 58 = .ok (.iload_n 2, 1) := by decide +kernel
theorem d5_59 : decode method_2_code 59 = .ok (.ifCond .ne 13, 3) := by decide +kernel
theorem d5_62 : decode method_2_code 62 = .ok (.iload 4, 2) := by decide +kernel
theorem d5_64 : decode method_2_code 64 = .ok (.ifCond .ne 8, 3) := by decide +kernel
theorem d5_67 : decode method_2_code 67 = .ok (.iload 5, 2) := by decide +kernel
theorem d5_69 : decode method_2_code 69 = .ok (.ifCond .eq 7, 3) := by decide +kernel
theorem d5_72 : decode method_2_code 72 = .ok (.iconst 1, 1) := by decide +kernel
theorem d5_73 : decode method_2_code 73 = .ok (.goto 4, 3) := by decide +kernel
theorem d5_76 : decode method_2_code 76 = .ok (.iconst 0, 1) := by decide +kernel
theorem d5_77 : decode method_2_code 77 = .ok (.ireturn, 1) := by decide +kernel
theorem pn_1 : plainName "com/example/simpagation/simpagation/LexerIsAlphanumericPinLaw" = true := by first | (simp [plainName, overriddenIn]; done) | decide +kernel
abbrev mN_5 : MethodName := ⟨"com/example/simpagation/simpagation/LexerIsAlphanumericPinLaw", "expected", "(I)Z"⟩
theorem pd_1 : parseMethodDescriptor "(I)Z" = some ⟨[.int], some .boolean⟩ := by decide +kernel
theorem ef_2 (m : MethodId) (x0 : Int32) : entryFrame m #[(.int x0)] 1 = mkF m 0 #[.val (.int x0)] [] := by first | (simp [entryFrame, mkF, argsToLocals, Value.category]; done) | rfl
def Q2 (Z : State) (code : Int32) (h0 : Heap) (n0 : Nat) (v : Option Value) (h : Heap) (L : List Loc) : Prop := ∃ z : Int32, v = some (.int z) ∧ ((z.toInt = 1 ∧ (97 ≤ code.toInt ∧ code.toInt ≤ 122)) ∨ (z.toInt = 0 ∧ ¬ (97 ≤ code.toInt ∧ code.toInt ≤ 122))) ∧ Fr n0 L ∧ h = h0
set_option maxRecDepth 65536 in
set_option maxHeartbeats 40000000 in
theorem rm2 (l : Launch) (Z : State) (a0 : Array Value) (hw : ∀ d ∈ tables_1, d.before a0 Z = true) (ws : List Jvm.Cond) (code : Int32) (h0 : Heap) (n0 : Nat) (Z0 : n0 ≤ h0.size) :
    CT l mN_2 prog_25_method_5_code 1 (some .boolean) ws ({ frames := 0, cells := 0, slots := 0, locals := 0 } : Room) #[(.int code)] Z h0 (Q2 Z code h0 n0) := by
  refine body_of (plainFor_of_name pn_0) ?_
  intro p e s m below meth c s₁ hx dB hret hlk hml hown0 hnm X0 e0 hZ
  have hown : s.vm.findClass cN_0 = some m.cls := hown0
  have N0 := Fr.nil n0
  rw [ef_2]
  show Wk p e below (FN s (Q2 Z code h0 n0) 0 0) s₁ (mkF m 0 #[.val (.int code)] [])
  have r_code := rng32 code
  refine w_iloadN X0 hx code (dB d2_0) 1 rfl rfl ?_
  refine w_bipush X0 hx (dB d2_1) 3 rfl (97 : Int32) (by decide) ?_
  refine w_icmp_lt X0 hx code.toInt 97 rfl (by decide) (dB d2_3) 16 6 (fun c1 => ?_) (fun c1 => ?_)
  ·refine w_iconst X0 hx (dB d2_16) 17 rfl (0 : Int32) (by decide) ?_
   refine w_retN X0 hx hlk (t := .boolean) hret (by simp) (dB d2_17) (by decide) (by decide) ?_
   rw [e0]
   exact ⟨(0 : Int32), rfl, by have hz : (0 : Int32).toInt = 0 := (by decide); omega, N0, rfl⟩
  ·refine w_iloadN X0 hx code (dB d2_6) 7 rfl rfl ?_
   refine w_bipush X0 hx (dB d2_7) 9 rfl (122 : Int32) (by decide) ?_
   refine w_icmp_gt X0 hx code.toInt 122 rfl (by decide) (dB d2_9) 16 12 (fun c2 => ?_) (fun c2 => ?_)
   ·refine w_iconst X0 hx (dB d2_16) 17 rfl (0 : Int32) (by decide) ?_
    refine w_retN X0 hx hlk (t := .boolean) hret (by simp) (dB d2_17) (by decide) (by decide) ?_
    rw [e0]
    exact ⟨(0 : Int32), rfl, by have hz : (0 : Int32).toInt = 0 := (by decide); omega, N0, rfl⟩
   ·refine w_iconst X0 hx (dB d2_12) 13 rfl (1 : Int32) (by decide) ?_
    refine w_goto X0 hx (dB d2_13) 17 ?_
    refine w_retN X0 hx hlk (t := .boolean) hret (by simp) (dB d2_17) (by decide) (by decide) ?_
    rw [e0]
    exact ⟨(1 : Int32), rfl, by have hz : (1 : Int32).toInt = 1 := (by decide); omega, N0, rfl⟩
theorem ef_3 (m : MethodId) (x0 : Int32) : entryFrame m #[(.int x0)] 1 = mkF m 0 #[.val (.int x0)] [] := by first | (simp [entryFrame, mkF, argsToLocals, Value.category]; done) | rfl
def Q3 (Z : State) (code : Int32) (h0 : Heap) (n0 : Nat) (v : Option Value) (h : Heap) (L : List Loc) : Prop := ∃ z : Int32, v = some (.int z) ∧ ((z.toInt = 1 ∧ (65 ≤ code.toInt ∧ code.toInt ≤ 90)) ∨ (z.toInt = 0 ∧ ¬ (65 ≤ code.toInt ∧ code.toInt ≤ 90))) ∧ Fr n0 L ∧ h = h0
set_option maxRecDepth 65536 in
set_option maxHeartbeats 40000000 in
theorem rm3 (l : Launch) (Z : State) (a0 : Array Value) (hw : ∀ d ∈ tables_1, d.before a0 Z = true) (ws : List Jvm.Cond) (code : Int32) (h0 : Heap) (n0 : Nat) (Z0 : n0 ≤ h0.size) :
    CT l mN_3 prog_25_method_25_code 1 (some .boolean) ws ({ frames := 0, cells := 0, slots := 0, locals := 0 } : Room) #[(.int code)] Z h0 (Q3 Z code h0 n0) := by
  refine body_of (plainFor_of_name pn_0) ?_
  intro p e s m below meth c s₁ hx dB hret hlk hml hown0 hnm X0 e0 hZ
  have hown : s.vm.findClass cN_0 = some m.cls := hown0
  have N0 := Fr.nil n0
  rw [ef_3]
  show Wk p e below (FN s (Q3 Z code h0 n0) 0 0) s₁ (mkF m 0 #[.val (.int code)] [])
  have r_code := rng32 code
  refine w_iloadN X0 hx code (dB d3_0) 1 rfl rfl ?_
  refine w_bipush X0 hx (dB d3_1) 3 rfl (65 : Int32) (by decide) ?_
  refine w_icmp_lt X0 hx code.toInt 65 rfl (by decide) (dB d3_3) 16 6 (fun c3 => ?_) (fun c3 => ?_)
  ·refine w_iconst X0 hx (dB d3_16) 17 rfl (0 : Int32) (by decide) ?_
   refine w_retN X0 hx hlk (t := .boolean) hret (by simp) (dB d3_17) (by decide) (by decide) ?_
   rw [e0]
   exact ⟨(0 : Int32), rfl, by have hz : (0 : Int32).toInt = 0 := (by decide); omega, N0, rfl⟩
  ·refine w_iloadN X0 hx code (dB d3_6) 7 rfl rfl ?_
   refine w_bipush X0 hx (dB d3_7) 9 rfl (90 : Int32) (by decide) ?_
   refine w_icmp_gt X0 hx code.toInt 90 rfl (by decide) (dB d3_9) 16 12 (fun c4 => ?_) (fun c4 => ?_)
   ·refine w_iconst X0 hx (dB d3_16) 17 rfl (0 : Int32) (by decide) ?_
    refine w_retN X0 hx hlk (t := .boolean) hret (by simp) (dB d3_17) (by decide) (by decide) ?_
    rw [e0]
    exact ⟨(0 : Int32), rfl, by have hz : (0 : Int32).toInt = 0 := (by decide); omega, N0, rfl⟩
   ·refine w_iconst X0 hx (dB d3_12) 13 rfl (1 : Int32) (by decide) ?_
    refine w_goto X0 hx (dB d3_13) 17 ?_
    refine w_retN X0 hx hlk (t := .boolean) hret (by simp) (dB d3_17) (by decide) (by decide) ?_
    rw [e0]
    exact ⟨(1 : Int32), rfl, by have hz : (1 : Int32).toInt = 1 := (by decide); omega, N0, rfl⟩
theorem ef_4 (m : MethodId) (x0 : Int32) : entryFrame m #[(.int x0)] 1 = mkF m 0 #[.val (.int x0)] [] := by first | (simp [entryFrame, mkF, argsToLocals, Value.category]; done) | rfl
def Q4 (Z : State) (code : Int32) (h0 : Heap) (n0 : Nat) (v : Option Value) (h : Heap) (L : List Loc) : Prop := ∃ z : Int32, v = some (.int z) ∧ ((z.toInt = 1 ∧ (48 ≤ code.toInt ∧ code.toInt ≤ 57)) ∨ (z.toInt = 0 ∧ ¬ (48 ≤ code.toInt ∧ code.toInt ≤ 57))) ∧ Fr n0 L ∧ h = h0
set_option maxRecDepth 65536 in
set_option maxHeartbeats 40000000 in
theorem rm4 (l : Launch) (Z : State) (a0 : Array Value) (hw : ∀ d ∈ tables_1, d.before a0 Z = true) (ws : List Jvm.Cond) (code : Int32) (h0 : Heap) (n0 : Nat) (Z0 : n0 ≤ h0.size) :
    CT l mN_4 prog_25_method_24_code 1 (some .boolean) ws ({ frames := 0, cells := 0, slots := 0, locals := 0 } : Room) #[(.int code)] Z h0 (Q4 Z code h0 n0) := by
  refine body_of (plainFor_of_name pn_0) ?_
  intro p e s m below meth c s₁ hx dB hret hlk hml hown0 hnm X0 e0 hZ
  have hown : s.vm.findClass cN_0 = some m.cls := hown0
  have N0 := Fr.nil n0
  rw [ef_4]
  show Wk p e below (FN s (Q4 Z code h0 n0) 0 0) s₁ (mkF m 0 #[.val (.int code)] [])
  have r_code := rng32 code
  refine w_iloadN X0 hx code (dB d4_0) 1 rfl rfl ?_
  refine w_bipush X0 hx (dB d4_1) 3 rfl (48 : Int32) (by decide) ?_
  refine w_icmp_lt X0 hx code.toInt 48 rfl (by decide) (dB d4_3) 16 6 (fun c5 => ?_) (fun c5 => ?_)
  ·refine w_iconst X0 hx (dB d4_16) 17 rfl (0 : Int32) (by decide) ?_
   refine w_retN X0 hx hlk (t := .boolean) hret (by simp) (dB d4_17) (by decide) (by decide) ?_
   rw [e0]
   exact ⟨(0 : Int32), rfl, by have hz : (0 : Int32).toInt = 0 := (by decide); omega, N0, rfl⟩
  ·refine w_iloadN X0 hx code (dB d4_6) 7 rfl rfl ?_
   refine w_bipush X0 hx (dB d4_7) 9 rfl (57 : Int32) (by decide) ?_
   refine w_icmp_gt X0 hx code.toInt 57 rfl (by decide) (dB d4_9) 16 12 (fun c6 => ?_) (fun c6 => ?_)
   ·refine w_iconst X0 hx (dB d4_16) 17 rfl (0 : Int32) (by decide) ?_
    refine w_retN X0 hx hlk (t := .boolean) hret (by simp) (dB d4_17) (by decide) (by decide) ?_
    rw [e0]
    exact ⟨(0 : Int32), rfl, by have hz : (0 : Int32).toInt = 0 := (by decide); omega, N0, rfl⟩
   ·refine w_iconst X0 hx (dB d4_12) 13 rfl (1 : Int32) (by decide) ?_
    refine w_goto X0 hx (dB d4_13) 17 ?_
    refine w_retN X0 hx hlk (t := .boolean) hret (by simp) (dB d4_17) (by decide) (by decide) ?_
    rw [e0]
    exact ⟨(1 : Int32), rfl, by have hz : (1 : Int32).toInt = 1 := (by decide); omega, N0, rfl⟩
theorem ef_1 (m : MethodId) (x0 : Int32) : entryFrame m #[(.int x0)] 1 = mkF m 0 #[.val (.int x0)] [] := by first | (simp [entryFrame, mkF, argsToLocals, Value.category]; done) | rfl
def Q1 (Z : State) (code : Int32) (h0 : Heap) (n0 : Nat) (v : Option Value) (h : Heap) (L : List Loc) : Prop := ∃ z : Int32, v = some (.int z) ∧ ((z.toInt = 1 ∧ ((97 ≤ code.toInt ∧ code.toInt ≤ 122) ∨ (65 ≤ code.toInt ∧ code.toInt ≤ 90) ∨ (48 ≤ code.toInt ∧ code.toInt ≤ 57) ∨ code.toInt = 95)) ∨ (z.toInt = 0 ∧ ¬ ((97 ≤ code.toInt ∧ code.toInt ≤ 122) ∨ (65 ≤ code.toInt ∧ code.toInt ≤ 90) ∨ (48 ≤ code.toInt ∧ code.toInt ≤ 57) ∨ code.toInt = 95))) ∧ Fr n0 L ∧ h = h0
set_option maxRecDepth 65536 in
set_option maxHeartbeats 40000000 in
theorem rm1 (l : Launch) (Z : State) (a0 : Array Value) (hw : ∀ d ∈ tables_1, d.before a0 Z = true) (ws : List Jvm.Cond) (code : Int32) (h0 : Heap) (n0 : Nat) (Z0 : n0 ≤ h0.size) :
    CT l mN_1 prog_25_method_4_code 1 (some .boolean) ws ({ frames := 1, cells := 0, slots := 0, locals := 12 } : Room) #[(.int code)] Z h0 (Q1 Z code h0 n0) := by
  refine body_of (plainFor_of_name pn_0) ?_
  intro p e s m below meth c s₁ hx dB hret hlk hml hown0 hnm X0 e0 hZ
  have hown : s.vm.findClass cN_0 = some m.cls := hown0
  have N0 := Fr.nil n0
  rw [ef_1]
  show Wk p e below (FN s (Q1 Z code h0 n0) 0 0) s₁ (mkF m 0 #[.val (.int code)] [])
  have r_code := rng32 code
  refine w_iloadN X0 hx code (dB d1_0) 1 rfl rfl ?_
  refine w_callS X0 hx hZ hown e0 (rm2 l Z a0 hw [] code h0 n0 Z0 ) (tw_5 hw) (tw_6 hw) (tw_3 hw) (tw_7 hw) (by decide) (by rw [hml]; rfl) [(.int code)] [] (lenOf pd_0 rfl) rfl rfl (by decide) 0 rfl (by decide) (by decide) (by decide) (dB d1_1) 4 rfl (fun r7 T7 L7 X7 q7 => ?_)
  obtain ⟨z7, rfl, f7, Nq7, eq7⟩ := q7
  have N7 := Fr.app N0 Nq7
  dsimp only [Option.toList_some, Option.toList_none, List.cons_append, List.nil_append]
  refine w_if_ne X7 hx z7.toInt rfl (dB d1_4) 27 7 (fun c8 => ?_) (fun c8 => ?_)
  ·refine w_iconst X7 hx (dB d1_27) 28 rfl (1 : Int32) (by decide) ?_
   refine w_goto X7 hx (dB d1_28) 32 ?_
   refine w_retN X7 hx hlk (t := .boolean) hret (by simp) (dB d1_32) (by decide) (by decide) ?_
   rw [eq7]
   exact ⟨(1 : Int32), rfl, by have hz : (1 : Int32).toInt = 1 := (by decide); omega, N7, rfl⟩
  ·refine w_iloadN X7 hx code (dB d1_7) 8 rfl rfl ?_
   refine w_callS X7 hx hZ hown eq7 (rm3 l Z a0 hw [] code h0 n0 Z0 ) (tw_8 hw) (tw_9 hw) (tw_3 hw) (tw_10 hw) (by decide) (by rw [hml]; rfl) [(.int code)] [] (lenOf pd_0 rfl) rfl rfl (by decide) 0 rfl (by decide) (by decide) (by decide) (dB d1_8) 11 rfl (fun r9 T9 L9 X9 q9 => ?_)
   obtain ⟨z9, rfl, f9, Nq9, eq9⟩ := q9
   have N9 := Fr.app N7 Nq9
   dsimp only [Option.toList_some, Option.toList_none, List.cons_append, List.nil_append]
   refine w_if_ne X9 hx z9.toInt rfl (dB d1_11) 27 14 (fun c10 => ?_) (fun c10 => ?_)
   ·refine w_iconst X9 hx (dB d1_27) 28 rfl (1 : Int32) (by decide) ?_
    refine w_goto X9 hx (dB d1_28) 32 ?_
    refine w_retN X9 hx hlk (t := .boolean) hret (by simp) (dB d1_32) (by decide) (by decide) ?_
    rw [eq9]
    exact ⟨(1 : Int32), rfl, by have hz : (1 : Int32).toInt = 1 := (by decide); omega, N9, rfl⟩
   ·refine w_iloadN X9 hx code (dB d1_14) 15 rfl rfl ?_
    refine w_callS X9 hx hZ hown eq9 (rm4 l Z a0 hw [] code h0 n0 Z0 ) (tw_11 hw) (tw_12 hw) (tw_3 hw) (tw_13 hw) (by decide) (by rw [hml]; rfl) [(.int code)] [] (lenOf pd_0 rfl) rfl rfl (by decide) 0 rfl (by decide) (by decide) (by decide) (dB d1_15) 18 rfl (fun r11 T11 L11 X11 q11 => ?_)
    obtain ⟨z11, rfl, f11, Nq11, eq11⟩ := q11
    have N11 := Fr.app N9 Nq11
    dsimp only [Option.toList_some, Option.toList_none, List.cons_append, List.nil_append]
    refine w_if_ne X11 hx z11.toInt rfl (dB d1_18) 27 21 (fun c12 => ?_) (fun c12 => ?_)
    ·refine w_iconst X11 hx (dB d1_27) 28 rfl (1 : Int32) (by decide) ?_
     refine w_goto X11 hx (dB d1_28) 32 ?_
     refine w_retN X11 hx hlk (t := .boolean) hret (by simp) (dB d1_32) (by decide) (by decide) ?_
     rw [eq11]
     exact ⟨(1 : Int32), rfl, by have hz : (1 : Int32).toInt = 1 := (by decide); omega, N11, rfl⟩
    ·refine w_iloadN X11 hx code (dB d1_21) 22 rfl rfl ?_
     refine w_bipush X11 hx (dB d1_22) 24 rfl (95 : Int32) (by decide) ?_
     refine w_icmp_ne X11 hx code.toInt 95 rfl (by decide) (dB d1_24) 31 27 (fun c13 => ?_) (fun c13 => ?_)
     ·refine w_iconst X11 hx (dB d1_31) 32 rfl (0 : Int32) (by decide) ?_
      refine w_retN X11 hx hlk (t := .boolean) hret (by simp) (dB d1_32) (by decide) (by decide) ?_
      rw [eq11]
      exact ⟨(0 : Int32), rfl, by have hz : (0 : Int32).toInt = 0 := (by decide); omega, N11, rfl⟩
     ·refine w_iconst X11 hx (dB d1_27) 28 rfl (1 : Int32) (by decide) ?_
      refine w_goto X11 hx (dB d1_28) 32 ?_
      refine w_retN X11 hx hlk (t := .boolean) hret (by simp) (dB d1_32) (by decide) (by decide) ?_
      rw [eq11]
      exact ⟨(1 : Int32), rfl, by have hz : (1 : Int32).toInt = 1 := (by decide); omega, N11, rfl⟩
theorem own_fold (c : Int32) (h0 : 0 ≤ c.toInt) (h1 : c.toInt < 65536) : (97 ≤ (c ||| 32).toInt ∧ (c ||| 32).toInt ≤ 122) ↔ ((97 ≤ c.toInt ∧ c.toInt ≤ 122) ∨ (65 ≤ c.toInt ∧ c.toInt ≤ 90)) := by
  by_cases hs : c.toInt < 128
  · have key : ∀ n : Fin 128, (97 ≤ (Int32.ofNat n.1 ||| 32).toInt ∧ (Int32.ofNat n.1 ||| 32).toInt ≤ 122) ↔ ((97 ≤ (n.1 : Int) ∧ (n.1 : Int) ≤ 122) ∨ (65 ≤ (n.1 : Int) ∧ (n.1 : Int) ≤ 90)) := by decide +kernel
    have hc : c = Int32.ofNat c.toInt.toNat := eqI (by
      rw [Int32.toInt_ofNat_of_lt (by omega)]; omega)
    have q := key ⟨c.toInt.toNat, by omega⟩
    simp only [] at q
    rw [← hc] at q
    rw [q]; omega
  · have := (c_or0 c 32 h0 (by decide)).1
    omega
theorem ef_5 (m : MethodId) (x0 : Int32) : entryFrame m #[(.int x0)] 6 = mkF m 0 #[.val (.int x0), .unset, .unset, .unset, .unset, .unset] [] := by first | (simp [entryFrame, mkF, argsToLocals, Value.category]; done) | rfl
def Q5 (Z : State) (code : Int32) (h0 : Heap) (n0 : Nat) (v : Option Value) (h : Heap) (L : List Loc) : Prop := ∃ z : Int32, v = some (.int z) ∧ ((z.toInt = 1 ∧ ((97 ≤ code.toInt ∧ code.toInt ≤ 122) ∨ (65 ≤ code.toInt ∧ code.toInt ≤ 90) ∨ (48 ≤ code.toInt ∧ code.toInt ≤ 57) ∨ code.toInt = 95)) ∨ (z.toInt = 0 ∧ ¬ ((97 ≤ code.toInt ∧ code.toInt ≤ 122) ∨ (65 ≤ code.toInt ∧ code.toInt ≤ 90) ∨ (48 ≤ code.toInt ∧ code.toInt ≤ 57) ∨ code.toInt = 95))) ∧ Fr n0 L ∧ h = h0
set_option maxRecDepth 65536 in
set_option maxHeartbeats 40000000 in
theorem rm5 (l : Launch) (Z : State) (a0 : Array Value) (hw : ∀ d ∈ tables_1, d.before a0 Z = true) (ws : List Jvm.Cond) (code : Int32) (h0 : Heap) (n0 : Nat) (Z0 : n0 ≤ h0.size) (p0 : 0 ≤ code.toInt) (p1 : code.toInt < 65536) :
    CT l mN_5 method_2_code 6 (some .boolean) ws ({ frames := 0, cells := 0, slots := 0, locals := 0 } : Room) #[(.int code)] Z h0 (Q5 Z code h0 n0) := by
  refine body_of (plainFor_of_name pn_1) ?_
  intro p e s m below meth c s₁ hx dB hret hlk hml hown0 hnm X0 e0 hZ
  have hown : s.vm.findClass cN_1 = some m.cls := hown0
  have N0 := Fr.nil n0
  rw [ef_5]
  show Wk p e below (FN s (Q5 Z code h0 n0) 0 0) s₁ (mkF m 0 #[.val (.int code), .unset, .unset, .unset, .unset, .unset] [])
  have r_code := rng32 code
  refine w_iloadN X0 hx code (dB d5_0) 1 rfl rfl ?_
  refine w_bipush X0 hx (dB d5_1) 3 rfl (32 : Int32) (by decide) ?_
  obtain ⟨v14, e14⟩ : ∃ z : Int32, z = code ||| (32 : Int32) := ⟨_, rfl⟩
  have n14 : -2147483648 ≤ v14.toInt ∧ v14.toInt < 2147483648 := by rw [e14]; exact rng32 _
  have k14 := own_fold code p0 p1
  rw [← e14] at k14
  refine w_ior X0 hx (dB d5_3) 4 rfl e14 ?_
  refine w_istoreN X0 hx (dB d5_4) 5 rfl #[.val (.int code), .val (.int v14), .unset, .unset, .unset, .unset] rfl ?_
  have J15 : ∀ (j15_0 : Int32), ((j15_0.toInt = 1 ∧ (97 ≤ v14.toInt ∧ v14.toInt ≤ 122)) ∨ (j15_0.toInt = 0 ∧ ¬ (97 ≤ v14.toInt ∧ v14.toInt ≤ 122))) → Wk p e below (FN s (Q5 Z code h0 n0) 0 0) s₁ (mkF m 22 #[.val (.int code), .val (.int v14), .unset, .unset, .unset, .unset] [(.int j15_0)]) := by
   intro j15_0 f15
   refine w_istoreN X0 hx (dB d5_22) 23 rfl #[.val (.int code), .val (.int v14), .val (.int j15_0), .unset, .unset, .unset] rfl ?_
   refine w_iloadN X0 hx code (dB d5_23) 24 rfl rfl ?_
   refine w_bipush X0 hx (dB d5_24) 26 rfl (48 : Int32) (by decide) ?_
   obtain ⟨v16, e16⟩ : ∃ z : Int32, z = code - (48 : Int32) := ⟨_, rfl⟩
   have n16 : (v16.toInt - (code.toInt - 48)) % 4294967296 = 0 := by rw [e16]; exact subM rfl (by decide)
   have n16b : -2147483648 ≤ v16.toInt ∧ v16.toInt < 2147483648 := by rw [e16]; exact rng32 _
   refine w_isub X0 hx (dB d5_26) 27 rfl e16 ?_
   refine w_istoreN X0 hx (dB d5_27) 28 rfl #[.val (.int code), .val (.int v14), .val (.int j15_0), .val (.int v16), .unset, .unset] rfl ?_
   have J17 : ∀ (j17_0 : Int32), ((j17_0.toInt = 1 ∧ (48 ≤ code.toInt ∧ code.toInt ≤ 57)) ∨ (j17_0.toInt = 0 ∧ ¬ (48 ≤ code.toInt ∧ code.toInt ≤ 57))) → Wk p e below (FN s (Q5 Z code h0 n0) 0 0) s₁ (mkF m 43 #[.val (.int code), .val (.int v14), .val (.int j15_0), .val (.int v16), .unset, .unset] [(.int j17_0)]) := by
    intro j17_0 f17
    refine w_istore X0 hx (dB d5_43) 45 rfl #[.val (.int code), .val (.int v14), .val (.int j15_0), .val (.int v16), .val (.int j17_0), .unset] rfl ?_
    have J18 : ∀ (j18_0 : Int32), ((j18_0.toInt = 1 ∧ (code.toInt = 95)) ∨ (j18_0.toInt = 0 ∧ ¬ (code.toInt = 95))) → Wk p e below (FN s (Q5 Z code h0 n0) 0 0) s₁ (mkF m 56 #[.val (.int code), .val (.int v14), .val (.int j15_0), .val (.int v16), .val (.int j17_0), .unset] [(.int j18_0)]) := by
     intro j18_0 f18
     refine w_istore X0 hx (dB d5_56) 58 rfl #[.val (.int code), .val (.int v14), .val (.int j15_0), .val (.int v16), .val (.int j17_0), .val (.int j18_0)] rfl ?_
     refine w_iloadN X0 hx j15_0 (dB d5_58) 59 rfl rfl ?_
     refine w_if_ne X0 hx j15_0.toInt rfl (dB d5_59) 72 62 (fun c19 => ?_) (fun c19 => ?_)
     ·refine w_iconst X0 hx (dB d5_72) 73 rfl (1 : Int32) (by decide) ?_
      refine w_goto X0 hx (dB d5_73) 77 ?_
      refine w_retN X0 hx hlk (t := .boolean) hret (by simp) (dB d5_77) (by decide) (by decide) ?_
      rw [e0]
      exact ⟨(1 : Int32), rfl, by have hz : (1 : Int32).toInt = 1 := (by decide); omega, N0, rfl⟩
     ·refine w_iload X0 hx j17_0 (dB d5_62) 64 rfl rfl ?_
      refine w_if_ne X0 hx j17_0.toInt rfl (dB d5_64) 72 67 (fun c20 => ?_) (fun c20 => ?_)
      ·refine w_iconst X0 hx (dB d5_72) 73 rfl (1 : Int32) (by decide) ?_
       refine w_goto X0 hx (dB d5_73) 77 ?_
       refine w_retN X0 hx hlk (t := .boolean) hret (by simp) (dB d5_77) (by decide) (by decide) ?_
       rw [e0]
       exact ⟨(1 : Int32), rfl, by have hz : (1 : Int32).toInt = 1 := (by decide); omega, N0, rfl⟩
      ·refine w_iload X0 hx j18_0 (dB d5_67) 69 rfl rfl ?_
       refine w_if_eq X0 hx j18_0.toInt rfl (dB d5_69) 76 72 (fun c21 => ?_) (fun c21 => ?_)
       ·refine w_iconst X0 hx (dB d5_76) 77 rfl (0 : Int32) (by decide) ?_
        refine w_retN X0 hx hlk (t := .boolean) hret (by simp) (dB d5_77) (by decide) (by decide) ?_
        rw [e0]
        exact ⟨(0 : Int32), rfl, by have hz : (0 : Int32).toInt = 0 := (by decide); omega, N0, rfl⟩
       ·refine w_iconst X0 hx (dB d5_72) 73 rfl (1 : Int32) (by decide) ?_
        refine w_goto X0 hx (dB d5_73) 77 ?_
        refine w_retN X0 hx hlk (t := .boolean) hret (by simp) (dB d5_77) (by decide) (by decide) ?_
        rw [e0]
        exact ⟨(1 : Int32), rfl, by have hz : (1 : Int32).toInt = 1 := (by decide); omega, N0, rfl⟩
    refine w_iloadN X0 hx code (dB d5_45) 46 rfl rfl ?_
    refine w_bipush X0 hx (dB d5_46) 48 rfl (95 : Int32) (by decide) ?_
    refine w_icmp_ne X0 hx code.toInt 95 rfl (by decide) (dB d5_48) 55 51 (fun c22 => ?_) (fun c22 => ?_)
    ·refine w_iconst X0 hx (dB d5_55) 56 rfl (0 : Int32) (by decide) ?_
     exact J18 (0 : Int32) (by have hz1 : (0 : Int32).toInt = 0 := (by decide); omega)
    ·refine w_iconst X0 hx (dB d5_51) 52 rfl (1 : Int32) (by decide) ?_
     refine w_goto X0 hx (dB d5_52) 56 ?_
     exact J18 (1 : Int32) (by have hz1 : (1 : Int32).toInt = 1 := (by decide); omega)
   refine w_iloadN X0 hx v16 (dB d5_28) 29 rfl rfl ?_
   refine w_if_lt X0 hx v16.toInt rfl (dB d5_29) 42 32 (fun c23 => ?_) (fun c23 => ?_)
   ·refine w_iconst X0 hx (dB d5_42) 43 rfl (0 : Int32) (by decide) ?_
    exact J17 (0 : Int32) (by have hz1 : (0 : Int32).toInt = 0 := (by decide); omega)
   ·refine w_iloadN X0 hx v16 (dB d5_32) 33 rfl rfl ?_
    refine w_bipush X0 hx (dB d5_33) 35 rfl (10 : Int32) (by decide) ?_
    refine w_icmp_ge X0 hx v16.toInt 10 rfl (by decide) (dB d5_35) 42 38 (fun c24 => ?_) (fun c24 => ?_)
    ·refine w_iconst X0 hx (dB d5_42) 43 rfl (0 : Int32) (by decide) ?_
     exact J17 (0 : Int32) (by have hz1 : (0 : Int32).toInt = 0 := (by decide); omega)
    ·refine w_iconst X0 hx (dB d5_38) 39 rfl (1 : Int32) (by decide) ?_
     refine w_goto X0 hx (dB d5_39) 43 ?_
     exact J17 (1 : Int32) (by have hz1 : (1 : Int32).toInt = 1 := (by decide); omega)
  refine w_iloadN X0 hx v14 (dB d5_5) 6 rfl rfl ?_
  refine w_bipush X0 hx (dB d5_6) 8 rfl (97 : Int32) (by decide) ?_
  refine w_icmp_lt X0 hx v14.toInt 97 rfl (by decide) (dB d5_8) 21 11 (fun c25 => ?_) (fun c25 => ?_)
  ·refine w_iconst X0 hx (dB d5_21) 22 rfl (0 : Int32) (by decide) ?_
   exact J15 (0 : Int32) (by have hz1 : (0 : Int32).toInt = 0 := (by decide); omega)
  ·refine w_iloadN X0 hx v14 (dB d5_11) 12 rfl rfl ?_
   refine w_bipush X0 hx (dB d5_12) 14 rfl (122 : Int32) (by decide) ?_
   refine w_icmp_gt X0 hx v14.toInt 122 rfl (by decide) (dB d5_14) 21 17 (fun c26 => ?_) (fun c26 => ?_)
   ·refine w_iconst X0 hx (dB d5_21) 22 rfl (0 : Int32) (by decide) ?_
    exact J15 (0 : Int32) (by have hz1 : (0 : Int32).toInt = 0 := (by decide); omega)
   ·refine w_iconst X0 hx (dB d5_17) 18 rfl (1 : Int32) (by decide) ?_
    refine w_goto X0 hx (dB d5_18) 22 ?_
    exact J15 (1 : Int32) (by have hz1 : (1 : Int32).toInt = 1 := (by decide); omega)
theorem ef_0 (m : MethodId) (x0 : Int32) : entryFrame m #[(.int x0)] maxLocals = mkF m 0 #[.val (.int x0), .unset, .unset] [] := by first | (simp [entryFrame, mkF, argsToLocals, Value.category, maxLocals]; done) | rfl
def Q0 (Z : State) (xx : Int32) (h0 : Heap) (n0 : Nat) (v : Option Value) (h : Heap) (L : List Loc) : Prop := v = some (.int 1) ∧ Fr n0 L
set_option maxRecDepth 65536 in
set_option maxHeartbeats 40000000 in
theorem rm0 (l : Launch) (Z : State) (a0 : Array Value) (hw : ∀ d ∈ tables_1, d.before a0 Z = true) (ws : List Jvm.Cond) (xx : Int32) (h0 : Heap) (n0 : Nat) (Z0 : n0 ≤ h0.size) :
    MetFree l x (head1 (Jvm.Cond.code x code maxLocals ret :: ws) room_1) (fun as_ U => as_ = #[(.int xx)] ∧ Z.Warmed39 U.vm ∧ U.heap = h0) (fun _ _ _ _ _ => True) (fun _ U o U' => ∃ v L, o = .returned v ∧ Q0 Z xx h0 n0 v U'.heap L ∧ FrameEnd U o U' L 0 0) := by
  refine body_of (plainFor_of_name pn_1) ?_
  intro p e s m below meth c s₁ hx dB hret hlk hml hown0 hnm X0 e0 hZ
  have hown : s.vm.findClass cN_1 = some m.cls := hown0
  have N0 := Fr.nil n0
  rw [ef_0]
  show Wk p e below (FN s (Q0 Z xx h0 n0) 0 0) s₁ (mkF m 0 #[.val (.int xx), .unset, .unset] [])
  have r_xx := rng32 xx
  refine w_iloadN X0 hx xx (dB at_0) 1 rfl rfl ?_
  refine w_ldc X0 hx hZ hown (tw_0 hw) (dB at_1) 3 rfl ?_
  obtain ⟨v27, e27⟩ : ∃ z : Int32, z = xx &&& (65535 : Int32) := ⟨_, rfl⟩
  have n27 : v27.toInt = xx.toInt % 65536 := by rw [e27]; exact maskX 16 rfl (by decide) (by decide)
  refine w_iand X0 hx (dB at_3) 4 rfl e27 ?_
  refine w_istoreN X0 hx (dB at_4) 5 rfl #[.val (.int xx), .val (.int v27), .unset] rfl ?_
  refine w_iloadN X0 hx v27 (dB at_5) 6 rfl rfl ?_
  obtain ⟨v28, e28⟩ : ∃ z : Int32, z = v27.toUInt32.toUInt16.toUInt32.toInt32 := ⟨_, rfl⟩
  have n28 : v28.toInt = v27.toInt := by rw [e28]; exact i2cE rfl (by omega) (by omega)
  refine w_i2c X0 hx (dB at_6) 7 rfl e28 ?_
  refine w_istoreN X0 hx (dB at_7) 8 rfl #[.val (.int xx), .val (.int v27), .val (.int v28)] rfl ?_
  refine w_iloadN X0 hx v28 (dB at_8) 9 rfl rfl ?_
  refine w_callS X0 hx hZ hown e0 (rm1 l Z a0 hw [] v28 h0 n0 Z0 ) (tw_1 hw) (tw_2 hw) (tw_3 hw) (tw_4 hw) (by decide) (by rw [hml]; rfl) [(.int v28)] [] (lenOf pd_0 rfl) rfl rfl (by decide) 0 rfl (by decide) (by decide) (by decide) (dB at_9) 12 rfl (fun r29 T29 L29 X29 q29 => ?_)
  obtain ⟨z29, rfl, f29, Nq29, eq29⟩ := q29
  have N29 := Fr.app N0 Nq29
  dsimp only [Option.toList_some, Option.toList_none, List.cons_append, List.nil_append]
  refine w_iloadN X29 hx v27 (dB at_12) 13 rfl rfl ?_
  refine w_callS X29 hx hZ hown eq29 (rm5 l Z a0 hw [] v27 h0 n0 Z0 (by omega) (by omega)) (tw_14 hw) (tw_15 hw) (tw_16 hw) (tw_17 hw) (by decide) (by rw [hml]; rfl) [(.int v27)] [(.int z29)] (lenOf pd_1 rfl) rfl rfl (by decide) 1 rfl (by decide) (by decide) (by decide) (dB at_13) 16 rfl (fun r30 T30 L30 X30 q30 => ?_)
  obtain ⟨z30, rfl, f30, Nq30, eq30⟩ := q30
  have N30 := Fr.app N29 Nq30
  dsimp only [Option.toList_some, Option.toList_none, List.cons_append, List.nil_append]
  refine w_icmp_ne X30 hx z29.toInt z30.toInt rfl rfl (dB at_16) 23 19 (fun c31 => ?_) (fun c31 => ?_)
  ·refine w_iconst X30 hx (dB at_23) 24 rfl (0 : Int32) (by decide) ?_
   refine w_retN X30 hx hlk (t := .boolean) hret (by simp) (dB at_24) (by decide) (by decide) ?_
   rw [eq30]
   exfalso; omega
  ·refine w_iconst X30 hx (dB at_19) 20 rfl (1 : Int32) (by decide) ?_
   refine w_goto X30 hx (dB at_20) 24 ?_
   refine w_retN X30 hx hlk (t := .boolean) hret (by simp) (dB at_24) (by decide) (by decide) ?_
   rw [eq30]
   exact ⟨rfl, N30⟩
set_option maxRecDepth 65536 in
set_option maxHeartbeats 40000000 in
theorem comes_1 {Post : Tables → Env → Array Value → State → Outcome → State → Prop} (hpost : ∀ tb e args s v u, (limb_1_1.after args s (.returned v) u = true ∧ limb_1_2.after args s (.returned v) u = true ∧ True) → FrameEnd s (.returned v) u (Jvm.fieldLocs frame_1_writes args s ++ Jvm.arrayLocs frame_1_arrays args s ++ Jvm.staticLocs frame_1_statics s) 0 0 → Post tb e args s (.returned v) u) :
    ArmFor flags0 classFile x code maxLocals ret World_1 tables_1 room_1 Calls_1 rest_1 Pre_1 Post := by
  intro l hfl _ _ p e ha hc hk s m args below hf hA hF happ hP
  obtain ⟨hcalls, hrest, hpre⟩ := hP
  obtain ⟨-, -, -, hnamed, -, -, -, hat⟩ := (Spec.applies_iff hf).mp happ
  obtain ⟨hg, hn⟩ := and_e (Cond.before_iff.mp (show (Jvm.Cond.and given_1 narrow_1).before args s = true from hpre))
  obtain ⟨gg1, gg2⟩ := and_e hg
  obtain ⟨w0, rfl⟩ : ∃ w0 : Value, args = #[w0] := by
    have hs : args.size = 1 := by simpa [Cond.value, given_1] using gg1
    obtain ⟨L⟩ := args
    match L, hs with
    | [w0], _ => exact ⟨w0, rfl⟩
  have hw := fun d (hd : d ∈ tables_1) => atoms_spec (ws := Jvm.Cond.code x code maxLocals ret :: tables_1) hat d (List.mem_cons_of_mem _ hd)
  have hfit : Fit s := fun {y c} hc i hi => by
    obtain ⟨ha, rfl⟩ := Array.getElem?_eq_some_iff.mp hc
    have q := List.all_eq_true.mp ((Array.all_eq_true_iff_forall_mem.mp hF) _ (Array.getElem_mem ha)) i (List.mem_range.mpr hi)
    simpa [Array.getElem?_eq_getElem hi] using q
  obtain ⟨i0, ei0⟩ := is_v gg2
  obtain rfl : w0 = (.int i0) := Option.some.inj ei0
  obtain ⟨n, o, h1, h2, h3, _, L, rfl, ⟨rfl, N⟩, hq⟩ := rm0 l s _ hw tables_1 i0 s.heap s.heap.size (Nat.le_refl _) p e ha hc hk s m _ below hf ((Spec.applies_iff_loose hf).mp happ).1 ⟨rfl, State.Warmed39.refl s, rfl⟩ trivial
  refine ⟨n, _, h1, h2, h3, hpost _ _ _ _ _ _ ⟨Cond.after_iff.mpr rfl, Cond.after_iff.mpr (eq_i res_at (Term.int_eval (1)) rfl), trivial⟩ ⟨hq.1, hq.2.1, (hq.2.2.sift fun y hy => Or.inr (N y hy)).mono (by decide) (by decide)⟩⟩
theorem main_1_1 : Claimed_1_1 := comes_1 fun _ _ _ _ _ _ h hF => ⟨h.1, hF⟩
theorem main_1_2 : Claimed_1_2 := comes_1 fun _ _ _ _ _ _ h hF => ⟨h.2.1, hF⟩
end Jvm.Pilot.@@N@@
namespace Jvm.Pilot.@@N@@
open Jvm Jvm.ClassFile Sem Op Lib Jvm.Free Jvm.Stand Jvm.Pilot.@@N@@.Jvm.D
/-! MADE BY PROGRAM (witnessworld.py) out of the Statement's table words and the real class files: 9 classes; the members and pool entries that the words name. The judged class is class 1, her method 2. -/
namespace start1
open Jvm.ClassFile
def u (s : String) : CpInfo := .utf8 (stringToUtf16 s)
/-- a pool by its gaps: so many unusable entries, then the entry; so many at the end -/
def gap : Nat → List CpInfo → List CpInfo
  | 0, r => r
  | n + 1, r => .unusable :: gap n r
def poolList (es : List (Nat × CpInfo)) (last : Nat) : List CpInfo := es.foldr (fun e r => gap e.1 (e.2 :: r)) (gap last [])
def pool (es : List (Nat × CpInfo)) (last : Nat) : Array CpInfo := ⟨poolList es last⟩
def fileOf (pool : Array CpInfo) (this : Nat) (attrs : Array Attribute := #[]) (ms : Array MethodInfo := #[]) (fl : Nat := 33) (sup : Nat := 0) (ifs : Array Nat := #[]) (fds : Array FieldInfo := #[]) : ClassFile where
  minorVersion := 0
  majorVersion := 65
  constantPool := pool
  accessFlags := fl
  thisClass := this
  superClass := sup
  interfaces := ifs
  fields := fds
  methods := ms
  attributes := attrs
def plain (name : String) (sup : Option ClassId) : Class where
  name := name
  kind := .ordinary
  loader := none
  accessFlags := 33
  super := sup
  interfaces := #[]
  cf := none
  fields := #[]
  methods := #[]
  instanceTypes := #[]
  staticTypes := #[]
  resolved := #[]
  callSites := []
  init := .initialized
  statics := none
  mirror := none

def pool0 : Array CpInfo := pool [(5, u "<init>"), (0, u "()V"), (1, .class_ 10), (1, u "java/lang/Object")] 113

def k0m0 : Method := { name := "<init>", desc := "()V", sig := { parameters := [], returnType := none }, accessFlags := 1, code := none }
/-- java/lang/Object -/
def k0 : Class := { plain "java/lang/Object" none with
  accessFlags := 33
  interfaces := #[]
  cf := some (fileOf pool0 8 #[] #[{ accessFlags := 1, nameIndex := 5, descriptorIndex := 6, attributes := #[] }] 33 0 #[] #[])
  fields := #[]
  methods := #[k0m0]
  instanceTypes := #[]
  staticTypes := #[]
  resolved := Array.replicate 124 none
  statics := none }

def pool1 : Array CpInfo := pool [(2, .class_ 4), (1, u "java/lang/Object"), (0, u "<init>"), (0, u "()V"), (0, .integer 65535), (0, .methodref 9 10), (0, .class_ 11), (0, .nameAndType 12 13), (0, u "com/example/simpagation/simpagation/Lexer"), (0, u "isAlphanumeric"), (0, u "(C)Z"), (0, .methodref 15 16), (0, .class_ 17), (0, .nameAndType 18 19), (0, u "com/example/simpagation/simpagation/LexerIsAlphanumericPinLaw"), (0, u "expected"), (0, u "(I)Z"), (3, u "law")] 2

def k1m0 : Method := { name := "<init>", desc := "()V", sig := { parameters := [], returnType := none }, accessFlags := 2, code := none }
def k1c1 : Code := { maxStack := 2, maxLocals := 6, code := method_2_code, exceptionTable := #[], attributes := #[] }
def k1m1 : Method := { name := "expected", desc := "(I)Z", sig := { parameters := [.int], returnType := some .boolean }, accessFlags := 10, code := some k1c1 }
def k1c2 : Code := { maxStack := 2, maxLocals := 3, code := code, exceptionTable := #[], attributes := #[] }
def k1m2 : Method := { name := "law", desc := "(I)Z", sig := { parameters := [.int], returnType := some .boolean }, accessFlags := 9, code := some k1c2 }
/-- com/example/simpagation/simpagation/LexerIsAlphanumericPinLaw -/
def k1 : Class := { plain "com/example/simpagation/simpagation/LexerIsAlphanumericPinLaw" (some 0) with
  accessFlags := 49
  interfaces := #[]
  cf := some (fileOf pool1 15 #[] #[{ accessFlags := 2, nameIndex := 5, descriptorIndex := 6, attributes := #[] }, { accessFlags := 10, nameIndex := 18, descriptorIndex := 19, attributes := #[] }, { accessFlags := 9, nameIndex := 23, descriptorIndex := 19, attributes := #[] }] 49 2 #[] #[])
  fields := #[]
  methods := #[k1m0, k1m1, k1m2]
  instanceTypes := #[]
  staticTypes := #[]
  resolved := Array.replicate 26 none
  statics := none }

def pool2 : Array CpInfo := pool [(2, .class_ 4), (1, u "java/lang/Object"), (3, .class_ 10), (1, u "com/example/simpagation/simpagation/Lexer"), (0, u "line"), (0, u "I"), (2, u "source"), (0, u "Ljava/lang/String;"), (2, u "text"), (0, u "Ljava/lang/CharSequence;"), (6, u "offset"), (6, .class_ 35), (0, u "com/example/simpagation/simpagation/Lexer$Token"), (1, .class_ 39), (1, u "com/example/simpagation/simpagation/Lexer$Kind"), (11, .methodref 8 52), (0, .nameAndType 53 54), (0, u "isDigit"), (0, u "(C)Z"), (22, .methodref 8 78), (0, .nameAndType 79 54), (0, u "isLowerCase"), (6, .methodref 8 87), (0, .nameAndType 88 54), (0, u "isUpperCase"), (164, u "isAlphanumeric"), (4, u "SYMBOL_CHARS"), (1, u "CONTROL_ESCAPES"), (0, u "CONTROL_CHARS")] 30

def k2c0 : Code := { maxStack := 2, maxLocals := 1, code := prog_25_method_4_code, exceptionTable := #[], attributes := #[] }
def k2m0 : Method := { name := "isAlphanumeric", desc := "(C)Z", sig := { parameters := [.char], returnType := some .boolean }, accessFlags := 8, code := some k2c0 }
def k2c1 : Code := { maxStack := 2, maxLocals := 1, code := prog_25_method_5_code, exceptionTable := #[], attributes := #[] }
def k2m1 : Method := { name := "isLowerCase", desc := "(C)Z", sig := { parameters := [.char], returnType := some .boolean }, accessFlags := 8, code := some k2c1 }
def k2c2 : Code := { maxStack := 2, maxLocals := 1, code := prog_25_method_24_code, exceptionTable := #[], attributes := #[] }
def k2m2 : Method := { name := "isDigit", desc := "(C)Z", sig := { parameters := [.char], returnType := some .boolean }, accessFlags := 10, code := some k2c2 }
def k2c3 : Code := { maxStack := 2, maxLocals := 1, code := prog_25_method_25_code, exceptionTable := #[], attributes := #[] }
def k2m3 : Method := { name := "isUpperCase", desc := "(C)Z", sig := { parameters := [.char], returnType := some .boolean }, accessFlags := 10, code := some k2c3 }
/-- com/example/simpagation/simpagation/Lexer -/
def k2 : Class := { plain "com/example/simpagation/simpagation/Lexer" (some 0) with
  accessFlags := 48
  interfaces := #[]
  cf := some (fileOf pool2 8 #[.nestMembers #[34, 37]] #[{ accessFlags := 8, nameIndex := 253, descriptorIndex := 54, attributes := #[] }, { accessFlags := 8, nameIndex := 79, descriptorIndex := 54, attributes := #[] }, { accessFlags := 10, nameIndex := 53, descriptorIndex := 54, attributes := #[] }, { accessFlags := 10, nameIndex := 88, descriptorIndex := 54, attributes := #[] }] 48 2 #[] #[{ accessFlags := 26, nameIndex := 258, descriptorIndex := 16, attributes := #[] }, { accessFlags := 24, nameIndex := 260, descriptorIndex := 16, attributes := #[] }, { accessFlags := 24, nameIndex := 261, descriptorIndex := 16, attributes := #[] }, { accessFlags := 18, nameIndex := 15, descriptorIndex := 16, attributes := #[] }, { accessFlags := 18, nameIndex := 19, descriptorIndex := 20, attributes := #[] }, { accessFlags := 2, nameIndex := 27, descriptorIndex := 12, attributes := #[] }, { accessFlags := 2, nameIndex := 11, descriptorIndex := 12, attributes := #[] }])
  fields := #[{ name := "SYMBOL_CHARS", type := (.object "java/lang/String"), accessFlags := 26, slot := 0, constantValue := 0 }, { name := "CONTROL_ESCAPES", type := (.object "java/lang/String"), accessFlags := 24, slot := 1, constantValue := 0 }, { name := "CONTROL_CHARS", type := (.object "java/lang/String"), accessFlags := 24, slot := 2, constantValue := 0 }, { name := "source", type := (.object "java/lang/String"), accessFlags := 18, slot := 0, constantValue := 0 }, { name := "text", type := (.object "java/lang/CharSequence"), accessFlags := 18, slot := 1, constantValue := 0 }, { name := "offset", type := .int, accessFlags := 2, slot := 2, constantValue := 0 }, { name := "line", type := .int, accessFlags := 2, slot := 3, constantValue := 0 }]
  methods := #[k2m0, k2m1, k2m2, k2m3]
  instanceTypes := #[(.object "java/lang/String"), (.object "java/lang/CharSequence"), .int, .int]
  staticTypes := #[(.object "java/lang/String"), (.object "java/lang/String"), (.object "java/lang/String")]
  resolved := Array.replicate 292 none
  statics := none }

def pool3 : Array CpInfo := pool [(1, u "java/lang/Cloneable"), (0, .class_ 1), (0, u "java/lang/Object"), (0, .class_ 3)] 3

/-- java/lang/Cloneable -/
def k3 : Class := { plain "java/lang/Cloneable" (some 0) with
  accessFlags := 1537
  interfaces := #[]
  cf := some (fileOf pool3 2 #[] #[] 1537 4 #[] #[])
  fields := #[]
  methods := #[]
  instanceTypes := #[]
  staticTypes := #[]
  resolved := Array.replicate 8 none
  statics := none }

def pool4 : Array CpInfo := pool [(1, u "java/io/Serializable"), (0, .class_ 1), (0, u "java/lang/Object"), (0, .class_ 3)] 3

/-- java/io/Serializable -/
def k4 : Class := { plain "java/io/Serializable" (some 0) with
  accessFlags := 1537
  interfaces := #[]
  cf := some (fileOf pool4 2 #[] #[] 1537 4 #[] #[])
  fields := #[]
  methods := #[]
  instanceTypes := #[]
  staticTypes := #[]
  resolved := Array.replicate 8 none
  statics := none }

/-- the primitive byte -/
def k5 : Class := { plain "byte" none with kind := .primitive 'B', accessFlags := 0x411 }
/-- [B -/
def k6 : Class := { plain "[B" (some 0) with kind := .array 5 .byte, interfaces := #[3, 4], accessFlags := 1041 }

/-- the primitive int -/
def k7 : Class := { plain "int" none with kind := .primitive 'I', accessFlags := 0x411 }
/-- [I -/
def k8 : Class := { plain "[I" (some 0) with kind := .array 7 .int, interfaces := #[3, 4], accessFlags := 1041 }

def heap : Heap := #[]
def classes : Array Class := #[k0, k1, k2, k3, k4, k5, k6, k7, k8]
def interned : List (Array UInt16 × Addr) := []
def slotsUsed : Nat := 0
def theMethod : MethodId := ⟨1, 2⟩
def args0 : Array Value := #[.int 5]
def aboutOver (below : List Frame) : State where
  vm := { classes := classes, interned := interned.toArray }
  heap := heap
  slotsUsed := slotsUsed
  threads := #[{ frames := .invoking theMethod args0 :: below }]
def below0 : List Frame := [.native { method := ⟨0, 0⟩, args := #[] }]
def about1 : State := aboutOver below0
def p0 : Program := .bare "" "" ""
def e0 : Env := launch0.env 0 0 0
theorem w_frames : about1.frames = Frame.invoking theMethod args0 :: below0 := rfl
set_option maxRecDepth 65536 in
theorem w_args : argsFit about1.vm theMethod args0 = true := by decide +kernel
set_option maxRecDepth 65536 in
theorem w_heap : heapFits about1 = true := by decide +kernel
set_option maxRecDepth 65536 in
theorem w_runnable : about1.curStatus? = some .runnable := by decide +kernel
set_option maxRecDepth 65536 in
theorem w_alone : about1.alone = true := by decide +kernel
set_option maxRecDepth 65536 in
theorem w_named : about1.methodNamed? x = some theMethod := by decide +kernel
set_option maxRecDepth 65536 in
theorem w_hears : about1.hears theMethod below0 = true := by decide +kernel
set_option maxRecDepth 65536 in
theorem w_ripe : about1.ripe theMethod args0 below0 = true := by decide +kernel
theorem w_running : about1.status = .running := rfl
set_option maxRecDepth 65536 in
theorem w_room : about1.hasRoom e0.platform room_1 = true :=
  launch0.hasRoom_least _ room_1 (by decide +kernel) (by decide +kernel) (by decide +kernel) (by decide +kernel) (by decide +kernel) (by decide +kernel)
theorem allAtoms_all (ts : List Jvm.Cond) (a : Array Jvm.Value) (st : Jvm.State) : (allAtoms ts).before a st = ts.all (fun c => c.before a st) := by
  induction ts with
  | nil => rfl
  | cons c t ih =>
    show (Jvm.Cond.and c (allAtoms t)).before a st = _
    rw [Jvm.Cond.before_and, ih, List.all_cons]
def words1 : List Jvm.Cond := Jvm.Cond.code x code maxLocals ret :: tables_1
/-- a 'code' word, met by the world's own term for the bytes: nothing is compared byte by byte -/
theorem code_word {y : MethodName} {bytes : ByteArray} {mx : Nat} {rt : Option FieldType} {a : Array Value} {s : State} {m : MethodId} {meth : Method} {c : Code} (h1 : s.methodNamed? y = some m) (h2 : s.vm.method? m = some meth) (h3 : meth.code = some c) (h4 : c.code = bytes)
    (h5 : (c.maxLocals == mx && c.exceptionTable.isEmpty && decide (c.maxStack ≤ mostOperands) && decide (meth.sig.returnType = rt) && !meth.locks && decide (parseMethodDescriptor y.desc = some meth.sig)) = true) : (Jvm.Cond.code y bytes mx rt).before a s = true := by
  simp only [Bool.and_eq_true, beq_iff_eq, Bool.not_eq_true', decide_eq_true_eq] at h5
  obtain ⟨⟨⟨⟨⟨g1, g2⟩, g3⟩, g4⟩, g5⟩, g6⟩ := h5
  simp [Cond.before, Cond.holds, Cond.value, h1, h2, h3, h4, g1, g2, g3, g4, g5, g6]
def isCode : Jvm.Cond → Bool
  | .code _ _ _ _ => true
  | _ => false
theorem all_split {L : List Jvm.Cond} {P : Jvm.Cond → Bool} (h1 : L.all (fun c => isCode c || P c) = true) (h2 : ∀ c ∈ L.filter isCode, P c = true) : L.all P = true := by
  refine List.all_eq_true.mpr fun c hc => ?_
  have h := List.all_eq_true.mp h1 c hc
  rcases Bool.eq_false_or_eq_true (isCode c) with hi | hi
  · exact h2 c (List.mem_filter.mpr ⟨hc, hi⟩)
  · simpa [hi] using h
set_option maxRecDepth 65536 in
theorem w_c0 : (Jvm.Cond.code x code maxLocals ret).before args0 about1 = true := code_word (m := ⟨1, 2⟩) (meth := k1m2) (c := k1c2) (by decide +kernel) rfl rfl rfl (by decide +kernel)
set_option maxRecDepth 65536 in
theorem w_c1 : (Jvm.Cond.code ({ cls := "com/example/simpagation/simpagation/Lexer", name := "isAlphanumeric", desc := "(C)Z" } : Jvm.MethodName) prog_25_method_4_code (1 : Nat) (Option.some Jvm.ClassFile.FieldType.boolean)).before args0 about1 = true := code_word (m := ⟨2, 0⟩) (meth := k2m0) (c := k2c0) (by decide +kernel) rfl rfl rfl (by decide +kernel)
set_option maxRecDepth 65536 in
theorem w_c2 : (Jvm.Cond.code ({ cls := "com/example/simpagation/simpagation/Lexer", name := "isLowerCase", desc := "(C)Z" } : Jvm.MethodName) prog_25_method_5_code (1 : Nat) (Option.some Jvm.ClassFile.FieldType.boolean)).before args0 about1 = true := code_word (m := ⟨2, 1⟩) (meth := k2m1) (c := k2c1) (by decide +kernel) rfl rfl rfl (by decide +kernel)
set_option maxRecDepth 65536 in
theorem w_c3 : (Jvm.Cond.code ({ cls := "com/example/simpagation/simpagation/Lexer", name := "isUpperCase", desc := "(C)Z" } : Jvm.MethodName) prog_25_method_25_code (1 : Nat) (Option.some Jvm.ClassFile.FieldType.boolean)).before args0 about1 = true := code_word (m := ⟨2, 3⟩) (meth := k2m3) (c := k2c3) (by decide +kernel) rfl rfl rfl (by decide +kernel)
set_option maxRecDepth 65536 in
theorem w_c4 : (Jvm.Cond.code ({ cls := "com/example/simpagation/simpagation/Lexer", name := "isDigit", desc := "(C)Z" } : Jvm.MethodName) prog_25_method_24_code (1 : Nat) (Option.some Jvm.ClassFile.FieldType.boolean)).before args0 about1 = true := code_word (m := ⟨2, 2⟩) (meth := k2m2) (c := k2c2) (by decide +kernel) rfl rfl rfl (by decide +kernel)
set_option maxRecDepth 65536 in
theorem w_c5 : (Jvm.Cond.code ({ cls := "com/example/simpagation/simpagation/LexerIsAlphanumericPinLaw", name := "expected", desc := "(I)Z" } : Jvm.MethodName) method_2_code (6 : Nat) (Option.some Jvm.ClassFile.FieldType.boolean)).before args0 about1 = true := code_word (m := ⟨1, 1⟩) (meth := k1m1) (c := k1c1) (by decide +kernel) rfl rfl rfl (by decide +kernel)
def codes1 : List Jvm.Cond := [Jvm.Cond.code x code maxLocals ret, Jvm.Cond.code ({ cls := "com/example/simpagation/simpagation/Lexer", name := "isAlphanumeric", desc := "(C)Z" } : Jvm.MethodName) prog_25_method_4_code (1 : Nat) (Option.some Jvm.ClassFile.FieldType.boolean), Jvm.Cond.code ({ cls := "com/example/simpagation/simpagation/Lexer", name := "isLowerCase", desc := "(C)Z" } : Jvm.MethodName) prog_25_method_5_code (1 : Nat) (Option.some Jvm.ClassFile.FieldType.boolean), Jvm.Cond.code ({ cls := "com/example/simpagation/simpagation/Lexer", name := "isUpperCase", desc := "(C)Z" } : Jvm.MethodName) prog_25_method_25_code (1 : Nat) (Option.some Jvm.ClassFile.FieldType.boolean), Jvm.Cond.code ({ cls := "com/example/simpagation/simpagation/Lexer", name := "isDigit", desc := "(C)Z" } : Jvm.MethodName) prog_25_method_24_code (1 : Nat) (Option.some Jvm.ClassFile.FieldType.boolean), Jvm.Cond.code ({ cls := "com/example/simpagation/simpagation/LexerIsAlphanumericPinLaw", name := "expected", desc := "(I)Z" } : Jvm.MethodName) method_2_code (6 : Nat) (Option.some Jvm.ClassFile.FieldType.boolean)]
set_option maxRecDepth 65536 in
theorem codes_eq : words1.filter isCode = codes1 := rfl
theorem w_codes : ∀ c ∈ words1.filter isCode, c.before args0 about1 = true := by
  rw [codes_eq]
  intro c hc
  simp only [codes1, List.mem_cons, List.not_mem_nil, or_false] at hc
  rcases hc with rfl | rfl | rfl | rfl | rfl | rfl
  · exact w_c0
  · exact w_c1
  · exact w_c2
  · exact w_c3
  · exact w_c4
  · exact w_c5
set_option maxRecDepth 65536 in
theorem w_t1 : words1.all (fun c => isCode c || c.before args0 about1) = true := by decide +kernel
theorem w_tables : (allAtoms (Jvm.Cond.code x code maxLocals ret :: tables_1)).before args0 about1 = true := by
  rw [allAtoms_all]
  show words1.all (fun c => c.before args0 about1) = true
  refine all_split ?_ w_codes
  rw [w_t1]
set_option maxRecDepth 65536 in
theorem w_case : (Jvm.Cond.and given_1 narrow_1).before args0 about1 = true := by decide +kernel
theorem w_applies : (headSpec (Jvm.Cond.code x code maxLocals ret :: tables_1) room_1).applies x e0.platform about1 = true :=
  (Spec.applies_iff w_frames).mpr ⟨w_running, w_runnable, w_alone, w_named, w_hears, w_ripe, w_room, w_tables⟩
theorem atStart : AtStart classFile x code maxLocals ret World_1 tables_1 room_1 Calls_1 rest_1 Pre_1 launch0 p0 e0 about1 theMethod args0 below0 :=
  ⟨lists_1, trivial, launch0.admits_env _ _ _, launch0.least_env, fairChoices_fair.cas, fairChoices_fair.clock, w_frames, w_args, w_heap, w_applies, trivial, trivial, w_case⟩
end start1
theorem witness_1 : WitnessClaimed_1 := ⟨start1.p0, start1.e0, start1.about1, start1.theMethod, start1.args0, start1.below0, start1.atStart⟩
end Jvm.Pilot.@@N@@
