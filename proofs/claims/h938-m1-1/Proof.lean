import JvmDerived
import JvmDerived.Pilot.@@N@@Statement
import JvmDerived.Pilot.@@N@@Code
set_option linter.unusedVariables false
set_option linter.unusedSimpArgs false
namespace Jvm.Own
open Sem ClassFile Op Lib Jvm.Stand Jvm.Free Jvm.LawKit Jvm.RoadKit
/-- from here the run goes on to a return that the contract allows -/
def Wk (p : Program) (e : Env) (below : List Frame) (F : Outcome → State → Prop) (T : State) (g : JFrame) : Prop :=
  ∃ s₂ o, Steps p.tables e below (T.setTop g) s₂ ∧ s₂.status = .running ∧ Ended s₂ below o ∧ F o s₂
abbrev FN (s : State) (Q : Option Value → Heap → List Loc → Prop) (kc ks : Nat) : Outcome → State → Prop := fun o s₂ => ∃ v L, o = .returned v ∧ Q v s₂.heap L ∧ FrameEnd s o s₂ L kc ks
section Walk
variable {p : Program} {l : Launch} {e : Env} {R : Room} {s : State} {m : MethodId} {args : Array Value} {below : List Frame} {meth : Method} {c : Code} {T : State} {locs : List Loc} {cells slots : Nat} {Q : Option Value → Heap → List Loc → Prop} {Fe : Outcome → State → Prop} {kc ks pc : Nat} {Ls : Array Slot} {S : List Value} {Z : State} {a0 : Array Value} {h : Heap}
theorem Wk.step {T' : State} {g g' : JFrame} (h : Wk p e below Fe T' g') (st : ∀ t, Steps p.tables e below (T'.setTop g') t → Steps p.tables e below (T.setTop g) t) : Wk p e below Fe T g := by
  obtain ⟨s₂, o, h1, h2⟩ := h
  exact ⟨s₂, o, st _ h1, h2⟩
theorem Wk.come {T' : State} {g g' : JFrame} (h : Wk p e below Fe T' g') (st : Steps p.tables e below (T.setTop g) (T'.setTop g')) : Wk p e below Fe T g := h.step fun _ k => st.trans k
theorem w_iload (X : Stand p l e R s m args below meth c T locs cells slots) (hx : p.tables.exec = Jvm.exec) {k : Nat} (v : Int32) (hd : decode c.code pc = .ok (.iload k, 2)) (pc' : Nat) (hp : pc + 2 = pc') (hl : Ls[k]? = some (.val (.int v))) (h : Wk p e below Fe T (mkF m pc' Ls (.int v :: S))) : Wk p e below Fe T (mkF m pc Ls S) := by
  subst hp; exact h.step fun _ k => XS.iload X.here hx rfl hd hl k
theorem w_iloadN (X : Stand p l e R s m args below meth c T locs cells slots) (hx : p.tables.exec = Jvm.exec) {k : Fin 4} (v : Int32) (hd : decode c.code pc = .ok (.iload_n k, 1)) (pc' : Nat) (hp : pc + 1 = pc') (hl : Ls[k.val]? = some (.val (.int v))) (h : Wk p e below Fe T (mkF m pc' Ls (.int v :: S))) : Wk p e below Fe T (mkF m pc Ls S) := by
  subst hp; exact h.step fun _ k => XS.iloadN X.here hx rfl hd hl k
theorem w_aload (X : Stand p l e R s m args below meth c T locs cells slots) (hx : p.tables.exec = Jvm.exec) {k : Nat} (v : Value) (hd : decode c.code pc = .ok (.aload k, 2)) (pc' : Nat) (hp : pc + 2 = pc') (hl : Ls[k]? = some (.val v)) (hv : v.isRef = true) (h : Wk p e below Fe T (mkF m pc' Ls (v :: S))) : Wk p e below Fe T (mkF m pc Ls S) := by
  subst hp; exact h.step fun _ k => XS.aload X.here hx rfl hd hl hv k
theorem w_aloadN (X : Stand p l e R s m args below meth c T locs cells slots) (hx : p.tables.exec = Jvm.exec) {k : Fin 4} (v : Value) (hd : decode c.code pc = .ok (.aload_n k, 1)) (pc' : Nat) (hp : pc + 1 = pc') (hl : Ls[k.val]? = some (.val v)) (hv : v.isRef = true) (h : Wk p e below Fe T (mkF m pc' Ls (v :: S))) : Wk p e below Fe T (mkF m pc Ls S) := by
  subst hp; exact h.step fun _ k => XS.aloadN X.here hx rfl hd hl hv k
theorem w_istore (X : Stand p l e R s m args below meth c T locs cells slots) (hx : p.tables.exec = Jvm.exec) {k : Nat} {x : Int32} (hd : decode c.code pc = .ok (.istore k, 2)) (pc' : Nat) (hp : pc + 2 = pc') (l' : Array Slot) (hl : storeLocals Ls k (.int x) = some l') (h : Wk p e below Fe T (mkF m pc' l' S)) : Wk p e below Fe T (mkF m pc Ls (.int x :: S)) := by
  subst hp; exact h.step fun _ k => XS.istore X.here hx rfl hd rfl hl k
theorem w_istoreN (X : Stand p l e R s m args below meth c T locs cells slots) (hx : p.tables.exec = Jvm.exec) {k : Fin 4} {x : Int32} (hd : decode c.code pc = .ok (.istore_n k, 1)) (pc' : Nat) (hp : pc + 1 = pc') (l' : Array Slot) (hl : storeLocals Ls k.val (.int x) = some l') (h : Wk p e below Fe T (mkF m pc' l' S)) : Wk p e below Fe T (mkF m pc Ls (.int x :: S)) := by
  subst hp; exact h.step fun _ k => XS.istoreN X.here hx rfl hd rfl hl k
theorem w_astore (X : Stand p l e R s m args below meth c T locs cells slots) (hx : p.tables.exec = Jvm.exec) {k : Nat} {x : Value} (hd : decode c.code pc = .ok (.astore k, 2)) (pc' : Nat) (hp : pc + 2 = pc') (hv : x.isRef = true) (l' : Array Slot) (hl : storeLocals Ls k x = some l') (h : Wk p e below Fe T (mkF m pc' l' S)) : Wk p e below Fe T (mkF m pc Ls (x :: S)) := by
  subst hp; exact h.step fun _ k => XS.astore X.here hx rfl hd rfl hv hl k
theorem w_iconst (X : Stand p l e R s m args below meth c T locs cells slots) (hx : p.tables.exec = Jvm.exec) {i : Int} (hd : decode c.code pc = .ok (.iconst i, 1)) (pc' : Nat) (hp : pc + 1 = pc') (z : Int32) (hz : Int32.ofInt i = z) (h : Wk p e below Fe T (mkF m pc' Ls (.int z :: S))) : Wk p e below Fe T (mkF m pc Ls S) := by
  subst hp hz; exact h.step fun _ k => XS.iconst X.here hx rfl hd k
theorem w_bipush (X : Stand p l e R s m args below meth c T locs cells slots) (hx : p.tables.exec = Jvm.exec) {i : Int} (hd : decode c.code pc = .ok (.bipush i, 2)) (pc' : Nat) (hp : pc + 2 = pc') (z : Int32) (hz : (Int8.ofInt i).toInt32 = z) (h : Wk p e below Fe T (mkF m pc' Ls (.int z :: S))) : Wk p e below Fe T (mkF m pc Ls S) := by
  subst hp hz; exact h.step fun _ k => XS.bipush X.here hx rfl hd k
theorem w_lconst (X : Stand p l e R s m args below meth c T locs cells slots) (hx : p.tables.exec = Jvm.exec) {k : Fin 2} (hd : decode c.code pc = .ok (.lconst k, 1)) (pc' : Nat) (hp : pc + 1 = pc') (z : Int64) (hz : Int64.ofNat k = z) (h : Wk p e below Fe T (mkF m pc' Ls (.long z :: S))) : Wk p e below Fe T (mkF m pc Ls S) := by
  subst hp hz; exact h.step fun _ k => XS.lconst X.here hx rfl hd k
theorem w_ldc (X : Stand p l e R s m args below meth c T locs cells slots) (hx : p.tables.exec = Jvm.exec) (hZ : Z.Warmed39 s.vm) {own : String} {index : Nat} {v : Int32} (hown : s.vm.findClass own = some m.cls) (w : (Cond.constant own index v).before a0 Z = true) (hd : decode c.code pc = .ok (.ldc index, 2)) (pc' : Nat) (hp : pc + 2 = pc') (h : Wk p e below Fe T (mkF m pc' Ls (.int v :: S))) : Wk p e below Fe T (mkF m pc Ls S) := by
  subst hp; exact h.step fun _ k => X.ldcInt hx hown (mvT hZ w) (g := mkF m pc Ls S) rfl hd _ k
theorem w_iand (X : Stand p l e R s m args below meth c T locs cells slots) (hx : p.tables.exec = Jvm.exec) {x y : Int32} (hd : decode c.code pc = .ok (.iand, 1)) (pc' : Nat) (hp : pc + 1 = pc') {z : Int32} (hz : z = x &&& y) (h : Wk p e below Fe T (mkF m pc' Ls (.int z :: S))) : Wk p e below Fe T (mkF m pc Ls (.int y :: .int x :: S)) := by
  subst hp hz; exact h.step fun _ k => XS.iand X.here hx rfl hd rfl k
theorem w_ladd (X : Stand p l e R s m args below meth c T locs cells slots) (hx : p.tables.exec = Jvm.exec) {x y : Int64} (hd : decode c.code pc = .ok (.ladd, 1)) (pc' : Nat) (hp : pc + 1 = pc') {z : Int64} (hz : z = x + y) (h : Wk p e below Fe T (mkF m pc' Ls (.long z :: S))) : Wk p e below Fe T (mkF m pc Ls (.long y :: .long x :: S)) := by
  subst hp hz; exact h.step fun _ k => XS.ladd X.here hx rfl hd rfl k
theorem w_irem (X : Stand p l e R s m args below meth c T locs cells slots) (hx : p.tables.exec = Jvm.exec) {x y : Int32} (hd : decode c.code pc = .ok (.irem, 1)) (pc' : Nat) (hp : pc + 1 = pc') (hy : y ≠ 0) {z : Int32} (hz : z = x % y) (h : Wk p e below Fe T (mkF m pc' Ls (.int z :: S))) : Wk p e below Fe T (mkF m pc Ls (.int y :: .int x :: S)) := by
  subst hp hz; exact h.step fun _ k => iremM (g := mkF m pc Ls (.int y :: .int x :: S)) X hx rfl hd rfl hy k
theorem w_lcmp (X : Stand p l e R s m args below meth c T locs cells slots) (hx : p.tables.exec = Jvm.exec) {x y : Int64} (hd : decode c.code pc = .ok (.lcmp, 1)) (pc' : Nat) (hp : pc + 1 = pc') {z : Int32} (hz : z = lcmpW x y) (h : Wk p e below Fe T (mkF m pc' Ls (.int z :: S))) : Wk p e below Fe T (mkF m pc Ls (.long y :: .long x :: S)) := by
  subst hp hz; exact h.step fun _ k => XS.lcmp X.here hx rfl hd rfl k
theorem w_dup (X : Stand p l e R s m args below meth c T locs cells slots) (hx : p.tables.exec = Jvm.exec) {x : Value} (hd : decode c.code pc = .ok (.dup, 1)) (pc' : Nat) (hp : pc + 1 = pc') (hc : x.category = 1) (h : Wk p e below Fe T (mkF m pc' Ls (x :: x :: S))) : Wk p e below Fe T (mkF m pc Ls (x :: S)) := by
  subst hp; exact h.step fun _ k => XS.dup X.here hx rfl hd rfl hc k
theorem w_goto (X : Stand p l e R s m args below meth c T locs cells slots) (hx : p.tables.exec = Jvm.exec) {o : Int} (hd : decode c.code pc = .ok (.goto o, 3)) (pc' : Nat) (h : Wk p e below Fe T (mkF m pc' Ls S)) (ho : 0 ≤ (pc : Int) + o := by decide) (hp : ((pc : Int) + o).toNat = pc' := by decide) : Wk p e below Fe T (mkF m pc Ls S) := by
  exact h.step fun _ k => XS.goto X.here hx rfl rfl hd ho hp k
theorem holds_eq {x y : Int32} {A B : Int} (ha : x.toInt = A) (hb : y.toInt = B) : ((A = B) → if_icmp.holds .eq x y = true) ∧ ((¬ A = B) → if_icmp.holds .eq x y = false) := by
  subst ha hb
  constructor
  · intro q
    first
    | exact (tlt (x := x) (y := y) (Int32.lt_iff_toInt_lt.mpr (by omega))).1
    | exact (flt (x := x) (y := y) (fun r => by have := Int32.lt_iff_toInt_lt.mp r; omega)).2.1
    | exact (tlt (x := y) (y := x) (Int32.lt_iff_toInt_lt.mpr (by omega))).2.2.1
    | exact (flt (x := y) (y := x) (fun r => by have := Int32.lt_iff_toInt_lt.mp r; omega)).2.2.2
    | exact (teq (x := x) (y := y) (Int32.toInt_inj.mp (by omega))).1
    | exact (feq (x := x) (y := y) (fun r => q (by rw [r]))).2
  · intro q
    first
    | exact (flt (x := x) (y := y) (fun r => by have := Int32.lt_iff_toInt_lt.mp r; omega)).1
    | exact (tlt (x := x) (y := y) (Int32.lt_iff_toInt_lt.mpr (by omega))).2.1
    | exact (flt (x := y) (y := x) (fun r => by have := Int32.lt_iff_toInt_lt.mp r; omega)).2.2.1
    | exact (tlt (x := y) (y := x) (Int32.lt_iff_toInt_lt.mpr (by omega))).2.2.2
    | exact (feq (x := x) (y := y) (fun r => q (by rw [r]))).1
    | exact (teq (x := x) (y := y) (Int32.toInt_inj.mp (by omega))).2
theorem w_icmp_eq (X : Stand p l e R s m args below meth c T locs cells slots) (hx : p.tables.exec = Jvm.exec) {x y : Int32} {o : Int} (A B : Int) (ha : x.toInt = A) (hb : y.toInt = B) (hd : decode c.code pc = .ok (.if_icmp .eq o, 3)) (pt pn : Nat) (h1 : A = B → Wk p e below Fe T (mkF m pt Ls S)) (h2 : ¬ A = B → Wk p e below Fe T (mkF m pn Ls S)) (ho : 0 ≤ (pc : Int) + o := by decide) (hp : ((pc : Int) + o).toNat = pt := by decide) (hn : pc + 3 = pn := by rfl) : Wk p e below Fe T (mkF m pc Ls (.int y :: .int x :: S)) := by
  subst hn
  by_cases q : A = B
  · exact (h1 q).step fun _ k => XS.icmpYes X.here hx rfl rfl hd rfl ((holds_eq ha hb).1 q) ho hp k
  · have q' : ¬ A = B := by omega
    exact (h2 q').step fun _ k => XS.icmpNo X.here hx rfl hd rfl ((holds_eq ha hb).2 q') k
theorem w_if_eq (X : Stand p l e R s m args below meth c T locs cells slots) (hx : p.tables.exec = Jvm.exec) {x : Int32} {o : Int} (A : Int) (ha : x.toInt = A) (hd : decode c.code pc = .ok (.ifCond .eq o, 3)) (pt pn : Nat) (h1 : A = 0 → Wk p e below Fe T (mkF m pt Ls S)) (h2 : ¬ A = 0 → Wk p e below Fe T (mkF m pn Ls S)) (ho : 0 ≤ (pc : Int) + o := by decide) (hp : ((pc : Int) + o).toNat = pt := by decide) (hn : pc + 3 = pn := by rfl) : Wk p e below Fe T (mkF m pc Ls (.int x :: S)) := by
  subst hn
  have hb : (0 : Int32).toInt = 0 := rfl
  by_cases q : A = 0
  · exact (h1 q).step fun _ k => XS.ifYes X.here hx rfl rfl hd rfl ((if0 _ _).trans ((holds_eq ha hb).1 q)) ho hp k
  · have q' : ¬ A = 0 := by omega
    exact (h2 q').step fun _ k => XS.ifNo X.here hx rfl hd rfl ((if0 _ _).trans ((holds_eq ha hb).2 q')) k
theorem holds_ne {x y : Int32} {A B : Int} (ha : x.toInt = A) (hb : y.toInt = B) : ((¬ A = B) → if_icmp.holds .ne x y = true) ∧ ((A = B) → if_icmp.holds .ne x y = false) := by
  subst ha hb
  constructor
  · intro q
    first
    | exact (tlt (x := x) (y := y) (Int32.lt_iff_toInt_lt.mpr (by omega))).1
    | exact (flt (x := x) (y := y) (fun r => by have := Int32.lt_iff_toInt_lt.mp r; omega)).2.1
    | exact (tlt (x := y) (y := x) (Int32.lt_iff_toInt_lt.mpr (by omega))).2.2.1
    | exact (flt (x := y) (y := x) (fun r => by have := Int32.lt_iff_toInt_lt.mp r; omega)).2.2.2
    | exact (teq (x := x) (y := y) (Int32.toInt_inj.mp (by omega))).1
    | exact (feq (x := x) (y := y) (fun r => q (by rw [r]))).2
  · intro q
    first
    | exact (flt (x := x) (y := y) (fun r => by have := Int32.lt_iff_toInt_lt.mp r; omega)).1
    | exact (tlt (x := x) (y := y) (Int32.lt_iff_toInt_lt.mpr (by omega))).2.1
    | exact (flt (x := y) (y := x) (fun r => by have := Int32.lt_iff_toInt_lt.mp r; omega)).2.2.1
    | exact (tlt (x := y) (y := x) (Int32.lt_iff_toInt_lt.mpr (by omega))).2.2.2
    | exact (feq (x := x) (y := y) (fun r => q (by rw [r]))).1
    | exact (teq (x := x) (y := y) (Int32.toInt_inj.mp (by omega))).2
theorem w_icmp_ne (X : Stand p l e R s m args below meth c T locs cells slots) (hx : p.tables.exec = Jvm.exec) {x y : Int32} {o : Int} (A B : Int) (ha : x.toInt = A) (hb : y.toInt = B) (hd : decode c.code pc = .ok (.if_icmp .ne o, 3)) (pt pn : Nat) (h1 : ¬ A = B → Wk p e below Fe T (mkF m pt Ls S)) (h2 : A = B → Wk p e below Fe T (mkF m pn Ls S)) (ho : 0 ≤ (pc : Int) + o := by decide) (hp : ((pc : Int) + o).toNat = pt := by decide) (hn : pc + 3 = pn := by rfl) : Wk p e below Fe T (mkF m pc Ls (.int y :: .int x :: S)) := by
  subst hn
  by_cases q : ¬ A = B
  · exact (h1 q).step fun _ k => XS.icmpYes X.here hx rfl rfl hd rfl ((holds_ne ha hb).1 q) ho hp k
  · have q' : A = B := by omega
    exact (h2 q').step fun _ k => XS.icmpNo X.here hx rfl hd rfl ((holds_ne ha hb).2 q') k
theorem w_if_ne (X : Stand p l e R s m args below meth c T locs cells slots) (hx : p.tables.exec = Jvm.exec) {x : Int32} {o : Int} (A : Int) (ha : x.toInt = A) (hd : decode c.code pc = .ok (.ifCond .ne o, 3)) (pt pn : Nat) (h1 : ¬ A = 0 → Wk p e below Fe T (mkF m pt Ls S)) (h2 : A = 0 → Wk p e below Fe T (mkF m pn Ls S)) (ho : 0 ≤ (pc : Int) + o := by decide) (hp : ((pc : Int) + o).toNat = pt := by decide) (hn : pc + 3 = pn := by rfl) : Wk p e below Fe T (mkF m pc Ls (.int x :: S)) := by
  subst hn
  have hb : (0 : Int32).toInt = 0 := rfl
  by_cases q : ¬ A = 0
  · exact (h1 q).step fun _ k => XS.ifYes X.here hx rfl rfl hd rfl ((if0 _ _).trans ((holds_ne ha hb).1 q)) ho hp k
  · have q' : A = 0 := by omega
    exact (h2 q').step fun _ k => XS.ifNo X.here hx rfl hd rfl ((if0 _ _).trans ((holds_ne ha hb).2 q')) k
theorem holds_gt {x y : Int32} {A B : Int} (ha : x.toInt = A) (hb : y.toInt = B) : ((B < A) → if_icmp.holds .gt x y = true) ∧ ((A ≤ B) → if_icmp.holds .gt x y = false) := by
  subst ha hb
  constructor
  · intro q
    first
    | exact (tlt (x := x) (y := y) (Int32.lt_iff_toInt_lt.mpr (by omega))).1
    | exact (flt (x := x) (y := y) (fun r => by have := Int32.lt_iff_toInt_lt.mp r; omega)).2.1
    | exact (tlt (x := y) (y := x) (Int32.lt_iff_toInt_lt.mpr (by omega))).2.2.1
    | exact (flt (x := y) (y := x) (fun r => by have := Int32.lt_iff_toInt_lt.mp r; omega)).2.2.2
    | exact (teq (x := x) (y := y) (Int32.toInt_inj.mp (by omega))).1
    | exact (feq (x := x) (y := y) (fun r => q (by rw [r]))).2
  · intro q
    first
    | exact (flt (x := x) (y := y) (fun r => by have := Int32.lt_iff_toInt_lt.mp r; omega)).1
    | exact (tlt (x := x) (y := y) (Int32.lt_iff_toInt_lt.mpr (by omega))).2.1
    | exact (flt (x := y) (y := x) (fun r => by have := Int32.lt_iff_toInt_lt.mp r; omega)).2.2.1
    | exact (tlt (x := y) (y := x) (Int32.lt_iff_toInt_lt.mpr (by omega))).2.2.2
    | exact (feq (x := x) (y := y) (fun r => q (by rw [r]))).1
    | exact (teq (x := x) (y := y) (Int32.toInt_inj.mp (by omega))).2
theorem w_if_gt (X : Stand p l e R s m args below meth c T locs cells slots) (hx : p.tables.exec = Jvm.exec) {x : Int32} {o : Int} (A : Int) (ha : x.toInt = A) (hd : decode c.code pc = .ok (.ifCond .gt o, 3)) (pt pn : Nat) (h1 : 0 < A → Wk p e below Fe T (mkF m pt Ls S)) (h2 : A ≤ 0 → Wk p e below Fe T (mkF m pn Ls S)) (ho : 0 ≤ (pc : Int) + o := by decide) (hp : ((pc : Int) + o).toNat = pt := by decide) (hn : pc + 3 = pn := by rfl) : Wk p e below Fe T (mkF m pc Ls (.int x :: S)) := by
  subst hn
  have hb : (0 : Int32).toInt = 0 := rfl
  by_cases q : 0 < A
  · exact (h1 q).step fun _ k => XS.ifYes X.here hx rfl rfl hd rfl ((if0 _ _).trans ((holds_gt ha hb).1 q)) ho hp k
  · have q' : A ≤ 0 := by omega
    exact (h2 q').step fun _ k => XS.ifNo X.here hx rfl hd rfl ((if0 _ _).trans ((holds_gt ha hb).2 q')) k
theorem holds_le {x y : Int32} {A B : Int} (ha : x.toInt = A) (hb : y.toInt = B) : ((A ≤ B) → if_icmp.holds .le x y = true) ∧ ((B < A) → if_icmp.holds .le x y = false) := by
  subst ha hb
  constructor
  · intro q
    first
    | exact (tlt (x := x) (y := y) (Int32.lt_iff_toInt_lt.mpr (by omega))).1
    | exact (flt (x := x) (y := y) (fun r => by have := Int32.lt_iff_toInt_lt.mp r; omega)).2.1
    | exact (tlt (x := y) (y := x) (Int32.lt_iff_toInt_lt.mpr (by omega))).2.2.1
    | exact (flt (x := y) (y := x) (fun r => by have := Int32.lt_iff_toInt_lt.mp r; omega)).2.2.2
    | exact (teq (x := x) (y := y) (Int32.toInt_inj.mp (by omega))).1
    | exact (feq (x := x) (y := y) (fun r => q (by rw [r]))).2
  · intro q
    first
    | exact (flt (x := x) (y := y) (fun r => by have := Int32.lt_iff_toInt_lt.mp r; omega)).1
    | exact (tlt (x := x) (y := y) (Int32.lt_iff_toInt_lt.mpr (by omega))).2.1
    | exact (flt (x := y) (y := x) (fun r => by have := Int32.lt_iff_toInt_lt.mp r; omega)).2.2.1
    | exact (tlt (x := y) (y := x) (Int32.lt_iff_toInt_lt.mpr (by omega))).2.2.2
    | exact (feq (x := x) (y := y) (fun r => q (by rw [r]))).1
    | exact (teq (x := x) (y := y) (Int32.toInt_inj.mp (by omega))).2
theorem w_if_le (X : Stand p l e R s m args below meth c T locs cells slots) (hx : p.tables.exec = Jvm.exec) {x : Int32} {o : Int} (A : Int) (ha : x.toInt = A) (hd : decode c.code pc = .ok (.ifCond .le o, 3)) (pt pn : Nat) (h1 : A ≤ 0 → Wk p e below Fe T (mkF m pt Ls S)) (h2 : 0 < A → Wk p e below Fe T (mkF m pn Ls S)) (ho : 0 ≤ (pc : Int) + o := by decide) (hp : ((pc : Int) + o).toNat = pt := by decide) (hn : pc + 3 = pn := by rfl) : Wk p e below Fe T (mkF m pc Ls (.int x :: S)) := by
  subst hn
  have hb : (0 : Int32).toInt = 0 := rfl
  by_cases q : A ≤ 0
  · exact (h1 q).step fun _ k => XS.ifYes X.here hx rfl rfl hd rfl ((if0 _ _).trans ((holds_le ha hb).1 q)) ho hp k
  · have q' : 0 < A := by omega
    exact (h2 q').step fun _ k => XS.ifNo X.here hx rfl hd rfl ((if0 _ _).trans ((holds_le ha hb).2 q')) k
theorem w_retN (X : Stand p l e R s m args below meth c T locs cells slots) (hx : p.tables.exec = Jvm.exec) (hlocks : meth.locks = false) {t : FieldType} {z : Int32} (hret : meth.sig.returnType = some t) (ht : t = .boolean ∨ t = .byte ∨ t = .char ∨ t = .short) (hd : decode c.code pc = .ok (.ireturn, 1)) (hc : cells ≤ kc) (hs : slots ≤ ks) (hQ : Q (some (.int (nar t z))) T.heap locs) : Wk p e below (FN s Q kc ks) T (mkF m pc Ls (.int z :: S)) := by
  obtain ⟨fs, hr, hrun, hended, hW, hsame⟩ := X.leave (v := some (.int (nar t z))) (fun h => by rw [hret] at h; cases h) hlocks
  exact ⟨_, _, retN X hx hret ht hd hr, hrun, hended, _, _, rfl, hQ, ⟨_, rfl⟩, hW, hsame.mono hc hs⟩
theorem w_retO (X : Stand p l e R s m args below meth c T locs cells slots) (hx : p.tables.exec = Jvm.exec) (hlocks : meth.locks = false) {t : FieldType} {w : Value} {i : Instr} (hret : meth.sig.returnType = some t) (hn : narrow t w = w)
    (hi : (i = .ireturn ∧ (t = .int ∨ t = .boolean ∨ t = .byte ∨ t = .char ∨ t = .short) ∧ ∃ z, w = .int z) ∨ (i = .lreturn ∧ t = .long ∧ ∃ z, w = .long z) ∨ (i = .dreturn ∧ t = .double ∧ ∃ z, w = .double z) ∨ (i = .freturn ∧ t = .float ∧ ∃ z, w = .float z) ∨ (i = .areturn ∧ t.isReference = true ∧ w.isRef = true))
    (hd : decode c.code pc = .ok (i, 1)) (hc : cells ≤ kc) (hs : slots ≤ ks) (hQ : Q (some w) T.heap locs) : Wk p e below (FN s Q kc ks) T (mkF m pc Ls (w :: S)) := by
  obtain ⟨fs, hr, hrun, hended, hW, hsame⟩ := X.leave (v := some w) (fun h => by rw [hret] at h; cases h) hlocks
  exact ⟨_, _, retOut X hx hret hn hi hd hr, hrun, hended, _, _, rfl, hQ, ⟨_, rfl⟩, hW, hsame.mono hc hs⟩
theorem w_retI (X : Stand p l e R s m args below meth c T locs cells slots) (hx : p.tables.exec = Jvm.exec) (hlocks : meth.locks = false) {z : Int32} (hret : meth.sig.returnType = some .int) (hd : decode c.code pc = .ok (.ireturn, 1)) (hc : cells ≤ kc) (hs : slots ≤ ks) (hQ : Q (some (.int z)) T.heap locs) : Wk p e below (FN s Q kc ks) T (mkF m pc Ls (.int z :: S)) :=
  w_retO X hx hlocks hret rfl (Or.inl ⟨rfl, Or.inl rfl, _, rfl⟩) hd hc hs hQ
theorem w_ret0 (X : Stand p l e R s m args below meth c T locs cells slots) (hx : p.tables.exec = Jvm.exec) (hlocks : meth.locks = false) (hret : meth.sig.returnType = none) (hd : decode c.code pc = .ok (.return_, 1)) (hc : cells ≤ kc) (hs : slots ≤ ks) (hQ : Q none T.heap locs) : Wk p e below (FN s Q kc ks) T (mkF m pc Ls []) := by
  obtain ⟨fs, hr, hrun, hended, hW, hsame⟩ := X.leave (v := none) (fun _ => rfl) hlocks
  exact ⟨_, _, X.returnOut hx hret hd hr, hrun, hended, _, _, rfl, hQ, ⟨_, rfl⟩, hW, hsame.mono hc hs⟩
theorem w_init (X : Stand p l e R s m args below meth c T locs cells slots) (hx : p.tables.exec = Jvm.exec) (hZ : Z.Warmed39 s.vm) {own : String} {index : Nat} {y : MethodName} {bytes : ByteArray} {maxL : Nat} {rm : Room} {as' : Array Value} {Qc : Option Value → Heap → List Loc → Prop} (hy1 : y.name = "<init>") (hown : s.vm.findClass own = some m.cls) (eT : T.heap = h)
    (hM : MetFree l y (head1 [Cond.code y bytes maxL none] rm) (fun a U => a = as' ∧ Z.Warmed39 U.vm ∧ U.heap = h) (fun _ _ _ _ _ => True) (fun _ U o U' => ∃ v L, o = .returned v ∧ Qc v U'.heap L ∧ FrameEnd U o U' L rm.cells rm.slots))
    (w1 : (Cond.methodLink own index y).before a0 Z = true) (w2 : (Cond.instanceMethod y).before a0 Z = true) (w3 : (Cond.initialized y.cls).before a0 Z = true) (w4 : (Cond.code y bytes maxL none).before a0 Z = true) (hy : y.cls ≠ "java/lang/invoke/MethodHandle" ∧ y.cls ≠ "java/lang/invoke/VarHandle")
    (hsize : Ls.size = c.maxLocals) (a : Addr) (argsL rest : List Value) (hlen : ∀ sig, parseMethodDescriptor y.desc = some sig → argsL.length = sig.parameters.length) (hst : S = argsL.reverse ++ .ref a :: rest) (has : (Value.ref a :: argsL).toArray = as')
    (hf : rm.frames + 1 ≤ R.frames) (W : Nat) (hW : (rest.map fun v => v.category).sum = W) (hl : W + (maxL + 11) + rm.locals ≤ R.locals) (hc : cells + rm.cells ≤ R.cells) (hs : slots + rm.slots ≤ R.slots) (hd : decode c.code pc = .ok (.invokespecial index, 3)) (pc' : Nat) (hp : pc + 3 = pc')
    (k : ∀ (v : Option Value) (T' : State) (L : List Loc), Stand p l e R s m args below meth c T' (locs ++ L) (cells + rm.cells) (slots + rm.slots) → Qc v T'.heap L → Wk p e below Fe T' (mkF m pc' Ls (v.toList ++ rest))) : Wk p e below Fe T (mkF m pc Ls S) := by
  subst hp hst has hW
  obtain ⟨v, _, ⟨T', L', k', n'⟩, -, X', ⟨Lc, q1, q2, q3, q4⟩, st⟩ := X.specialBack hx hy1 hown (mvT hZ w1) (mvT hZ w2) (mvT hZ w4) hy (backOf hM hZ w4 w3 hf hl) (g := mkF m pc Ls (argsL.reverse ++ .ref a :: rest)) rfl hsize (Steps.refl _) hlen rfl (by show 2 * 0 + _ ≤ _; rw [Nat.mul_zero, Nat.zero_add]; exact Nat.le_refl _) hd (fun _ _ => ⟨rfl, eT, hc, hs⟩)
  dsimp only [Pt.U, Pt.locs, Pt.cells, Pt.slots] at X' q2 q3 q4 st q1
  subst q2 q3 q4
  exact (k v T' Lc X' q1).come st
theorem w_virt (X : Stand p l e R s m args below meth c T locs cells slots) (hx : p.tables.exec = Jvm.exec) (hZ : Z.Warmed39 s.vm) {own : String} {index : Nat} {y : MethodName} {bytes : ByteArray} {maxL : Nat} {ret : Option FieldType} {rm : Room} {as' : Array Value} {Qc : Option Value → Heap → List Loc → Prop} {C : String} {y0 : MethodName} (hown : s.vm.findClass own = some m.cls) (eT : T.heap = h)
    (hM : MetFree l y (head1 [Cond.code y bytes maxL ret] rm) (fun a U => a = as' ∧ Z.Warmed39 U.vm ∧ U.heap = h) (fun _ _ _ _ _ => True) (fun _ U o U' => ∃ v L, o = .returned v ∧ Qc v U'.heap L ∧ FrameEnd U o U' L rm.cells rm.slots))
    (w1 : (Cond.methodLink own index y0).before a0 Z = true) (w2 : (Cond.declares y0).before a0 Z = true) (nf : NotFace s y0) (w5 : (Cond.selects C y0 y).before a0 Z = true) (w6 : (Cond.instanceMethod y).before a0 Z = true) (w3 : (Cond.initialized y.cls).before a0 Z = true) (w4 : (Cond.code y bytes maxL ret).before a0 Z = true) (hy : y0.cls ≠ "java/lang/invoke/MethodHandle" ∧ y0.cls ≠ "java/lang/invoke/VarHandle")
    (a : Addr) (E : Exa Z h a C)
    (hsize : Ls.size = c.maxLocals) (argsL rest : List Value) (hlen : ∀ sig, parseMethodDescriptor y0.desc = some sig → argsL.length = sig.parameters.length) (hst : S = argsL.reverse ++ .ref a :: rest) (has : (Value.ref a :: argsL).toArray = as')
    (hf : rm.frames + 1 ≤ R.frames) (W : Nat) (hW : (rest.map fun v => v.category).sum = W) (hl : W + (maxL + 11) + rm.locals ≤ R.locals) (hc : cells + rm.cells ≤ R.cells) (hs : slots + rm.slots ≤ R.slots) (hd : decode c.code pc = .ok (.invokevirtual index, 3)) (pc' : Nat) (hp : pc + 3 = pc')
    (k : ∀ (v : Option Value) (T' : State) (L : List Loc), Stand p l e R s m args below meth c T' (locs ++ L) (cells + rm.cells) (slots + rm.slots) → Qc v T'.heap L → Wk p e below Fe T' (mkF m pc' Ls (v.toList ++ rest))) : Wk p e below Fe T (mkF m pc Ls S) := by
  subst hp hst has hW
  obtain ⟨cq, kq, qa, qb, qc⟩ := isOf hZ eT E
  obtain ⟨v, _, ⟨T', L', k', n'⟩, -, X', ⟨Lc, q1, q2, q3, q4⟩, st⟩ := X.virtualBack hx hown (mvT hZ w1) (mvT hZ w2) nf (mvT hZ w5) (mvT hZ w6) hy (backOf hM hZ w4 w3 hf hl) qa qc (g := mkF m pc Ls (argsL.reverse ++ .ref a :: rest)) rfl hsize (Steps.refl _) hlen rfl (by show 2 * 0 + _ ≤ _; rw [Nat.mul_zero, Nat.zero_add]; exact Nat.le_refl _) hd (fun _ _ => ⟨rfl, eT, hc, hs⟩)
  dsimp only [Pt.U, Pt.locs, Pt.cells, Pt.slots] at X' q2 q3 q4 st q1
  subst q2 q3 q4
  exact (k v T' Lc X' q1).come st
theorem w_objinit (X : Stand p l e R s m args below meth c T locs cells slots) (hx : p.tables.exec = Jvm.exec) (hZ : Z.Warmed39 s.vm) {own : String} {idx : Nat} (hown : s.vm.findClass own = some m.cls) (eT : T.heap = h) (w1 : (Cond.methodLink own idx Lib.objectInit).before a0 Z = true) (w2 : (Cond.instanceMethod Lib.objectInit).before a0 Z = true) (w3 : (Cond.code Lib.objectInit ⟨#[0xb1]⟩ 1 none).before a0 Z = true)
    (hsize : Ls.size = c.maxLocals) {a : Addr} (hf : 1 ≤ R.frames) (W : Nat) (hW : (S.map fun v => v.category).sum = W) (hl : W + 12 ≤ R.locals) (hd : decode c.code pc = .ok (.invokespecial idx, 3)) (pc' : Nat) (hp : pc + 3 = pc')
    (k : ∀ T' : State, Stand p l e R s m args below meth c T' locs cells slots → T'.heap = h → Wk p e below Fe T' (mkF m pc' Ls S)) : Wk p e below Fe T (mkF m pc Ls (.ref a :: S)) := by
  subst hp hW
  obtain ⟨T', X', e', st⟩ := initO X hx hZ hown w1 w2 w3 eT (g := mkF m pc Ls (.ref a :: S)) rfl hsize rfl hd hf (by show 2 * 0 + _ ≤ _; rw [Nat.mul_zero, Nat.zero_add]; exact Nat.le_refl _) hl
  exact (k T' X' e').step st
theorem w_getF (X : Stand p l e R s m args below meth c T locs cells slots) (hx : p.tables.exec = Jvm.exec) (hZ : Z.Warmed39 s.vm) {own R0 O n d host : String} {index : Nat} (hown : s.vm.findClass own = some m.cls) (eT : T.heap = h) (w : (Cond.fieldLink own index R0 n d).before a0 Z = true ∨ (Cond.fieldLinkNest own index R0 n d host).before a0 Z = true) (via : Via Z R0 O n d)
    {a : Addr} {v : Value} (F : Fld Z h a O n d v) (hd : decode c.code pc = .ok (.getfield index, 3)) (pc' : Nat) (hp : pc + 3 = pc')
    (k : ∀ T' : State, Stand p l e R s m args below meth c T' locs cells slots → T'.heap = h → Wk p e below Fe T' (mkF m pc' Ls (v :: S))) : Wk p e below Fe T (mkF m pc Ls (.ref a :: S)) := by
  subst hp
  obtain ⟨T', X', e', st⟩ := getF X hx hZ hown w via eT F (g := mkF m pc Ls (.ref a :: S)) rfl rfl hd
  exact (k T' X' e').step st
theorem w_getS (X : Stand p l e R s m args below meth c T locs cells slots) (hx : p.tables.exec = Jvm.exec) (hZ : Z.Warmed39 s.vm) {own R0 O n d host : String} {index : Nat} (hown : s.vm.findClass own = some m.cls) (eT : T.heap = h) (w : (Cond.fieldLink own index R0 n d).before a0 Z = true ∨ (Cond.fieldLinkNest own index R0 n d host).before a0 Z = true) (via : Via Z R0 O n d)
    {v : Value} (F : Sta Z h O n d v) (hd : decode c.code pc = .ok (.getstatic index, 3)) (pc' : Nat) (hp : pc + 3 = pc')
    (k : ∀ T' : State, Stand p l e R s m args below meth c T' locs cells slots → T'.heap = h → Wk p e below Fe T' (mkF m pc' Ls (v :: S))) : Wk p e below Fe T (mkF m pc Ls S) := by
  subst hp
  obtain ⟨T', X', e', st⟩ := getS2 X hx hZ hown w via eT F (g := mkF m pc Ls S) rfl hd
  exact (k T' X' e').step st
theorem w_putF (X : Stand p l e R s m args below meth c T locs cells slots) (hx : p.tables.exec = Jvm.exec) (hZ : Z.Warmed39 s.vm) {own R0 O n d host C : String} {index kk : Nat} {ty : FieldType} (hown : s.vm.findClass own = some m.cls) (eT : T.heap = h) (w : (Cond.fieldLink own index R0 n d).before a0 Z = true ∨ (Cond.fieldLinkNest own index R0 n d host).before a0 Z = true) (via : Via Z R0 O n d)
    {a : Addr} {v old : Value} (F : Fld Z h a O n d old) (E : Exa Z h a C) (L : (Cond.lays C O n d).before a0 Z = true ∨ ((Cond.laysFinal C O n d).before a0 Z = true ∧ own = O ∧ meth.name = "<init>")) (wi : (Cond.instantiable C kk).before a0 Z = true)
    (hty : parseFieldDescriptor d = some ty) (hn : narrow ty v = v) (hf : fits ty v = true) (hd : decode c.code pc = .ok (.putfield index, 3)) (pc' : Nat) (hp : pc + 3 = pc')
    (k : ∀ (T' : State) (h' : Heap), Stand p l e R s m args below meth c T' (locs ++ [⟨a, Jvm.RoadKit.slotOf Z O n d⟩]) cells slots → T'.heap = h' → Wr h h' a (Jvm.RoadKit.slotOf Z O n d) v → Wk p e below Fe T' (mkF m pc' Ls S)) : Wk p e below Fe T (mkF m pc Ls (v :: .ref a :: S)) := by
  subst hp
  obtain ⟨T', h', X', e', W', st⟩ := putF X hx hZ hown w via eT F E L wi hty hn hf (g := mkF m pc Ls (v :: .ref a :: S)) rfl rfl hd
  exact (k T' h' X' e' W').step st
theorem w_putFN (X : Stand p l e R s m args below meth c T locs cells slots) (hx : p.tables.exec = Jvm.exec) (hZ : Z.Warmed39 s.vm) {own R0 O n d C : String} {index kk : Nat} {ty : FieldType} (hown : s.vm.findClass own = some m.cls) (eT : T.heap = h) (w : (Cond.fieldLink own index R0 n d).before a0 Z = true) (via : Via Z R0 O n d)
    {a : Addr} {v v' old : Value} (F : Fld Z h a O n d old) (E : Exa Z h a C) (L : (Cond.lays C O n d).before a0 Z = true ∨ ((Cond.laysFinal C O n d).before a0 Z = true ∧ own = O ∧ meth.name = "<init>")) (wi : (Cond.instantiable C kk).before a0 Z = true)
    (hty : parseFieldDescriptor d = some ty) (hn : narrow ty v = v') (hf : fits ty v' = true) (hd : decode c.code pc = .ok (.putfield index, 3)) (pc' : Nat) (hp : pc + 3 = pc')
    (k : ∀ (T' : State) (h' : Heap), Stand p l e R s m args below meth c T' (locs ++ [⟨a, Jvm.RoadKit.slotOf Z O n d⟩]) cells slots → T'.heap = h' → Wr h h' a (Jvm.RoadKit.slotOf Z O n d) v' → Wk p e below Fe T' (mkF m pc' Ls S)) : Wk p e below Fe T (mkF m pc Ls (v :: .ref a :: S)) := by
  subst hp
  obtain ⟨T', h', X', e', W', st⟩ := putFN X hx hZ hown w via eT F E L wi hty hn hf (g := mkF m pc Ls (v :: .ref a :: S)) rfl rfl hd
  exact (k T' h' X' e' W').step st
theorem w_new (X : Stand p l e R s m args below meth c T locs cells slots) (hx : p.tables.exec = Jvm.exec) (hZ : Z.Warmed39 s.vm) {own C : String} {index n : Nat} (hown : s.vm.findClass own = some m.cls) (eT : T.heap = h) (w : (Cond.classLink own index C).before a0 Z = true) (wi : (Cond.instantiable C n).before a0 Z = true) (wz : (Cond.initialized C).before a0 Z = true)
    (hc : cells + 1 ≤ R.cells) (hl : slots + n ≤ R.slots) (hd : decode c.code pc = .ok (.new index, 3)) (pc' : Nat) (hp : pc + 3 = pc')
    (k : ∀ (T' : State) (h' : Heap) (a : Addr), Stand p l e R s m args below meth c T' locs (cells + 1) (slots + n) → T'.heap = h' → a = h.size → Ext h h' → Exa Z h' a C → (∀ {O nm d : String} {ty : FieldType}, Laid Z a0 C O nm d → parseFieldDescriptor d = some ty → Fld Z h' a O nm d (defaultValue ty)) → Wk p e below Fe T' (mkF m pc' Ls (.ref a :: S))) : Wk p e below Fe T (mkF m pc Ls S) := by
  subst hp
  obtain ⟨T', h', X', e', E', A', D', -, st⟩ := newO X hx hZ hown w wi wz eT (g := mkF m pc Ls S) rfl hd hc hl
  exact (k T' h' _ X' e' rfl E' A' D').step st
theorem w_lookHit (X : Stand p l e R s m args below meth c T locs cells slots) (hx : p.tables.exec = Jvm.exec) {k : Int32} {dflt : Int} {pairs : Array (Int × Int)} {len : Nat} (K : Int) (hk : k.toInt = K) (hd : decode c.code pc = .ok (.lookupswitch dflt pairs, len)) (hsorted : (pairs.toList.zip (pairs.toList.drop 1)).all (fun (a, next) => a.1 < next.1) = true) {a off : Int} (hfind : pairs.find? (·.1 == K) = some (a, off)) (pc' : Nat) (hoff : 0 ≤ (pc : Int) + off) (hp : ((pc : Int) + off).toNat = pc') (h : Wk p e below Fe T (mkF m pc' Ls S)) : Wk p e below Fe T (mkF m pc Ls (.int k :: S)) := by
  subst hk hp; exact h.step fun t r => X.lookupswitchHit hx (g := mkF m pc Ls (.int k :: S)) rfl rfl hd hsorted hfind hoff t r
theorem w_lookMiss (X : Stand p l e R s m args below meth c T locs cells slots) (hx : p.tables.exec = Jvm.exec) {k : Int32} {dflt : Int} {pairs : Array (Int × Int)} {len : Nat} (K : Int) (hk : k.toInt = K) (hd : decode c.code pc = .ok (.lookupswitch dflt pairs, len)) (hsorted : (pairs.toList.zip (pairs.toList.drop 1)).all (fun (a, next) => a.1 < next.1) = true) (hfind : pairs.find? (·.1 == K) = none) (pc' : Nat) (hoff : 0 ≤ (pc : Int) + dflt) (hp : ((pc : Int) + dflt).toNat = pc') (h : Wk p e below Fe T (mkF m pc' Ls S)) : Wk p e below Fe T (mkF m pc Ls (.int k :: S)) := by
  subst hk hp; exact h.step fun t r => X.lookupswitchMiss hx (g := mkF m pc Ls (.int k :: S)) rfl rfl hd hsorted hfind hoff t r
theorem w_virtUp (X : Stand p l e R s m args below meth c T locs cells slots) (hx : p.tables.exec = Jvm.exec) (hZ : Z.Warmed39 s.vm) {own : String} {index : Nat} {y : MethodName} {bytes : ByteArray} {maxL : Nat} {ret : Option FieldType} {rm : Room} {as' : Array Value} {Qc : Option Value → Heap → List Loc → Prop} {C owner : String} {y0 : MethodName} (hown : s.vm.findClass own = some m.cls) (eT : T.heap = h)
    (hM : MetFree l y (head1 [Cond.code y bytes maxL ret] rm) (fun a U => a = as' ∧ Z.Warmed39 U.vm ∧ U.heap = h) (fun _ _ _ _ _ => True) (fun _ U o U' => ∃ v L, o = .returned v ∧ Qc v U'.heap L ∧ FrameEnd U o U' L rm.cells rm.slots))
    (w1 : (Cond.methodLink own index y0).before a0 Z = true) (w2 : (Cond.sameMethod y0.cls owner y0.name y0.desc).before a0 Z = true) (w7 : (Cond.declares ⟨owner, y0.name, y0.desc⟩).before a0 Z = true) (hy : owner ≠ "java/lang/invoke/MethodHandle" ∧ owner ≠ "java/lang/invoke/VarHandle") (w5 : (Cond.selects C y0 y).before a0 Z = true) (w6 : (Cond.instanceMethod y).before a0 Z = true) (w3 : (Cond.initialized y.cls).before a0 Z = true) (w4 : (Cond.code y bytes maxL ret).before a0 Z = true)
    (a : Addr) (E : Exa Z h a C)
    (hsize : Ls.size = c.maxLocals) (argsL rest : List Value) (hlen : ∀ sig, parseMethodDescriptor y0.desc = some sig → argsL.length = sig.parameters.length) (hst : S = argsL.reverse ++ .ref a :: rest) (has : (Value.ref a :: argsL).toArray = as')
    (hf : rm.frames + 1 ≤ R.frames) (W : Nat) (hW : (rest.map fun v => v.category).sum = W) (hl : W + (maxL + 11) + rm.locals ≤ R.locals) (hc : cells + rm.cells ≤ R.cells) (hs : slots + rm.slots ≤ R.slots) (hd : decode c.code pc = .ok (.invokevirtual index, 3)) (pc' : Nat) (hp : pc + 3 = pc')
    (k : ∀ (v : Option Value) (T' : State) (L : List Loc), Stand p l e R s m args below meth c T' (locs ++ L) (cells + rm.cells) (slots + rm.slots) → Qc v T'.heap L → Wk p e below Fe T' (mkF m pc' Ls (v.toList ++ rest))) : Wk p e below Fe T (mkF m pc Ls S) := by
  subst hp hst has hW
  obtain ⟨cq, kq, qa, qb, qc⟩ := isOf hZ eT E
  obtain ⟨v, _, ⟨T', L', k', n'⟩, -, X', ⟨Lc, q1, q2, q3, q4⟩, st⟩ := X.virtualBackUp hx hown (mvT hZ w1) (mvT hZ w2) (mvT hZ w7) hy (mvT hZ w5) (mvT hZ w6) (backOf hM hZ w4 w3 hf hl) qa qc (g := mkF m pc Ls (argsL.reverse ++ .ref a :: rest)) rfl hsize (Steps.refl _) hlen rfl (by show 2 * 0 + _ ≤ _; rw [Nat.mul_zero, Nat.zero_add]; exact Nat.le_refl _) hd (fun _ _ => ⟨rfl, eT, hc, hs⟩)
  dsimp only [Pt.U, Pt.locs, Pt.cells, Pt.slots] at X' q2 q3 q4 st q1
  subst q2 q3 q4
  exact (k v T' Lc X' q1).come st
abbrev CT (l : Launch) (y : MethodName) (bytes : ByteArray) (maxL : Nat) (ret : Option FieldType) (ws : List Cond) (rm : Room) (as' : Array Value) (Z : State) (h0 : Heap) (Q : Option Value → Heap → List Loc → Prop) : Prop :=
  MetFree l y (head1 (Cond.code y bytes maxL ret :: ws) rm) (fun a U => a = as' ∧ Z.Warmed39 U.vm ∧ U.heap = h0) (fun _ _ _ _ _ => True) (fun _ U o U' => ∃ v L, o = .returned v ∧ Q v U'.heap L ∧ FrameEnd U o U' L rm.cells rm.slots)
theorem body_of {y : MethodName} {bytes : ByteArray} {maxL : Nat} {ret : Option FieldType} {ws : List Cond} {rm : Room} {as' : Array Value} {h0 : Heap} (hpl : plainFor y = true)
    (k : ∀ (p : Program) (e : Env) (s : State) (m : MethodId) (below : List Frame) (meth : Method) (c : Code) (s₁ : State), p.tables.exec = Jvm.exec → (∀ {pc : Nat} {r : Except DecodeError (Instr × Nat)}, decode bytes pc = r → decode c.code pc = r) → meth.sig.returnType = ret → meth.locks = false → c.maxLocals = maxL → s.vm.findClass y.cls = some m.cls → meth.name = y.name → Stand p l e rm s m as' below meth c s₁ [] 0 0 → s₁.heap = h0 → Z.Warmed39 s.vm → Wk p e below (FN s Q kc ks) s₁ (entryFrame m as' maxL)) :
    MetFree l y (head1 (Cond.code y bytes maxL ret :: ws) rm) (fun a U => a = as' ∧ Z.Warmed39 U.vm ∧ U.heap = h0) (fun _ _ _ _ _ => True) (fun _ U o U' => ∃ v L, o = .returned v ∧ Q v U'.heap L ∧ FrameEnd U o U' L kc ks) := by
  refine MetFree.of_bodySF hpl hisR ?_
  intro p e s m args below meth c s₁ Bd hml0 hP hK
  obtain ⟨rfl, hZ, hh⟩ := hP
  obtain ⟨s₂, o, h1, h2⟩ := k p e s m below meth c s₁ Bd.exec (fun q => hb Bd.bytes q) Bd.returns Bd.notSynchronized hml0 (findClass_of_methodNamed Bd.named) (name_of_methodNamed Bd.named Bd.method).1 (Stand.of_body Bd) (by rw [← hh, Bd.state]; rfl) hZ
  exact ⟨s₂, o, h1, h2⟩
theorem eqInt_v {a : Term} {k : Int32} {first s' : State} {o : Option Outcome} {idx : List Nat} (h : (Cond.eq a (.int k)).value args first o s' idx = some true) : a.eval args first o idx s' = some (.int k) := by
  cases ha : a.eval args first o idx s' with
  | none => simp [Cond.value, ha] at h
  | some x => cases x <;> simp [Cond.value, ha, Term.eval] at h ⊢; exact h
theorem exa_plain {a : Addr} {C : String} (E : Exa Z h a C) : ∃ cell : Cell, h[a]? = some cell ∧ cell.vm.isStatics = false := by
  obtain ⟨cell, k, h1, -, -, h4, -⟩ := E; exact ⟨cell, h1, h4⟩
theorem sta_keep {h' : Heap} {ws : List Addr} {C n d : String} {v : Value} (F : Sta Z h C n d v) (K : Keep h h' ws) (q : ∀ x ∈ ws, ∃ cell : Cell, h[x]? = some cell ∧ cell.vm.isStatics = false) : Sta Z h' C n d v := by
  obtain ⟨cf, i, k, f, st, cell, h1, h2, h3, h4, h5, h6, h7⟩ := F
  refine ⟨cf, i, k, f, st, cell, h1, h2, h3, h4, K.2.1 st cell h5 (fun hm => ?_), h6, h7⟩
  obtain ⟨c2, g1, g2⟩ := q st hm
  cases h5.symm.trans g1
  rw [g2] at h6; cases h6
end Walk
/-! plain facts on Int32 and Int64, in Ints -/
theorem laddX {x y : Int64} {A B : Int} (ha : x.toInt = A) (hb : y.toInt = B) (h1 : -9223372036854775808 ≤ A + B) (h2 : A + B < 9223372036854775808) : (x + y).toInt = A + B := by
  have := c_ladd x y; have := rng64 (x + y); omega
theorem lcmpC (x y : Int64) {A B : Int} (ha : x.toInt = A) (hb : y.toInt = B) : ((lcmpW x y).toInt = -1 ∧ A < B) ∨ ((lcmpW x y).toInt = 0 ∧ A = B) ∨ ((lcmpW x y).toInt = 1 ∧ B < A) := by
  have := c_lcmp x y; subst ha hb; omega
theorem maskX {x m : Int32} {A : Int} (k : Nat) (ha : x.toInt = A) (hk : k ≤ 31) (hm : m.toBitVec.toNat = 2 ^ k - 1) : (x &&& m).toInt = A % (2 ^ k : Nat) := by subst ha; exact c_mask x m k hk hm
theorem iremX {x y : Int32} {A d : Int} (ha : x.toInt = A) (hy : y.toInt = d) (h0 : 0 ≤ A) : (x % y).toInt = A % d := by subst ha; exact (c_irem x y d hy).1 h0
end Jvm.Own
namespace Jvm.Pilot.@@N@@
open Jvm Jvm.ClassFile Sem Op Lib Jvm.Free Jvm.Stand Jvm.LawKit Jvm.RoadKit Bundle Jvm.Own Jvm.Pilot.@@N@@.Jvm.D
abbrev cN_0 : String := "com/example/scrinium/scrinium/check/Summary"
abbrev cN_1 : String := "java/lang/Enum"
abbrev cN_2 : String := "com/example/scrinium/scrinium/check/Summary$Grade"
abbrev cN_3 : String := "Lcom/example/scrinium/scrinium/check/Summary$Grade;"
abbrev cN_4 : String := "com/example/scrinium/scrinium/check/SummaryDamagedPinLaw"
theorem tw_0 {Z : State} {a0 : Array Value} (hw : ∀ d ∈ tables_1, d.before a0 Z = true) : (Jvm.Cond.constant "com/example/scrinium/scrinium/check/SummaryDamagedPinLaw" (7 : Nat) (2147483647 : Int32)).before a0 Z = true := hw _ (List.mem_of_getElem? (i := 0) rfl)
theorem tw_1 {Z : State} {a0 : Array Value} (hw : ∀ d ∈ tables_1, d.before a0 Z = true) : (Jvm.Cond.classLink "com/example/scrinium/scrinium/check/SummaryDamagedPinLaw" (8 : Nat) "com/example/scrinium/scrinium/check/Summary").before a0 Z = true := hw _ (List.mem_of_getElem? (i := 1) rfl)
theorem tw_2 {Z : State} {a0 : Array Value} (hw : ∀ d ∈ tables_1, d.before a0 Z = true) : (Jvm.Cond.instantiable "com/example/scrinium/scrinium/check/Summary" (10 : Nat)).before a0 Z = true := hw _ (List.mem_of_getElem? (i := 2) rfl)
theorem tw_3 {Z : State} {a0 : Array Value} (hw : ∀ d ∈ tables_1, d.before a0 Z = true) : (Jvm.Cond.initialized "com/example/scrinium/scrinium/check/Summary").before a0 Z = true := hw _ (List.mem_of_getElem? (i := 3) rfl)
theorem tw_4 {Z : State} {a0 : Array Value} (hw : ∀ d ∈ tables_1, d.before a0 Z = true) : (Jvm.Cond.methodLink "com/example/scrinium/scrinium/check/SummaryDamagedPinLaw" (10 : Nat) ({ cls := "com/example/scrinium/scrinium/check/Summary", name := "<init>", desc := "()V" } : Jvm.MethodName)).before a0 Z = true := hw _ (List.mem_of_getElem? (i := 4) rfl)
theorem tw_5 {Z : State} {a0 : Array Value} (hw : ∀ d ∈ tables_1, d.before a0 Z = true) : (Jvm.Cond.instanceMethod ({ cls := "com/example/scrinium/scrinium/check/Summary", name := "<init>", desc := "()V" } : Jvm.MethodName)).before a0 Z = true := hw _ (List.mem_of_getElem? (i := 5) rfl)
theorem tw_6 {Z : State} {a0 : Array Value} (hw : ∀ d ∈ tables_1, d.before a0 Z = true) : (Jvm.Cond.code ({ cls := "com/example/scrinium/scrinium/check/Summary", name := "<init>", desc := "()V" } : Jvm.MethodName) prog_7_method_1_code (1 : Nat) (Option.none : Option Jvm.ClassFile.FieldType)).before a0 Z = true := hw _ (List.mem_of_getElem? (i := 6) rfl)
theorem tw_7 {Z : State} {a0 : Array Value} (hw : ∀ d ∈ tables_1, d.before a0 Z = true) : (Jvm.Cond.methodLink "com/example/scrinium/scrinium/check/Summary" (1 : Nat) ({ cls := "java/lang/Object", name := "<init>", desc := "()V" } : Jvm.MethodName)).before a0 Z = true := hw _ (List.mem_of_getElem? (i := 7) rfl)
theorem tw_8 {Z : State} {a0 : Array Value} (hw : ∀ d ∈ tables_1, d.before a0 Z = true) : (Jvm.Cond.instanceMethod ({ cls := "java/lang/Object", name := "<init>", desc := "()V" } : Jvm.MethodName)).before a0 Z = true := hw _ (List.mem_of_getElem? (i := 8) rfl)
theorem tw_9 {Z : State} {a0 : Array Value} (hw : ∀ d ∈ tables_1, d.before a0 Z = true) : (Jvm.Cond.code ({ cls := "java/lang/Object", name := "<init>", desc := "()V" } : Jvm.MethodName) object_method_1_code (1 : Nat) (Option.none : Option Jvm.ClassFile.FieldType)).before a0 Z = true := hw _ (List.mem_of_getElem? (i := 9) rfl)
theorem tw_10 {Z : State} {a0 : Array Value} (hw : ∀ d ∈ tables_1, d.before a0 Z = true) : (Jvm.Cond.fieldLink "com/example/scrinium/scrinium/check/SummaryDamagedPinLaw" (31 : Nat) "com/example/scrinium/scrinium/check/Summary$Grade" "BAD" "Lcom/example/scrinium/scrinium/check/Summary$Grade;").before a0 Z = true := hw _ (List.mem_of_getElem? (i := 10) rfl)
theorem tw_11 {Z : State} {a0 : Array Value} (hw : ∀ d ∈ tables_1, d.before a0 Z = true) : (Jvm.Cond.initialized "com/example/scrinium/scrinium/check/Summary$Grade").before a0 Z = true := hw _ (List.mem_of_getElem? (i := 11) rfl)
theorem tw_12 {Z : State} {a0 : Array Value} (hw : ∀ d ∈ tables_1, d.before a0 Z = true) : (Jvm.Cond.laysStatic "com/example/scrinium/scrinium/check/Summary$Grade" "BAD" "Lcom/example/scrinium/scrinium/check/Summary$Grade;").before a0 Z = true := hw _ (List.mem_of_getElem? (i := 12) rfl)
theorem tw_13 {Z : State} {a0 : Array Value} (hw : ∀ d ∈ tables_1, d.before a0 Z = true) : (Jvm.Cond.methodLink "com/example/scrinium/scrinium/check/SummaryDamagedPinLaw" (24 : Nat) ({ cls := "com/example/scrinium/scrinium/check/Summary", name := "countPayload", desc := "(Lcom/example/scrinium/scrinium/check/Summary$Grade;)V" } : Jvm.MethodName)).before a0 Z = true := hw _ (List.mem_of_getElem? (i := 13) rfl)
theorem tw_14 {Z : State} {a0 : Array Value} (hw : ∀ d ∈ tables_1, d.before a0 Z = true) : (Jvm.Cond.declares ({ cls := "com/example/scrinium/scrinium/check/Summary", name := "countPayload", desc := "(Lcom/example/scrinium/scrinium/check/Summary$Grade;)V" } : Jvm.MethodName)).before a0 Z = true := hw _ (List.mem_of_getElem? (i := 14) rfl)
theorem tw_15 {Z : State} {a0 : Array Value} (hw : ∀ d ∈ tables_1, d.before a0 Z = true) : (Jvm.Cond.instanceMethod ({ cls := "com/example/scrinium/scrinium/check/Summary", name := "countPayload", desc := "(Lcom/example/scrinium/scrinium/check/Summary$Grade;)V" } : Jvm.MethodName)).before a0 Z = true := hw _ (List.mem_of_getElem? (i := 15) rfl)
theorem tw_16 {Z : State} {a0 : Array Value} (hw : ∀ d ∈ tables_1, d.before a0 Z = true) : (Jvm.Cond.selects "com/example/scrinium/scrinium/check/Summary" ({ cls := "com/example/scrinium/scrinium/check/Summary", name := "countPayload", desc := "(Lcom/example/scrinium/scrinium/check/Summary$Grade;)V" } : Jvm.MethodName) ({ cls := "com/example/scrinium/scrinium/check/Summary", name := "countPayload", desc := "(Lcom/example/scrinium/scrinium/check/Summary$Grade;)V" } : Jvm.MethodName)).before a0 Z = true := hw _ (List.mem_of_getElem? (i := 16) rfl)
theorem tw_17 {Z : State} {a0 : Array Value} (hw : ∀ d ∈ tables_1, d.before a0 Z = true) : (Jvm.Cond.code ({ cls := "com/example/scrinium/scrinium/check/Summary", name := "countPayload", desc := "(Lcom/example/scrinium/scrinium/check/Summary$Grade;)V" } : Jvm.MethodName) prog_7_method_15_code (2 : Nat) (Option.none : Option Jvm.ClassFile.FieldType)).before a0 Z = true := hw _ (List.mem_of_getElem? (i := 17) rfl)
theorem tw_18 {Z : State} {a0 : Array Value} (hw : ∀ d ∈ tables_1, d.before a0 Z = true) : (Jvm.Cond.methodLink "com/example/scrinium/scrinium/check/Summary" (41 : Nat) ({ cls := "com/example/scrinium/scrinium/check/Summary$Grade", name := "ordinal", desc := "()I" } : Jvm.MethodName)).before a0 Z = true := hw _ (List.mem_of_getElem? (i := 18) rfl)
theorem tw_19 {Z : State} {a0 : Array Value} (hw : ∀ d ∈ tables_1, d.before a0 Z = true) : (Jvm.Cond.sameMethod "com/example/scrinium/scrinium/check/Summary$Grade" "java/lang/Enum" "ordinal" "()I").before a0 Z = true := hw _ (List.mem_of_getElem? (i := 19) rfl)
theorem tw_20 {Z : State} {a0 : Array Value} (hw : ∀ d ∈ tables_1, d.before a0 Z = true) : (Jvm.Cond.declares ({ cls := "java/lang/Enum", name := "ordinal", desc := "()I" } : Jvm.MethodName)).before a0 Z = true := hw _ (List.mem_of_getElem? (i := 20) rfl)
theorem tw_21 {Z : State} {a0 : Array Value} (hw : ∀ d ∈ tables_1, d.before a0 Z = true) : (Jvm.Cond.instanceMethod ({ cls := "java/lang/Enum", name := "ordinal", desc := "()I" } : Jvm.MethodName)).before a0 Z = true := hw _ (List.mem_of_getElem? (i := 21) rfl)
theorem tw_22 {Z : State} {a0 : Array Value} (hw : ∀ d ∈ tables_1, d.before a0 Z = true) : (Jvm.Cond.selects "com/example/scrinium/scrinium/check/Summary$Grade" ({ cls := "com/example/scrinium/scrinium/check/Summary$Grade", name := "ordinal", desc := "()I" } : Jvm.MethodName) ({ cls := "java/lang/Enum", name := "ordinal", desc := "()I" } : Jvm.MethodName)).before a0 Z = true := hw _ (List.mem_of_getElem? (i := 22) rfl)
theorem tw_23 {Z : State} {a0 : Array Value} (hw : ∀ d ∈ tables_1, d.before a0 Z = true) : (Jvm.Cond.initialized "java/lang/Enum").before a0 Z = true := hw _ (List.mem_of_getElem? (i := 23) rfl)
theorem tw_24 {Z : State} {a0 : Array Value} (hw : ∀ d ∈ tables_1, d.before a0 Z = true) : (Jvm.Cond.code ({ cls := "java/lang/Enum", name := "ordinal", desc := "()I" } : Jvm.MethodName) jdk_37_method_2_code (1 : Nat) (Option.some Jvm.ClassFile.FieldType.int)).before a0 Z = true := hw _ (List.mem_of_getElem? (i := 24) rfl)
theorem tw_25 {Z : State} {a0 : Array Value} (hw : ∀ d ∈ tables_1, d.before a0 Z = true) : (Jvm.Cond.fieldLink "java/lang/Enum" (7 : Nat) "java/lang/Enum" "ordinal" "I").before a0 Z = true := hw _ (List.mem_of_getElem? (i := 25) rfl)
theorem tw_27 {Z : State} {a0 : Array Value} (hw : ∀ d ∈ tables_1, d.before a0 Z = true) : (Jvm.Cond.fieldLink "com/example/scrinium/scrinium/check/Summary" (25 : Nat) "com/example/scrinium/scrinium/check/Summary" "payloadBad" "J").before a0 Z = true := hw _ (List.mem_of_getElem? (i := 27) rfl)
theorem tw_28 {Z : State} {a0 : Array Value} (hw : ∀ d ∈ tables_1, d.before a0 Z = true) : (Jvm.Cond.lays "com/example/scrinium/scrinium/check/Summary" "com/example/scrinium/scrinium/check/Summary" "payloadBad" "J").before a0 Z = true := hw _ (List.mem_of_getElem? (i := 28) rfl)
theorem tw_29 {Z : State} {a0 : Array Value} (hw : ∀ d ∈ tables_1, d.before a0 Z = true) : (Jvm.Cond.methodLink "com/example/scrinium/scrinium/check/SummaryDamagedPinLaw" (46 : Nat) ({ cls := "com/example/scrinium/scrinium/check/Summary", name := "damaged", desc := "()Z" } : Jvm.MethodName)).before a0 Z = true := hw _ (List.mem_of_getElem? (i := 29) rfl)
theorem tw_30 {Z : State} {a0 : Array Value} (hw : ∀ d ∈ tables_1, d.before a0 Z = true) : (Jvm.Cond.declares ({ cls := "com/example/scrinium/scrinium/check/Summary", name := "damaged", desc := "()Z" } : Jvm.MethodName)).before a0 Z = true := hw _ (List.mem_of_getElem? (i := 30) rfl)
theorem tw_31 {Z : State} {a0 : Array Value} (hw : ∀ d ∈ tables_1, d.before a0 Z = true) : (Jvm.Cond.instanceMethod ({ cls := "com/example/scrinium/scrinium/check/Summary", name := "damaged", desc := "()Z" } : Jvm.MethodName)).before a0 Z = true := hw _ (List.mem_of_getElem? (i := 31) rfl)
theorem tw_32 {Z : State} {a0 : Array Value} (hw : ∀ d ∈ tables_1, d.before a0 Z = true) : (Jvm.Cond.selects "com/example/scrinium/scrinium/check/Summary" ({ cls := "com/example/scrinium/scrinium/check/Summary", name := "damaged", desc := "()Z" } : Jvm.MethodName) ({ cls := "com/example/scrinium/scrinium/check/Summary", name := "damaged", desc := "()Z" } : Jvm.MethodName)).before a0 Z = true := hw _ (List.mem_of_getElem? (i := 32) rfl)
theorem tw_33 {Z : State} {a0 : Array Value} (hw : ∀ d ∈ tables_1, d.before a0 Z = true) : (Jvm.Cond.code ({ cls := "com/example/scrinium/scrinium/check/Summary", name := "damaged", desc := "()Z" } : Jvm.MethodName) prog_7_method_12_code (1 : Nat) (Option.some Jvm.ClassFile.FieldType.boolean)).before a0 Z = true := hw _ (List.mem_of_getElem? (i := 33) rfl)
theorem tw_34 {Z : State} {a0 : Array Value} (hw : ∀ d ∈ tables_1, d.before a0 Z = true) : (Jvm.Cond.fieldLink "com/example/scrinium/scrinium/check/Summary" (16 : Nat) "com/example/scrinium/scrinium/check/Summary" "blockBad" "J").before a0 Z = true := hw _ (List.mem_of_getElem? (i := 34) rfl)
theorem tw_35 {Z : State} {a0 : Array Value} (hw : ∀ d ∈ tables_1, d.before a0 Z = true) : (Jvm.Cond.lays "com/example/scrinium/scrinium/check/Summary" "com/example/scrinium/scrinium/check/Summary" "blockBad" "J").before a0 Z = true := hw _ (List.mem_of_getElem? (i := 35) rfl)
theorem tw_36 {Z : State} {a0 : Array Value} (hw : ∀ d ∈ tables_1, d.before a0 Z = true) : (Jvm.Cond.fieldLink "com/example/scrinium/scrinium/check/SummaryDamagedPinLaw" (18 : Nat) "com/example/scrinium/scrinium/check/Summary$Grade" "OK" "Lcom/example/scrinium/scrinium/check/Summary$Grade;").before a0 Z = true := hw _ (List.mem_of_getElem? (i := 36) rfl)
theorem tw_37 {Z : State} {a0 : Array Value} (hw : ∀ d ∈ tables_1, d.before a0 Z = true) : (Jvm.Cond.laysStatic "com/example/scrinium/scrinium/check/Summary$Grade" "OK" "Lcom/example/scrinium/scrinium/check/Summary$Grade;").before a0 Z = true := hw _ (List.mem_of_getElem? (i := 37) rfl)
theorem tw_38 {Z : State} {a0 : Array Value} (hw : ∀ d ∈ tables_1, d.before a0 Z = true) : (Jvm.Cond.fieldLink "com/example/scrinium/scrinium/check/Summary" (19 : Nat) "com/example/scrinium/scrinium/check/Summary" "payloadOk" "J").before a0 Z = true := hw _ (List.mem_of_getElem? (i := 38) rfl)
theorem tw_39 {Z : State} {a0 : Array Value} (hw : ∀ d ∈ tables_1, d.before a0 Z = true) : (Jvm.Cond.lays "com/example/scrinium/scrinium/check/Summary" "com/example/scrinium/scrinium/check/Summary" "payloadOk" "J").before a0 Z = true := hw _ (List.mem_of_getElem? (i := 39) rfl)
theorem tw_40 {Z : State} {a0 : Array Value} (hw : ∀ d ∈ tables_1, d.before a0 Z = true) : (Jvm.Cond.methodLink "com/example/scrinium/scrinium/check/SummaryDamagedPinLaw" (37 : Nat) ({ cls := "com/example/scrinium/scrinium/check/Summary", name := "countTrailerBad", desc := "()V" } : Jvm.MethodName)).before a0 Z = true := hw _ (List.mem_of_getElem? (i := 40) rfl)
theorem tw_41 {Z : State} {a0 : Array Value} (hw : ∀ d ∈ tables_1, d.before a0 Z = true) : (Jvm.Cond.declares ({ cls := "com/example/scrinium/scrinium/check/Summary", name := "countTrailerBad", desc := "()V" } : Jvm.MethodName)).before a0 Z = true := hw _ (List.mem_of_getElem? (i := 41) rfl)
theorem tw_42 {Z : State} {a0 : Array Value} (hw : ∀ d ∈ tables_1, d.before a0 Z = true) : (Jvm.Cond.instanceMethod ({ cls := "com/example/scrinium/scrinium/check/Summary", name := "countTrailerBad", desc := "()V" } : Jvm.MethodName)).before a0 Z = true := hw _ (List.mem_of_getElem? (i := 42) rfl)
theorem tw_43 {Z : State} {a0 : Array Value} (hw : ∀ d ∈ tables_1, d.before a0 Z = true) : (Jvm.Cond.selects "com/example/scrinium/scrinium/check/Summary" ({ cls := "com/example/scrinium/scrinium/check/Summary", name := "countTrailerBad", desc := "()V" } : Jvm.MethodName) ({ cls := "com/example/scrinium/scrinium/check/Summary", name := "countTrailerBad", desc := "()V" } : Jvm.MethodName)).before a0 Z = true := hw _ (List.mem_of_getElem? (i := 43) rfl)
theorem tw_44 {Z : State} {a0 : Array Value} (hw : ∀ d ∈ tables_1, d.before a0 Z = true) : (Jvm.Cond.code ({ cls := "com/example/scrinium/scrinium/check/Summary", name := "countTrailerBad", desc := "()V" } : Jvm.MethodName) prog_7_method_17_code (1 : Nat) (Option.none : Option Jvm.ClassFile.FieldType)).before a0 Z = true := hw _ (List.mem_of_getElem? (i := 44) rfl)
theorem tw_45 {Z : State} {a0 : Array Value} (hw : ∀ d ∈ tables_1, d.before a0 Z = true) : (Jvm.Cond.fieldLink "com/example/scrinium/scrinium/check/Summary" (31 : Nat) "com/example/scrinium/scrinium/check/Summary" "trailerBad" "J").before a0 Z = true := hw _ (List.mem_of_getElem? (i := 45) rfl)
theorem tw_46 {Z : State} {a0 : Array Value} (hw : ∀ d ∈ tables_1, d.before a0 Z = true) : (Jvm.Cond.lays "com/example/scrinium/scrinium/check/Summary" "com/example/scrinium/scrinium/check/Summary" "trailerBad" "J").before a0 Z = true := hw _ (List.mem_of_getElem? (i := 46) rfl)
theorem tw_47 {Z : State} {a0 : Array Value} (hw : ∀ d ∈ tables_1, d.before a0 Z = true) : (Jvm.Cond.methodLink "com/example/scrinium/scrinium/check/SummaryDamagedPinLaw" (40 : Nat) ({ cls := "com/example/scrinium/scrinium/check/Summary", name := "countSegmentBad", desc := "()V" } : Jvm.MethodName)).before a0 Z = true := hw _ (List.mem_of_getElem? (i := 47) rfl)
theorem tw_48 {Z : State} {a0 : Array Value} (hw : ∀ d ∈ tables_1, d.before a0 Z = true) : (Jvm.Cond.declares ({ cls := "com/example/scrinium/scrinium/check/Summary", name := "countSegmentBad", desc := "()V" } : Jvm.MethodName)).before a0 Z = true := hw _ (List.mem_of_getElem? (i := 48) rfl)
theorem tw_49 {Z : State} {a0 : Array Value} (hw : ∀ d ∈ tables_1, d.before a0 Z = true) : (Jvm.Cond.instanceMethod ({ cls := "com/example/scrinium/scrinium/check/Summary", name := "countSegmentBad", desc := "()V" } : Jvm.MethodName)).before a0 Z = true := hw _ (List.mem_of_getElem? (i := 49) rfl)
theorem tw_50 {Z : State} {a0 : Array Value} (hw : ∀ d ∈ tables_1, d.before a0 Z = true) : (Jvm.Cond.selects "com/example/scrinium/scrinium/check/Summary" ({ cls := "com/example/scrinium/scrinium/check/Summary", name := "countSegmentBad", desc := "()V" } : Jvm.MethodName) ({ cls := "com/example/scrinium/scrinium/check/Summary", name := "countSegmentBad", desc := "()V" } : Jvm.MethodName)).before a0 Z = true := hw _ (List.mem_of_getElem? (i := 50) rfl)
theorem tw_51 {Z : State} {a0 : Array Value} (hw : ∀ d ∈ tables_1, d.before a0 Z = true) : (Jvm.Cond.code ({ cls := "com/example/scrinium/scrinium/check/Summary", name := "countSegmentBad", desc := "()V" } : Jvm.MethodName) prog_7_method_18_code (1 : Nat) (Option.none : Option Jvm.ClassFile.FieldType)).before a0 Z = true := hw _ (List.mem_of_getElem? (i := 51) rfl)
theorem tw_52 {Z : State} {a0 : Array Value} (hw : ∀ d ∈ tables_1, d.before a0 Z = true) : (Jvm.Cond.fieldLink "com/example/scrinium/scrinium/check/Summary" (34 : Nat) "com/example/scrinium/scrinium/check/Summary" "segmentBad" "J").before a0 Z = true := hw _ (List.mem_of_getElem? (i := 52) rfl)
theorem tw_53 {Z : State} {a0 : Array Value} (hw : ∀ d ∈ tables_1, d.before a0 Z = true) : (Jvm.Cond.lays "com/example/scrinium/scrinium/check/Summary" "com/example/scrinium/scrinium/check/Summary" "segmentBad" "J").before a0 Z = true := hw _ (List.mem_of_getElem? (i := 53) rfl)
theorem tw_54 {Z : State} {a0 : Array Value} (hw : ∀ d ∈ tables_1, d.before a0 Z = true) : (Jvm.Cond.methodLink "com/example/scrinium/scrinium/check/SummaryDamagedPinLaw" (11 : Nat) ({ cls := "com/example/scrinium/scrinium/check/Summary", name := "countRecord", desc := "()V" } : Jvm.MethodName)).before a0 Z = true := hw _ (List.mem_of_getElem? (i := 54) rfl)
theorem tw_55 {Z : State} {a0 : Array Value} (hw : ∀ d ∈ tables_1, d.before a0 Z = true) : (Jvm.Cond.declares ({ cls := "com/example/scrinium/scrinium/check/Summary", name := "countRecord", desc := "()V" } : Jvm.MethodName)).before a0 Z = true := hw _ (List.mem_of_getElem? (i := 55) rfl)
theorem tw_56 {Z : State} {a0 : Array Value} (hw : ∀ d ∈ tables_1, d.before a0 Z = true) : (Jvm.Cond.instanceMethod ({ cls := "com/example/scrinium/scrinium/check/Summary", name := "countRecord", desc := "()V" } : Jvm.MethodName)).before a0 Z = true := hw _ (List.mem_of_getElem? (i := 56) rfl)
theorem tw_57 {Z : State} {a0 : Array Value} (hw : ∀ d ∈ tables_1, d.before a0 Z = true) : (Jvm.Cond.selects "com/example/scrinium/scrinium/check/Summary" ({ cls := "com/example/scrinium/scrinium/check/Summary", name := "countRecord", desc := "()V" } : Jvm.MethodName) ({ cls := "com/example/scrinium/scrinium/check/Summary", name := "countRecord", desc := "()V" } : Jvm.MethodName)).before a0 Z = true := hw _ (List.mem_of_getElem? (i := 57) rfl)
theorem tw_58 {Z : State} {a0 : Array Value} (hw : ∀ d ∈ tables_1, d.before a0 Z = true) : (Jvm.Cond.code ({ cls := "com/example/scrinium/scrinium/check/Summary", name := "countRecord", desc := "()V" } : Jvm.MethodName) prog_7_method_13_code (1 : Nat) (Option.none : Option Jvm.ClassFile.FieldType)).before a0 Z = true := hw _ (List.mem_of_getElem? (i := 58) rfl)
theorem tw_59 {Z : State} {a0 : Array Value} (hw : ∀ d ∈ tables_1, d.before a0 Z = true) : (Jvm.Cond.fieldLink "com/example/scrinium/scrinium/check/Summary" (7 : Nat) "com/example/scrinium/scrinium/check/Summary" "records" "J").before a0 Z = true := hw _ (List.mem_of_getElem? (i := 59) rfl)
theorem tw_60 {Z : State} {a0 : Array Value} (hw : ∀ d ∈ tables_1, d.before a0 Z = true) : (Jvm.Cond.lays "com/example/scrinium/scrinium/check/Summary" "com/example/scrinium/scrinium/check/Summary" "records" "J").before a0 Z = true := hw _ (List.mem_of_getElem? (i := 60) rfl)
theorem tw_61 {Z : State} {a0 : Array Value} (hw : ∀ d ∈ tables_1, d.before a0 Z = true) : (Jvm.Cond.methodLink "com/example/scrinium/scrinium/check/SummaryDamagedPinLaw" (34 : Nat) ({ cls := "com/example/scrinium/scrinium/check/Summary", name := "countPayloadUnchecked", desc := "()V" } : Jvm.MethodName)).before a0 Z = true := hw _ (List.mem_of_getElem? (i := 61) rfl)
theorem tw_62 {Z : State} {a0 : Array Value} (hw : ∀ d ∈ tables_1, d.before a0 Z = true) : (Jvm.Cond.declares ({ cls := "com/example/scrinium/scrinium/check/Summary", name := "countPayloadUnchecked", desc := "()V" } : Jvm.MethodName)).before a0 Z = true := hw _ (List.mem_of_getElem? (i := 62) rfl)
theorem tw_63 {Z : State} {a0 : Array Value} (hw : ∀ d ∈ tables_1, d.before a0 Z = true) : (Jvm.Cond.instanceMethod ({ cls := "com/example/scrinium/scrinium/check/Summary", name := "countPayloadUnchecked", desc := "()V" } : Jvm.MethodName)).before a0 Z = true := hw _ (List.mem_of_getElem? (i := 63) rfl)
theorem tw_64 {Z : State} {a0 : Array Value} (hw : ∀ d ∈ tables_1, d.before a0 Z = true) : (Jvm.Cond.selects "com/example/scrinium/scrinium/check/Summary" ({ cls := "com/example/scrinium/scrinium/check/Summary", name := "countPayloadUnchecked", desc := "()V" } : Jvm.MethodName) ({ cls := "com/example/scrinium/scrinium/check/Summary", name := "countPayloadUnchecked", desc := "()V" } : Jvm.MethodName)).before a0 Z = true := hw _ (List.mem_of_getElem? (i := 64) rfl)
theorem tw_65 {Z : State} {a0 : Array Value} (hw : ∀ d ∈ tables_1, d.before a0 Z = true) : (Jvm.Cond.code ({ cls := "com/example/scrinium/scrinium/check/Summary", name := "countPayloadUnchecked", desc := "()V" } : Jvm.MethodName) prog_7_method_16_code (1 : Nat) (Option.none : Option Jvm.ClassFile.FieldType)).before a0 Z = true := hw _ (List.mem_of_getElem? (i := 65) rfl)
theorem tw_66 {Z : State} {a0 : Array Value} (hw : ∀ d ∈ tables_1, d.before a0 Z = true) : (Jvm.Cond.fieldLink "com/example/scrinium/scrinium/check/Summary" (28 : Nat) "com/example/scrinium/scrinium/check/Summary" "payloadUnchecked" "J").before a0 Z = true := hw _ (List.mem_of_getElem? (i := 66) rfl)
theorem tw_67 {Z : State} {a0 : Array Value} (hw : ∀ d ∈ tables_1, d.before a0 Z = true) : (Jvm.Cond.lays "com/example/scrinium/scrinium/check/Summary" "com/example/scrinium/scrinium/check/Summary" "payloadUnchecked" "J").before a0 Z = true := hw _ (List.mem_of_getElem? (i := 67) rfl)
theorem tw_68 {Z : State} {a0 : Array Value} (hw : ∀ d ∈ tables_1, d.before a0 Z = true) : (Jvm.Cond.methodLink "com/example/scrinium/scrinium/check/SummaryDamagedPinLaw" (14 : Nat) ({ cls := "com/example/scrinium/scrinium/check/Summary", name := "countBlock", desc := "(Z)V" } : Jvm.MethodName)).before a0 Z = true := hw _ (List.mem_of_getElem? (i := 68) rfl)
theorem tw_69 {Z : State} {a0 : Array Value} (hw : ∀ d ∈ tables_1, d.before a0 Z = true) : (Jvm.Cond.declares ({ cls := "com/example/scrinium/scrinium/check/Summary", name := "countBlock", desc := "(Z)V" } : Jvm.MethodName)).before a0 Z = true := hw _ (List.mem_of_getElem? (i := 69) rfl)
theorem tw_70 {Z : State} {a0 : Array Value} (hw : ∀ d ∈ tables_1, d.before a0 Z = true) : (Jvm.Cond.instanceMethod ({ cls := "com/example/scrinium/scrinium/check/Summary", name := "countBlock", desc := "(Z)V" } : Jvm.MethodName)).before a0 Z = true := hw _ (List.mem_of_getElem? (i := 70) rfl)
theorem tw_71 {Z : State} {a0 : Array Value} (hw : ∀ d ∈ tables_1, d.before a0 Z = true) : (Jvm.Cond.selects "com/example/scrinium/scrinium/check/Summary" ({ cls := "com/example/scrinium/scrinium/check/Summary", name := "countBlock", desc := "(Z)V" } : Jvm.MethodName) ({ cls := "com/example/scrinium/scrinium/check/Summary", name := "countBlock", desc := "(Z)V" } : Jvm.MethodName)).before a0 Z = true := hw _ (List.mem_of_getElem? (i := 71) rfl)
theorem tw_72 {Z : State} {a0 : Array Value} (hw : ∀ d ∈ tables_1, d.before a0 Z = true) : (Jvm.Cond.code ({ cls := "com/example/scrinium/scrinium/check/Summary", name := "countBlock", desc := "(Z)V" } : Jvm.MethodName) prog_7_method_14_code (2 : Nat) (Option.none : Option Jvm.ClassFile.FieldType)).before a0 Z = true := hw _ (List.mem_of_getElem? (i := 72) rfl)
theorem tw_73 {Z : State} {a0 : Array Value} (hw : ∀ d ∈ tables_1, d.before a0 Z = true) : (Jvm.Cond.fieldLink "com/example/scrinium/scrinium/check/Summary" (13 : Nat) "com/example/scrinium/scrinium/check/Summary" "blockOk" "J").before a0 Z = true := hw _ (List.mem_of_getElem? (i := 73) rfl)
theorem tw_74 {Z : State} {a0 : Array Value} (hw : ∀ d ∈ tables_1, d.before a0 Z = true) : (Jvm.Cond.lays "com/example/scrinium/scrinium/check/Summary" "com/example/scrinium/scrinium/check/Summary" "blockOk" "J").before a0 Z = true := hw _ (List.mem_of_getElem? (i := 74) rfl)
theorem tw_75 {Z : State} {a0 : Array Value} (hw : ∀ d ∈ tables_1, d.before a0 Z = true) : (Jvm.Cond.fieldLink "com/example/scrinium/scrinium/check/SummaryDamagedPinLaw" (28 : Nat) "com/example/scrinium/scrinium/check/Summary$Grade" "CODED" "Lcom/example/scrinium/scrinium/check/Summary$Grade;").before a0 Z = true := hw _ (List.mem_of_getElem? (i := 75) rfl)
theorem tw_76 {Z : State} {a0 : Array Value} (hw : ∀ d ∈ tables_1, d.before a0 Z = true) : (Jvm.Cond.laysStatic "com/example/scrinium/scrinium/check/Summary$Grade" "CODED" "Lcom/example/scrinium/scrinium/check/Summary$Grade;").before a0 Z = true := hw _ (List.mem_of_getElem? (i := 76) rfl)
theorem tw_77 {Z : State} {a0 : Array Value} (hw : ∀ d ∈ tables_1, d.before a0 Z = true) : (Jvm.Cond.fieldLink "com/example/scrinium/scrinium/check/Summary" (22 : Nat) "com/example/scrinium/scrinium/check/Summary" "payloadCoded" "J").before a0 Z = true := hw _ (List.mem_of_getElem? (i := 77) rfl)
theorem tw_78 {Z : State} {a0 : Array Value} (hw : ∀ d ∈ tables_1, d.before a0 Z = true) : (Jvm.Cond.lays "com/example/scrinium/scrinium/check/Summary" "com/example/scrinium/scrinium/check/Summary" "payloadCoded" "J").before a0 Z = true := hw _ (List.mem_of_getElem? (i := 78) rfl)
theorem tw_79 {Z : State} {a0 : Array Value} (hw : ∀ d ∈ tables_1, d.before a0 Z = true) : (Jvm.Cond.methodLink "com/example/scrinium/scrinium/check/SummaryDamagedPinLaw" (43 : Nat) ({ cls := "com/example/scrinium/scrinium/check/Summary", name := "countCut", desc := "()V" } : Jvm.MethodName)).before a0 Z = true := hw _ (List.mem_of_getElem? (i := 79) rfl)
theorem tw_80 {Z : State} {a0 : Array Value} (hw : ∀ d ∈ tables_1, d.before a0 Z = true) : (Jvm.Cond.declares ({ cls := "com/example/scrinium/scrinium/check/Summary", name := "countCut", desc := "()V" } : Jvm.MethodName)).before a0 Z = true := hw _ (List.mem_of_getElem? (i := 80) rfl)
theorem tw_81 {Z : State} {a0 : Array Value} (hw : ∀ d ∈ tables_1, d.before a0 Z = true) : (Jvm.Cond.instanceMethod ({ cls := "com/example/scrinium/scrinium/check/Summary", name := "countCut", desc := "()V" } : Jvm.MethodName)).before a0 Z = true := hw _ (List.mem_of_getElem? (i := 81) rfl)
theorem tw_82 {Z : State} {a0 : Array Value} (hw : ∀ d ∈ tables_1, d.before a0 Z = true) : (Jvm.Cond.selects "com/example/scrinium/scrinium/check/Summary" ({ cls := "com/example/scrinium/scrinium/check/Summary", name := "countCut", desc := "()V" } : Jvm.MethodName) ({ cls := "com/example/scrinium/scrinium/check/Summary", name := "countCut", desc := "()V" } : Jvm.MethodName)).before a0 Z = true := hw _ (List.mem_of_getElem? (i := 82) rfl)
theorem tw_83 {Z : State} {a0 : Array Value} (hw : ∀ d ∈ tables_1, d.before a0 Z = true) : (Jvm.Cond.code ({ cls := "com/example/scrinium/scrinium/check/Summary", name := "countCut", desc := "()V" } : Jvm.MethodName) prog_7_method_19_code (1 : Nat) (Option.none : Option Jvm.ClassFile.FieldType)).before a0 Z = true := hw _ (List.mem_of_getElem? (i := 83) rfl)
theorem tw_84 {Z : State} {a0 : Array Value} (hw : ∀ d ∈ tables_1, d.before a0 Z = true) : (Jvm.Cond.fieldLink "com/example/scrinium/scrinium/check/Summary" (37 : Nat) "com/example/scrinium/scrinium/check/Summary" "cut" "Z").before a0 Z = true := hw _ (List.mem_of_getElem? (i := 84) rfl)
theorem tw_85 {Z : State} {a0 : Array Value} (hw : ∀ d ∈ tables_1, d.before a0 Z = true) : (Jvm.Cond.lays "com/example/scrinium/scrinium/check/Summary" "com/example/scrinium/scrinium/check/Summary" "cut" "Z").before a0 Z = true := hw _ (List.mem_of_getElem? (i := 85) rfl)
theorem d1_0 : decode prog_7_method_1_code 0 = .ok (.aload_n 0, 1) := by decide +kernel
theorem d1_1 : decode prog_7_method_1_code 1 = .ok (.invokespecial 1, 3) := by decide +kernel
theorem d1_4 : decode prog_7_method_1_code 4 = .ok (.return_, 1) := by decide +kernel
theorem pn_0 : plainName "com/example/scrinium/scrinium/check/Summary" = true := by first | (simp [plainName, overriddenIn]; done) | decide +kernel
abbrev mN_1 : MethodName := ⟨"com/example/scrinium/scrinium/check/Summary", "<init>", "()V"⟩
theorem d4_0 : decode jdk_37_method_2_code 0 = .ok (.aload_n 0, 1) := by decide +kernel
theorem d4_1 : decode jdk_37_method_2_code 1 = .ok (.getfield 7, 3) := by decide +kernel
theorem d4_4 : decode jdk_37_method_2_code 4 = .ok (.ireturn, 1) := by decide +kernel
theorem pn_1 : plainName "java/lang/Enum" = true := by first | (simp [plainName, overriddenIn]; done) | decide +kernel
abbrev mN_4 : MethodName := ⟨"java/lang/Enum", "ordinal", "()I"⟩
theorem d8_0 : decode prog_7_method_13_code 0 = .ok (.aload_n 0, 1) := by decide +kernel
theorem d8_1 : decode prog_7_method_13_code 1 = .ok (.dup, 1) := by decide +kernel
theorem d8_2 : decode prog_7_method_13_code 2 = .ok (.getfield 7, 3) := by decide +kernel
theorem d8_5 : decode prog_7_method_13_code 5 = .ok (.lconst 1, 1) := by decide +kernel
theorem d8_6 : decode prog_7_method_13_code 6 = .ok (.ladd, 1) := by decide +kernel
theorem d8_7 : decode prog_7_method_13_code 7 = .ok (.putfield 7, 3) := by decide +kernel
theorem d8_10 : decode prog_7_method_13_code 10 = .ok (.return_, 1) := by decide +kernel
abbrev mN_8 : MethodName := ⟨"com/example/scrinium/scrinium/check/Summary", "countRecord", "()V"⟩
theorem d9_0 : decode prog_7_method_16_code 0 = .ok (.aload_n 0, 1) := by decide +kernel
theorem d9_1 : decode prog_7_method_16_code 1 = .ok (.dup, 1) := by decide +kernel
theorem d9_2 : decode prog_7_method_16_code 2 = .ok (.getfield 28, 3) := by decide +kernel
theorem d9_5 : decode prog_7_method_16_code 5 = .ok (.lconst 1, 1) := by decide +kernel
theorem d9_6 : decode prog_7_method_16_code 6 = .ok (.ladd, 1) := by decide +kernel
theorem d9_7 : decode prog_7_method_16_code 7 = .ok (.putfield 28, 3) := by decide +kernel
theorem d9_10 : decode prog_7_method_16_code 10 = .ok (.return_, 1) := by decide +kernel
abbrev mN_9 : MethodName := ⟨"com/example/scrinium/scrinium/check/Summary", "countPayloadUnchecked", "()V"⟩
theorem d6_0 : decode prog_7_method_17_code 0 = .ok (.aload_n 0, 1) := by decide +kernel
theorem d6_1 : decode prog_7_method_17_code 1 = .ok (.dup, 1) := by decide +kernel
theorem d6_2 : decode prog_7_method_17_code 2 = .ok (.getfield 31, 3) := by decide +kernel
theorem d6_5 : decode prog_7_method_17_code 5 = .ok (.lconst 1, 1) := by decide +kernel
theorem d6_6 : decode prog_7_method_17_code 6 = .ok (.ladd, 1) := by decide +kernel
theorem d6_7 : decode prog_7_method_17_code 7 = .ok (.putfield 31, 3) := by decide +kernel
theorem d6_10 : decode prog_7_method_17_code 10 = .ok (.return_, 1) := by decide +kernel
abbrev mN_6 : MethodName := ⟨"com/example/scrinium/scrinium/check/Summary", "countTrailerBad", "()V"⟩
theorem d7_0 : decode prog_7_method_18_code 0 = .ok (.aload_n 0, 1) := by decide +kernel
theorem d7_1 : decode prog_7_method_18_code 1 = .ok (.dup, 1) := by decide +kernel
theorem d7_2 : decode prog_7_method_18_code 2 = .ok (.getfield 34, 3) := by decide +kernel
theorem d7_5 : decode prog_7_method_18_code 5 = .ok (.lconst 1, 1) := by decide +kernel
theorem d7_6 : decode prog_7_method_18_code 6 = .ok (.ladd, 1) := by decide +kernel
theorem d7_7 : decode prog_7_method_18_code 7 = .ok (.putfield 34, 3) := by decide +kernel
theorem d7_10 : decode prog_7_method_18_code 10 = .ok (.return_, 1) := by decide +kernel
abbrev mN_7 : MethodName := ⟨"com/example/scrinium/scrinium/check/Summary", "countSegmentBad", "()V"⟩
theorem d11_0 : decode prog_7_method_19_code 0 = .ok (.aload_n 0, 1) := by decide +kernel
theorem d11_1 : decode prog_7_method_19_code 1 = .ok (.iconst 1, 1) := by decide +kernel
theorem d11_2 : decode prog_7_method_19_code 2 = .ok (.putfield 37, 3) := by decide +kernel
theorem d11_5 : decode prog_7_method_19_code 5 = .ok (.return_, 1) := by decide +kernel
abbrev mN_11 : MethodName := ⟨"com/example/scrinium/scrinium/check/Summary", "countCut", "()V"⟩
theorem d10_0 : decode prog_7_method_14_code 0 = .ok (.iload_n 1, 1) := by decide +kernel
theorem d10_1 : decode prog_7_method_14_code 1 = .ok (.ifCond .eq 16, 3) := by decide +kernel
theorem d10_4 : decode prog_7_method_14_code 4 = .ok (.aload_n 0, 1) := by decide +kernel
theorem d10_5 : decode prog_7_method_14_code 5 = .ok (.dup, 1) := by decide +kernel
theorem d10_6 : decode prog_7_method_14_code 6 = .ok (.getfield 13, 3) := by decide +kernel
theorem d10_9 : decode prog_7_method_14_code 9 = .ok (.lconst 1, 1) := by decide +kernel
theorem d10_10 : decode prog_7_method_14_code 10 = .ok (.ladd, 1) := by decide +kernel
theorem d10_11 : decode prog_7_method_14_code 11 = .ok (.putfield 13, 3) := by decide +kernel
theorem d10_14 : decode prog_7_method_14_code 14 = .ok (.goto 13, 3) := by decide +kernel
theorem d10_17 : decode prog_7_method_14_code 17 = .ok (.aload_n 0, 1) := by decide +kernel
theorem d10_18 : decode prog_7_method_14_code 18 = .ok (.dup, 1) := by decide +kernel
theorem d10_19 : decode prog_7_method_14_code 19 = .ok (.getfield 16, 3) := by decide +kernel
theorem d10_22 : decode prog_7_method_14_code 22 = .ok (.lconst 1, 1) := by decide +kernel
theorem d10_23 : decode prog_7_method_14_code 23 = .ok (.ladd, 1) := by decide +kernel
theorem d10_24 : decode prog_7_method_14_code 24 = .ok (.putfield 16, 3) := by decide +kernel
theorem d10_27 : decode prog_7_method_14_code 27 = .ok (.return_, 1) := by decide +kernel
abbrev mN_10 : MethodName := ⟨"com/example/scrinium/scrinium/check/Summary", "countBlock", "(Z)V"⟩
theorem pd_0 : parseMethodDescriptor "()I" = some ⟨[], some .int⟩ := by decide +kernel
theorem d3_0 : decode prog_7_method_15_code 0 = .ok (.aload_n 1, 1) := by decide +kernel
theorem d3_1 : decode prog_7_method_15_code 1 = .ok (.invokevirtual 41, 3) := by decide +kernel
theorem d3_4 : decode prog_7_method_15_code 4 = .ok (.lookupswitch 54 #[(0, 28), (1, 41)], 28) := by decide +kernel
theorem d3_32 : decode prog_7_method_15_code 32 = .ok (.aload_n 0, 1) := by decide +kernel
theorem d3_33 : decode prog_7_method_15_code 33 = .ok (.dup, 1) := by decide +kernel
theorem d3_34 : decode prog_7_method_15_code 34 = .ok (.getfield 19, 3) := by decide +kernel
theorem d3_37 : decode prog_7_method_15_code 37 = .ok (.lconst 1, 1) := by decide +kernel
theorem d3_38 : decode prog_7_method_15_code 38 = .ok (.ladd, 1) := by decide +kernel
theorem d3_39 : decode prog_7_method_15_code 39 = .ok (.putfield 19, 3) := by decide +kernel
theorem d3_42 : decode prog_7_method_15_code 42 = .ok (.goto 26, 3) := by decide +kernel
theorem d3_68 : decode prog_7_method_15_code 68 = .ok (.return_, 1) := by decide +kernel
abbrev mN_3 : MethodName := ⟨"com/example/scrinium/scrinium/check/Summary", "countPayload", "(Lcom/example/scrinium/scrinium/check/Summary$Grade;)V"⟩
theorem d3_45 : decode prog_7_method_15_code 45 = .ok (.aload_n 0, 1) := by decide +kernel
theorem d3_46 : decode prog_7_method_15_code 46 = .ok (.dup, 1) := by decide +kernel
theorem d3_47 : decode prog_7_method_15_code 47 = .ok (.getfield 22, 3) := by decide +kernel
theorem d3_50 : decode prog_7_method_15_code 50 = .ok (.lconst 1, 1) := by decide +kernel
theorem d3_51 : decode prog_7_method_15_code 51 = .ok (.ladd, 1) := by decide +kernel
theorem d3_52 : decode prog_7_method_15_code 52 = .ok (.putfield 22, 3) := by decide +kernel
theorem d3_55 : decode prog_7_method_15_code 55 = .ok (.goto 13, 3) := by decide +kernel
theorem d3_58 : decode prog_7_method_15_code 58 = .ok (.aload_n 0, 1) := by decide +kernel
theorem d3_59 : decode prog_7_method_15_code 59 = .ok (.dup, 1) := by decide +kernel
theorem d3_60 : decode prog_7_method_15_code 60 = .ok (.getfield 25, 3) := by decide +kernel
theorem d3_63 : decode prog_7_method_15_code 63 = .ok (.lconst 1, 1) := by decide +kernel
theorem d3_64 : decode prog_7_method_15_code 64 = .ok (.ladd, 1) := by decide +kernel
theorem d3_65 : decode prog_7_method_15_code 65 = .ok (.putfield 25, 3) := by decide +kernel
theorem d5_0 : decode prog_7_method_12_code 0 = .ok (.aload_n 0, 1) := by decide +kernel
theorem d5_1 : decode prog_7_method_12_code 1 = .ok (.getfield 16, 3) := by decide +kernel
theorem d5_4 : decode prog_7_method_12_code 4 = .ok (.lconst 0, 1) := by decide +kernel
theorem d5_5 : decode prog_7_method_12_code 5 = .ok (.lcmp, 1) := by decide +kernel
theorem d5_6 : decode prog_7_method_12_code 6 = .ok (.ifCond .gt 30, 3) := by decide +kernel
theorem d5_9 : decode prog_7_method_12_code 9 = .ok (.aload_n 0, 1) := by decide +kernel
theorem d5_10 : decode prog_7_method_12_code 10 = .ok (.getfield 25, 3) := by decide +kernel
theorem d5_13 : decode prog_7_method_12_code 13 = .ok (.lconst 0, 1) := by decide +kernel
theorem d5_14 : decode prog_7_method_12_code 14 = .ok (.lcmp, 1) := by decide +kernel
theorem d5_15 : decode prog_7_method_12_code 15 = .ok (.ifCond .gt 21, 3) := by decide +kernel
theorem d5_18 : decode prog_7_method_12_code 18 = .ok (.aload_n 0, 1) := by decide +kernel
theorem d5_19 : decode prog_7_method_12_code 19 = .ok (.getfield 31, 3) := by decide +kernel
theorem d5_22 : decode prog_7_method_12_code 22 = .ok (.lconst 0, 1) := by decide +kernel
theorem d5_23 : decode prog_7_method_12_code 23 = .ok (.lcmp, 1) := by decide +kernel
theorem d5_24 : decode prog_7_method_12_code 24 = .ok (.ifCond .gt 12, 3) := by decide +kernel
theorem d5_27 : decode prog_7_method_12_code 27 = .ok (.aload_n 0, 1) := by decide +kernel
theorem d5_28 : decode prog_7_method_12_code 28 = .ok (.getfield 34, 3) := by decide +kernel
theorem d5_31 : decode prog_7_method_12_code 31 = .ok (.lconst 0, 1) := by decide +kernel
theorem d5_32 : decode prog_7_method_12_code 32 = .ok (.lcmp, 1) := by decide +kernel
theorem d5_33 : decode prog_7_method_12_code 33 = .ok (.ifCond .le 7, 3) := by decide +kernel
theorem d5_36 : decode prog_7_method_12_code 36 = .ok (.iconst 1, 1) := by decide +kernel
theorem d5_37 : decode prog_7_method_12_code 37 = .ok (.goto 4, 3) := by decide +kernel
theorem d5_40 : decode prog_7_method_12_code 40 = .ok (.iconst 0, 1) := by decide +kernel
theorem d5_41 : decode prog_7_method_12_code 41 = .ok (.ireturn, 1) := by decide +kernel
abbrev mN_5 : MethodName := ⟨"com/example/scrinium/scrinium/check/Summary", "damaged", "()Z"⟩
theorem pd_1 : parseMethodDescriptor "()V" = some ⟨[], none⟩ := by decide +kernel
theorem pd_2 : parseMethodDescriptor "()Z" = some ⟨[], some .boolean⟩ := by decide +kernel
theorem pd_3 : parseMethodDescriptor "(Lcom/example/scrinium/scrinium/check/Summary$Grade;)V" = some ⟨[(.object "com/example/scrinium/scrinium/check/Summary$Grade")], none⟩ := by decide +kernel
theorem pd_4 : parseMethodDescriptor "(Z)V" = some ⟨[.boolean], none⟩ := by decide +kernel
theorem pn_2 : plainName "com/example/scrinium/scrinium/check/SummaryDamagedPinLaw" = true := by first | (simp [plainName, overriddenIn]; done) | decide +kernel
theorem ef_1 (m : MethodId) (x0 : Addr) : entryFrame m #[(.ref x0)] 1 = mkF m 0 #[.val (.ref x0)] [] := by first | (simp [entryFrame, mkF, argsToLocals, Value.category]; done) | rfl
def Q1 (Z : State) (a : Addr) (h0 : Heap) (n0 : Nat) (v : Option Value) (h : Heap) (L : List Loc) : Prop := v = none ∧ Fr n0 L ∧ h = h0
set_option maxRecDepth 65536 in
set_option maxHeartbeats 40000000 in
theorem rm1 (l : Launch) (Z : State) (a0 : Array Value) (hw : ∀ d ∈ tables_1, d.before a0 Z = true) (ws : List Jvm.Cond) (a : Addr) (h0 : Heap) (n0 : Nat) (Z0 : n0 ≤ h0.size) :
    CT l mN_1 prog_7_method_1_code 1 none ws ({ frames := 1, cells := 0, slots := 0, locals := 12 } : Room) #[(.ref a)] Z h0 (Q1 Z a h0 n0) := by
  refine body_of (plainFor_of_name pn_0) ?_
  intro p e s m below meth c s₁ hx dB hret hlk hml hown0 hnm X0 e0 hZ
  have hown : s.vm.findClass cN_0 = some m.cls := hown0
  have N0 := Fr.nil n0
  rw [ef_1]
  show Wk p e below (FN s (Q1 Z a h0 n0) 0 0) s₁ (mkF m 0 #[.val (.ref a)] [])
  refine w_aloadN X0 hx (.ref a) (dB d1_0) 1 rfl rfl rfl ?_
  refine w_objinit X0 hx hZ hown e0 (tw_7 hw) (tw_8 hw) (tw_9 hw) (by rw [hml]; rfl) (by decide) 0 rfl (by decide) (dB d1_1) 4 rfl (fun T1 X1 e1 => ?_)
  refine w_ret0 X1 hx hlk hret (dB d1_4) (by decide) (by decide) ?_
  rw [e1]
  exact ⟨rfl, N0, rfl⟩
theorem ef_4 (m : MethodId) (x0 : Addr) : entryFrame m #[(.ref x0)] 1 = mkF m 0 #[.val (.ref x0)] [] := by first | (simp [entryFrame, mkF, argsToLocals, Value.category]; done) | rfl
def Q4 (Z : State) (a : Addr) (od : Int32) (h0 : Heap) (n0 : Nat) (v : Option Value) (h : Heap) (L : List Loc) : Prop := v = some (.int od) ∧ Fr n0 L ∧ h = h0
set_option maxRecDepth 65536 in
set_option maxHeartbeats 40000000 in
theorem rm4 (l : Launch) (Z : State) (a0 : Array Value) (hw : ∀ d ∈ tables_1, d.before a0 Z = true) (ws : List Jvm.Cond) (a : Addr) (od : Int32) (h0 : Heap) (n0 : Nat) (Z0 : n0 ≤ h0.size) (F_ordinal_a : Fld Z h0 a cN_1 "ordinal" "I" (.int od)) :
    CT l mN_4 jdk_37_method_2_code 1 (some .int) ws ({ frames := 0, cells := 0, slots := 0, locals := 0 } : Room) #[(.ref a)] Z h0 (Q4 Z a od h0 n0) := by
  refine body_of (plainFor_of_name pn_1) ?_
  intro p e s m below meth c s₁ hx dB hret hlk hml hown0 hnm X0 e0 hZ
  have hown : s.vm.findClass cN_1 = some m.cls := hown0
  have N0 := Fr.nil n0
  rw [ef_4]
  show Wk p e below (FN s (Q4 Z a od h0 n0) 0 0) s₁ (mkF m 0 #[.val (.ref a)] [])
  refine w_aloadN X0 hx (.ref a) (dB d4_0) 1 rfl rfl rfl ?_
  refine w_getF X0 hx hZ hown e0 (host := "") (Or.inl (tw_25 hw)) Via.refl F_ordinal_a (dB d4_1) 4 rfl (fun T2 X2 e2 => ?_)
  refine w_retI X2 hx hlk hret (dB d4_4) (by decide) (by decide) ?_
  rw [e2]
  exact ⟨rfl, N0, rfl⟩
theorem ef_8 (m : MethodId) (x0 : Addr) : entryFrame m #[(.ref x0)] 1 = mkF m 0 #[.val (.ref x0)] [] := by first | (simp [entryFrame, mkF, argsToLocals, Value.category]; done) | rfl
def Q8 (Z : State) (a : Addr) (x_records : Int64) (x_blockOk : Int64) (x_blockBad : Int64) (x_payloadOk : Int64) (x_payloadCoded : Int64) (x_payloadBad : Int64) (x_payloadUnchecked : Int64) (x_trailerBad : Int64) (x_segmentBad : Int64) (x_cut : Int32) (h0 : Heap) (n0 : Nat) (v : Option Value) (h : Heap) (L : List Loc) : Prop := ∃ y : Int64, (y.toInt = x_records.toInt + 1) ∧ v = none ∧ Fr n0 L ∧ Keep h0 h [a] ∧ Fld Z h a cN_0 "records" "J" (.long y) ∧ Fld Z h a cN_0 "blockOk" "J" (.long x_blockOk) ∧ Fld Z h a cN_0 "blockBad" "J" (.long x_blockBad) ∧ Fld Z h a cN_0 "payloadOk" "J" (.long x_payloadOk) ∧ Fld Z h a cN_0 "payloadCoded" "J" (.long x_payloadCoded) ∧ Fld Z h a cN_0 "payloadBad" "J" (.long x_payloadBad) ∧ Fld Z h a cN_0 "payloadUnchecked" "J" (.long x_payloadUnchecked) ∧ Fld Z h a cN_0 "trailerBad" "J" (.long x_trailerBad) ∧ Fld Z h a cN_0 "segmentBad" "J" (.long x_segmentBad) ∧ Fld Z h a cN_0 "cut" "Z" (.int x_cut)
set_option maxRecDepth 65536 in
set_option maxHeartbeats 40000000 in
theorem rm8 (l : Launch) (Z : State) (a0 : Array Value) (hw : ∀ d ∈ tables_1, d.before a0 Z = true) (ws : List Jvm.Cond) (a : Addr) (x_records : Int64) (x_blockOk : Int64) (x_blockBad : Int64) (x_payloadOk : Int64) (x_payloadCoded : Int64) (x_payloadBad : Int64) (x_payloadUnchecked : Int64) (x_trailerBad : Int64) (x_segmentBad : Int64) (x_cut : Int32) (h0 : Heap) (n0 : Nat) (Z0 : n0 ≤ h0.size) (E_a : Exa Z h0 a cN_0) (F_records : Fld Z h0 a cN_0 "records" "J" (.long x_records)) (F_blockOk : Fld Z h0 a cN_0 "blockOk" "J" (.long x_blockOk)) (F_blockBad : Fld Z h0 a cN_0 "blockBad" "J" (.long x_blockBad)) (F_payloadOk : Fld Z h0 a cN_0 "payloadOk" "J" (.long x_payloadOk)) (F_payloadCoded : Fld Z h0 a cN_0 "payloadCoded" "J" (.long x_payloadCoded)) (F_payloadBad : Fld Z h0 a cN_0 "payloadBad" "J" (.long x_payloadBad)) (F_payloadUnchecked : Fld Z h0 a cN_0 "payloadUnchecked" "J" (.long x_payloadUnchecked)) (F_trailerBad : Fld Z h0 a cN_0 "trailerBad" "J" (.long x_trailerBad)) (F_segmentBad : Fld Z h0 a cN_0 "segmentBad" "J" (.long x_segmentBad)) (F_cut : Fld Z h0 a cN_0 "cut" "Z" (.int x_cut)) (g_a : n0 ≤ a) (p_records : 0 ≤ x_records.toInt ∧ x_records.toInt < 1000) :
    CT l mN_8 prog_7_method_13_code 1 none ws ({ frames := 0, cells := 0, slots := 0, locals := 0 } : Room) #[(.ref a)] Z h0 (Q8 Z a x_records x_blockOk x_blockBad x_payloadOk x_payloadCoded x_payloadBad x_payloadUnchecked x_trailerBad x_segmentBad x_cut h0 n0) := by
  refine body_of (plainFor_of_name pn_0) ?_
  intro p e s m below meth c s₁ hx dB hret hlk hml hown0 hnm X0 e0 hZ
  have hown : s.vm.findClass cN_0 = some m.cls := hown0
  have N0 := Fr.nil n0
  rw [ef_8]
  show Wk p e below (FN s (Q8 Z a x_records x_blockOk x_blockBad x_payloadOk x_payloadCoded x_payloadBad x_payloadUnchecked x_trailerBad x_segmentBad x_cut h0 n0) 0 0) s₁ (mkF m 0 #[.val (.ref a)] [])
  refine w_aloadN X0 hx (.ref a) (dB d8_0) 1 rfl rfl rfl ?_
  refine w_dup X0 hx (dB d8_1) 2 rfl rfl ?_
  refine w_getF X0 hx hZ hown e0 (host := "") (Or.inl (tw_59 hw)) Via.refl F_records (dB d8_2) 5 rfl (fun T3 X3 e3 => ?_)
  refine w_lconst X3 hx (dB d8_5) 6 rfl (1 : Int64) (by decide) ?_
  obtain ⟨v4, e4⟩ : ∃ z : Int64, z = x_records + (1 : Int64) := ⟨_, rfl⟩
  have n4 : v4.toInt = x_records.toInt + 1 := by rw [e4]; exact laddX rfl (by decide) (by omega) (by omega)
  refine w_ladd X3 hx (dB d8_6) 7 rfl e4 ?_
  refine w_putF X3 hx hZ hown e3 (host := "") (Or.inl (tw_59 hw)) Via.refl F_records E_a (Or.inl (tw_60 hw)) (tw_2 hw) (ty := .long) (by decide) rfl rfl (dB d8_7) 10 rfl (fun T5 h5 X5 e5 W5 => ?_)
  have F6 : Exa Z h5 a cN_0 := E_a.wr W5
  have F7 : Fld Z h5 a cN_0 "records" "J" (.long v4) := F_records.same W5
  have F8 : Fld Z h5 a cN_0 "blockOk" "J" (.long x_blockOk) := F_blockOk.other W5 (Or.inr (slot_ne (Or.inl (tw_74 hw)) (Or.inl (tw_60 hw)) (by decide) (t := .long) (t' := .long) (by decide) (by decide)))
  have F9 : Fld Z h5 a cN_0 "blockBad" "J" (.long x_blockBad) := F_blockBad.other W5 (Or.inr (slot_ne (Or.inl (tw_35 hw)) (Or.inl (tw_60 hw)) (by decide) (t := .long) (t' := .long) (by decide) (by decide)))
  have F10 : Fld Z h5 a cN_0 "payloadOk" "J" (.long x_payloadOk) := F_payloadOk.other W5 (Or.inr (slot_ne (Or.inl (tw_39 hw)) (Or.inl (tw_60 hw)) (by decide) (t := .long) (t' := .long) (by decide) (by decide)))
  have F11 : Fld Z h5 a cN_0 "payloadCoded" "J" (.long x_payloadCoded) := F_payloadCoded.other W5 (Or.inr (slot_ne (Or.inl (tw_78 hw)) (Or.inl (tw_60 hw)) (by decide) (t := .long) (t' := .long) (by decide) (by decide)))
  have F12 : Fld Z h5 a cN_0 "payloadBad" "J" (.long x_payloadBad) := F_payloadBad.other W5 (Or.inr (slot_ne (Or.inl (tw_28 hw)) (Or.inl (tw_60 hw)) (by decide) (t := .long) (t' := .long) (by decide) (by decide)))
  have F13 : Fld Z h5 a cN_0 "payloadUnchecked" "J" (.long x_payloadUnchecked) := F_payloadUnchecked.other W5 (Or.inr (slot_ne (Or.inl (tw_67 hw)) (Or.inl (tw_60 hw)) (by decide) (t := .long) (t' := .long) (by decide) (by decide)))
  have F14 : Fld Z h5 a cN_0 "trailerBad" "J" (.long x_trailerBad) := F_trailerBad.other W5 (Or.inr (slot_ne (Or.inl (tw_46 hw)) (Or.inl (tw_60 hw)) (by decide) (t := .long) (t' := .long) (by decide) (by decide)))
  have F15 : Fld Z h5 a cN_0 "segmentBad" "J" (.long x_segmentBad) := F_segmentBad.other W5 (Or.inr (slot_ne (Or.inl (tw_53 hw)) (Or.inl (tw_60 hw)) (by decide) (t := .long) (t' := .long) (by decide) (by decide)))
  have F16 : Fld Z h5 a cN_0 "cut" "Z" (.int x_cut) := F_cut.other W5 (Or.inr (slot_ne (Or.inl (tw_85 hw)) (Or.inl (tw_60 hw)) (by decide) (t := .boolean) (t' := .long) (by decide) (by decide)))
  have Z5 : n0 ≤ h5.size := by rw [W5.size]; exact Z0
  have K5 : Keep h0 h5 [a] := (Keep.refl h0 [a]).wr W5 (Or.inl (List.mem_of_getElem? (i := 0) rfl))
  have N5 := Fr.snoc X5 N0 g_a
  refine w_ret0 X5 hx hlk hret (dB d8_10) (by decide) (by decide) ?_
  rw [e5]
  exact ⟨v4, by omega, rfl, N5, K5, F7, F8, F9, F10, F11, F12, F13, F14, F15, F16⟩
theorem ef_9 (m : MethodId) (x0 : Addr) : entryFrame m #[(.ref x0)] 1 = mkF m 0 #[.val (.ref x0)] [] := by first | (simp [entryFrame, mkF, argsToLocals, Value.category]; done) | rfl
def Q9 (Z : State) (a : Addr) (x_records : Int64) (x_blockOk : Int64) (x_blockBad : Int64) (x_payloadOk : Int64) (x_payloadCoded : Int64) (x_payloadBad : Int64) (x_payloadUnchecked : Int64) (x_trailerBad : Int64) (x_segmentBad : Int64) (x_cut : Int32) (h0 : Heap) (n0 : Nat) (v : Option Value) (h : Heap) (L : List Loc) : Prop := ∃ y : Int64, (y.toInt = x_payloadUnchecked.toInt + 1) ∧ v = none ∧ Fr n0 L ∧ Keep h0 h [a] ∧ Fld Z h a cN_0 "records" "J" (.long x_records) ∧ Fld Z h a cN_0 "blockOk" "J" (.long x_blockOk) ∧ Fld Z h a cN_0 "blockBad" "J" (.long x_blockBad) ∧ Fld Z h a cN_0 "payloadOk" "J" (.long x_payloadOk) ∧ Fld Z h a cN_0 "payloadCoded" "J" (.long x_payloadCoded) ∧ Fld Z h a cN_0 "payloadBad" "J" (.long x_payloadBad) ∧ Fld Z h a cN_0 "payloadUnchecked" "J" (.long y) ∧ Fld Z h a cN_0 "trailerBad" "J" (.long x_trailerBad) ∧ Fld Z h a cN_0 "segmentBad" "J" (.long x_segmentBad) ∧ Fld Z h a cN_0 "cut" "Z" (.int x_cut)
set_option maxRecDepth 65536 in
set_option maxHeartbeats 40000000 in
theorem rm9 (l : Launch) (Z : State) (a0 : Array Value) (hw : ∀ d ∈ tables_1, d.before a0 Z = true) (ws : List Jvm.Cond) (a : Addr) (x_records : Int64) (x_blockOk : Int64) (x_blockBad : Int64) (x_payloadOk : Int64) (x_payloadCoded : Int64) (x_payloadBad : Int64) (x_payloadUnchecked : Int64) (x_trailerBad : Int64) (x_segmentBad : Int64) (x_cut : Int32) (h0 : Heap) (n0 : Nat) (Z0 : n0 ≤ h0.size) (E_a : Exa Z h0 a cN_0) (F_records : Fld Z h0 a cN_0 "records" "J" (.long x_records)) (F_blockOk : Fld Z h0 a cN_0 "blockOk" "J" (.long x_blockOk)) (F_blockBad : Fld Z h0 a cN_0 "blockBad" "J" (.long x_blockBad)) (F_payloadOk : Fld Z h0 a cN_0 "payloadOk" "J" (.long x_payloadOk)) (F_payloadCoded : Fld Z h0 a cN_0 "payloadCoded" "J" (.long x_payloadCoded)) (F_payloadBad : Fld Z h0 a cN_0 "payloadBad" "J" (.long x_payloadBad)) (F_payloadUnchecked : Fld Z h0 a cN_0 "payloadUnchecked" "J" (.long x_payloadUnchecked)) (F_trailerBad : Fld Z h0 a cN_0 "trailerBad" "J" (.long x_trailerBad)) (F_segmentBad : Fld Z h0 a cN_0 "segmentBad" "J" (.long x_segmentBad)) (F_cut : Fld Z h0 a cN_0 "cut" "Z" (.int x_cut)) (g_a : n0 ≤ a) (p_payloadUnchecked : 0 ≤ x_payloadUnchecked.toInt ∧ x_payloadUnchecked.toInt < 1000) :
    CT l mN_9 prog_7_method_16_code 1 none ws ({ frames := 0, cells := 0, slots := 0, locals := 0 } : Room) #[(.ref a)] Z h0 (Q9 Z a x_records x_blockOk x_blockBad x_payloadOk x_payloadCoded x_payloadBad x_payloadUnchecked x_trailerBad x_segmentBad x_cut h0 n0) := by
  refine body_of (plainFor_of_name pn_0) ?_
  intro p e s m below meth c s₁ hx dB hret hlk hml hown0 hnm X0 e0 hZ
  have hown : s.vm.findClass cN_0 = some m.cls := hown0
  have N0 := Fr.nil n0
  rw [ef_9]
  show Wk p e below (FN s (Q9 Z a x_records x_blockOk x_blockBad x_payloadOk x_payloadCoded x_payloadBad x_payloadUnchecked x_trailerBad x_segmentBad x_cut h0 n0) 0 0) s₁ (mkF m 0 #[.val (.ref a)] [])
  refine w_aloadN X0 hx (.ref a) (dB d9_0) 1 rfl rfl rfl ?_
  refine w_dup X0 hx (dB d9_1) 2 rfl rfl ?_
  refine w_getF X0 hx hZ hown e0 (host := "") (Or.inl (tw_66 hw)) Via.refl F_payloadUnchecked (dB d9_2) 5 rfl (fun T17 X17 e17 => ?_)
  refine w_lconst X17 hx (dB d9_5) 6 rfl (1 : Int64) (by decide) ?_
  obtain ⟨v18, e18⟩ : ∃ z : Int64, z = x_payloadUnchecked + (1 : Int64) := ⟨_, rfl⟩
  have n18 : v18.toInt = x_payloadUnchecked.toInt + 1 := by rw [e18]; exact laddX rfl (by decide) (by omega) (by omega)
  refine w_ladd X17 hx (dB d9_6) 7 rfl e18 ?_
  refine w_putF X17 hx hZ hown e17 (host := "") (Or.inl (tw_66 hw)) Via.refl F_payloadUnchecked E_a (Or.inl (tw_67 hw)) (tw_2 hw) (ty := .long) (by decide) rfl rfl (dB d9_7) 10 rfl (fun T19 h19 X19 e19 W19 => ?_)
  have F20 : Exa Z h19 a cN_0 := E_a.wr W19
  have F21 : Fld Z h19 a cN_0 "records" "J" (.long x_records) := F_records.other W19 (Or.inr (slot_ne (Or.inl (tw_60 hw)) (Or.inl (tw_67 hw)) (by decide) (t := .long) (t' := .long) (by decide) (by decide)))
  have F22 : Fld Z h19 a cN_0 "blockOk" "J" (.long x_blockOk) := F_blockOk.other W19 (Or.inr (slot_ne (Or.inl (tw_74 hw)) (Or.inl (tw_67 hw)) (by decide) (t := .long) (t' := .long) (by decide) (by decide)))
  have F23 : Fld Z h19 a cN_0 "blockBad" "J" (.long x_blockBad) := F_blockBad.other W19 (Or.inr (slot_ne (Or.inl (tw_35 hw)) (Or.inl (tw_67 hw)) (by decide) (t := .long) (t' := .long) (by decide) (by decide)))
  have F24 : Fld Z h19 a cN_0 "payloadOk" "J" (.long x_payloadOk) := F_payloadOk.other W19 (Or.inr (slot_ne (Or.inl (tw_39 hw)) (Or.inl (tw_67 hw)) (by decide) (t := .long) (t' := .long) (by decide) (by decide)))
  have F25 : Fld Z h19 a cN_0 "payloadCoded" "J" (.long x_payloadCoded) := F_payloadCoded.other W19 (Or.inr (slot_ne (Or.inl (tw_78 hw)) (Or.inl (tw_67 hw)) (by decide) (t := .long) (t' := .long) (by decide) (by decide)))
  have F26 : Fld Z h19 a cN_0 "payloadBad" "J" (.long x_payloadBad) := F_payloadBad.other W19 (Or.inr (slot_ne (Or.inl (tw_28 hw)) (Or.inl (tw_67 hw)) (by decide) (t := .long) (t' := .long) (by decide) (by decide)))
  have F27 : Fld Z h19 a cN_0 "payloadUnchecked" "J" (.long v18) := F_payloadUnchecked.same W19
  have F28 : Fld Z h19 a cN_0 "trailerBad" "J" (.long x_trailerBad) := F_trailerBad.other W19 (Or.inr (slot_ne (Or.inl (tw_46 hw)) (Or.inl (tw_67 hw)) (by decide) (t := .long) (t' := .long) (by decide) (by decide)))
  have F29 : Fld Z h19 a cN_0 "segmentBad" "J" (.long x_segmentBad) := F_segmentBad.other W19 (Or.inr (slot_ne (Or.inl (tw_53 hw)) (Or.inl (tw_67 hw)) (by decide) (t := .long) (t' := .long) (by decide) (by decide)))
  have F30 : Fld Z h19 a cN_0 "cut" "Z" (.int x_cut) := F_cut.other W19 (Or.inr (slot_ne (Or.inl (tw_85 hw)) (Or.inl (tw_67 hw)) (by decide) (t := .boolean) (t' := .long) (by decide) (by decide)))
  have Z19 : n0 ≤ h19.size := by rw [W19.size]; exact Z0
  have K19 : Keep h0 h19 [a] := (Keep.refl h0 [a]).wr W19 (Or.inl (List.mem_of_getElem? (i := 0) rfl))
  have N19 := Fr.snoc X19 N0 g_a
  refine w_ret0 X19 hx hlk hret (dB d9_10) (by decide) (by decide) ?_
  rw [e19]
  exact ⟨v18, by omega, rfl, N19, K19, F21, F22, F23, F24, F25, F26, F27, F28, F29, F30⟩
theorem ef_6 (m : MethodId) (x0 : Addr) : entryFrame m #[(.ref x0)] 1 = mkF m 0 #[.val (.ref x0)] [] := by first | (simp [entryFrame, mkF, argsToLocals, Value.category]; done) | rfl
def Q6 (Z : State) (a : Addr) (x_records : Int64) (x_blockOk : Int64) (x_blockBad : Int64) (x_payloadOk : Int64) (x_payloadCoded : Int64) (x_payloadBad : Int64) (x_payloadUnchecked : Int64) (x_trailerBad : Int64) (x_segmentBad : Int64) (x_cut : Int32) (h0 : Heap) (n0 : Nat) (v : Option Value) (h : Heap) (L : List Loc) : Prop := ∃ y : Int64, (y.toInt = x_trailerBad.toInt + 1) ∧ v = none ∧ Fr n0 L ∧ Keep h0 h [a] ∧ Fld Z h a cN_0 "records" "J" (.long x_records) ∧ Fld Z h a cN_0 "blockOk" "J" (.long x_blockOk) ∧ Fld Z h a cN_0 "blockBad" "J" (.long x_blockBad) ∧ Fld Z h a cN_0 "payloadOk" "J" (.long x_payloadOk) ∧ Fld Z h a cN_0 "payloadCoded" "J" (.long x_payloadCoded) ∧ Fld Z h a cN_0 "payloadBad" "J" (.long x_payloadBad) ∧ Fld Z h a cN_0 "payloadUnchecked" "J" (.long x_payloadUnchecked) ∧ Fld Z h a cN_0 "trailerBad" "J" (.long y) ∧ Fld Z h a cN_0 "segmentBad" "J" (.long x_segmentBad) ∧ Fld Z h a cN_0 "cut" "Z" (.int x_cut)
set_option maxRecDepth 65536 in
set_option maxHeartbeats 40000000 in
theorem rm6 (l : Launch) (Z : State) (a0 : Array Value) (hw : ∀ d ∈ tables_1, d.before a0 Z = true) (ws : List Jvm.Cond) (a : Addr) (x_records : Int64) (x_blockOk : Int64) (x_blockBad : Int64) (x_payloadOk : Int64) (x_payloadCoded : Int64) (x_payloadBad : Int64) (x_payloadUnchecked : Int64) (x_trailerBad : Int64) (x_segmentBad : Int64) (x_cut : Int32) (h0 : Heap) (n0 : Nat) (Z0 : n0 ≤ h0.size) (E_a : Exa Z h0 a cN_0) (F_records : Fld Z h0 a cN_0 "records" "J" (.long x_records)) (F_blockOk : Fld Z h0 a cN_0 "blockOk" "J" (.long x_blockOk)) (F_blockBad : Fld Z h0 a cN_0 "blockBad" "J" (.long x_blockBad)) (F_payloadOk : Fld Z h0 a cN_0 "payloadOk" "J" (.long x_payloadOk)) (F_payloadCoded : Fld Z h0 a cN_0 "payloadCoded" "J" (.long x_payloadCoded)) (F_payloadBad : Fld Z h0 a cN_0 "payloadBad" "J" (.long x_payloadBad)) (F_payloadUnchecked : Fld Z h0 a cN_0 "payloadUnchecked" "J" (.long x_payloadUnchecked)) (F_trailerBad : Fld Z h0 a cN_0 "trailerBad" "J" (.long x_trailerBad)) (F_segmentBad : Fld Z h0 a cN_0 "segmentBad" "J" (.long x_segmentBad)) (F_cut : Fld Z h0 a cN_0 "cut" "Z" (.int x_cut)) (g_a : n0 ≤ a) (p_trailerBad : 0 ≤ x_trailerBad.toInt ∧ x_trailerBad.toInt < 1000) :
    CT l mN_6 prog_7_method_17_code 1 none ws ({ frames := 0, cells := 0, slots := 0, locals := 0 } : Room) #[(.ref a)] Z h0 (Q6 Z a x_records x_blockOk x_blockBad x_payloadOk x_payloadCoded x_payloadBad x_payloadUnchecked x_trailerBad x_segmentBad x_cut h0 n0) := by
  refine body_of (plainFor_of_name pn_0) ?_
  intro p e s m below meth c s₁ hx dB hret hlk hml hown0 hnm X0 e0 hZ
  have hown : s.vm.findClass cN_0 = some m.cls := hown0
  have N0 := Fr.nil n0
  rw [ef_6]
  show Wk p e below (FN s (Q6 Z a x_records x_blockOk x_blockBad x_payloadOk x_payloadCoded x_payloadBad x_payloadUnchecked x_trailerBad x_segmentBad x_cut h0 n0) 0 0) s₁ (mkF m 0 #[.val (.ref a)] [])
  refine w_aloadN X0 hx (.ref a) (dB d6_0) 1 rfl rfl rfl ?_
  refine w_dup X0 hx (dB d6_1) 2 rfl rfl ?_
  refine w_getF X0 hx hZ hown e0 (host := "") (Or.inl (tw_45 hw)) Via.refl F_trailerBad (dB d6_2) 5 rfl (fun T31 X31 e31 => ?_)
  refine w_lconst X31 hx (dB d6_5) 6 rfl (1 : Int64) (by decide) ?_
  obtain ⟨v32, e32⟩ : ∃ z : Int64, z = x_trailerBad + (1 : Int64) := ⟨_, rfl⟩
  have n32 : v32.toInt = x_trailerBad.toInt + 1 := by rw [e32]; exact laddX rfl (by decide) (by omega) (by omega)
  refine w_ladd X31 hx (dB d6_6) 7 rfl e32 ?_
  refine w_putF X31 hx hZ hown e31 (host := "") (Or.inl (tw_45 hw)) Via.refl F_trailerBad E_a (Or.inl (tw_46 hw)) (tw_2 hw) (ty := .long) (by decide) rfl rfl (dB d6_7) 10 rfl (fun T33 h33 X33 e33 W33 => ?_)
  have F34 : Exa Z h33 a cN_0 := E_a.wr W33
  have F35 : Fld Z h33 a cN_0 "records" "J" (.long x_records) := F_records.other W33 (Or.inr (slot_ne (Or.inl (tw_60 hw)) (Or.inl (tw_46 hw)) (by decide) (t := .long) (t' := .long) (by decide) (by decide)))
  have F36 : Fld Z h33 a cN_0 "blockOk" "J" (.long x_blockOk) := F_blockOk.other W33 (Or.inr (slot_ne (Or.inl (tw_74 hw)) (Or.inl (tw_46 hw)) (by decide) (t := .long) (t' := .long) (by decide) (by decide)))
  have F37 : Fld Z h33 a cN_0 "blockBad" "J" (.long x_blockBad) := F_blockBad.other W33 (Or.inr (slot_ne (Or.inl (tw_35 hw)) (Or.inl (tw_46 hw)) (by decide) (t := .long) (t' := .long) (by decide) (by decide)))
  have F38 : Fld Z h33 a cN_0 "payloadOk" "J" (.long x_payloadOk) := F_payloadOk.other W33 (Or.inr (slot_ne (Or.inl (tw_39 hw)) (Or.inl (tw_46 hw)) (by decide) (t := .long) (t' := .long) (by decide) (by decide)))
  have F39 : Fld Z h33 a cN_0 "payloadCoded" "J" (.long x_payloadCoded) := F_payloadCoded.other W33 (Or.inr (slot_ne (Or.inl (tw_78 hw)) (Or.inl (tw_46 hw)) (by decide) (t := .long) (t' := .long) (by decide) (by decide)))
  have F40 : Fld Z h33 a cN_0 "payloadBad" "J" (.long x_payloadBad) := F_payloadBad.other W33 (Or.inr (slot_ne (Or.inl (tw_28 hw)) (Or.inl (tw_46 hw)) (by decide) (t := .long) (t' := .long) (by decide) (by decide)))
  have F41 : Fld Z h33 a cN_0 "payloadUnchecked" "J" (.long x_payloadUnchecked) := F_payloadUnchecked.other W33 (Or.inr (slot_ne (Or.inl (tw_67 hw)) (Or.inl (tw_46 hw)) (by decide) (t := .long) (t' := .long) (by decide) (by decide)))
  have F42 : Fld Z h33 a cN_0 "trailerBad" "J" (.long v32) := F_trailerBad.same W33
  have F43 : Fld Z h33 a cN_0 "segmentBad" "J" (.long x_segmentBad) := F_segmentBad.other W33 (Or.inr (slot_ne (Or.inl (tw_53 hw)) (Or.inl (tw_46 hw)) (by decide) (t := .long) (t' := .long) (by decide) (by decide)))
  have F44 : Fld Z h33 a cN_0 "cut" "Z" (.int x_cut) := F_cut.other W33 (Or.inr (slot_ne (Or.inl (tw_85 hw)) (Or.inl (tw_46 hw)) (by decide) (t := .boolean) (t' := .long) (by decide) (by decide)))
  have Z33 : n0 ≤ h33.size := by rw [W33.size]; exact Z0
  have K33 : Keep h0 h33 [a] := (Keep.refl h0 [a]).wr W33 (Or.inl (List.mem_of_getElem? (i := 0) rfl))
  have N33 := Fr.snoc X33 N0 g_a
  refine w_ret0 X33 hx hlk hret (dB d6_10) (by decide) (by decide) ?_
  rw [e33]
  exact ⟨v32, by omega, rfl, N33, K33, F35, F36, F37, F38, F39, F40, F41, F42, F43, F44⟩
theorem ef_7 (m : MethodId) (x0 : Addr) : entryFrame m #[(.ref x0)] 1 = mkF m 0 #[.val (.ref x0)] [] := by first | (simp [entryFrame, mkF, argsToLocals, Value.category]; done) | rfl
def Q7 (Z : State) (a : Addr) (x_records : Int64) (x_blockOk : Int64) (x_blockBad : Int64) (x_payloadOk : Int64) (x_payloadCoded : Int64) (x_payloadBad : Int64) (x_payloadUnchecked : Int64) (x_trailerBad : Int64) (x_segmentBad : Int64) (x_cut : Int32) (h0 : Heap) (n0 : Nat) (v : Option Value) (h : Heap) (L : List Loc) : Prop := ∃ y : Int64, (y.toInt = x_segmentBad.toInt + 1) ∧ v = none ∧ Fr n0 L ∧ Keep h0 h [a] ∧ Fld Z h a cN_0 "records" "J" (.long x_records) ∧ Fld Z h a cN_0 "blockOk" "J" (.long x_blockOk) ∧ Fld Z h a cN_0 "blockBad" "J" (.long x_blockBad) ∧ Fld Z h a cN_0 "payloadOk" "J" (.long x_payloadOk) ∧ Fld Z h a cN_0 "payloadCoded" "J" (.long x_payloadCoded) ∧ Fld Z h a cN_0 "payloadBad" "J" (.long x_payloadBad) ∧ Fld Z h a cN_0 "payloadUnchecked" "J" (.long x_payloadUnchecked) ∧ Fld Z h a cN_0 "trailerBad" "J" (.long x_trailerBad) ∧ Fld Z h a cN_0 "segmentBad" "J" (.long y) ∧ Fld Z h a cN_0 "cut" "Z" (.int x_cut)
set_option maxRecDepth 65536 in
set_option maxHeartbeats 40000000 in
theorem rm7 (l : Launch) (Z : State) (a0 : Array Value) (hw : ∀ d ∈ tables_1, d.before a0 Z = true) (ws : List Jvm.Cond) (a : Addr) (x_records : Int64) (x_blockOk : Int64) (x_blockBad : Int64) (x_payloadOk : Int64) (x_payloadCoded : Int64) (x_payloadBad : Int64) (x_payloadUnchecked : Int64) (x_trailerBad : Int64) (x_segmentBad : Int64) (x_cut : Int32) (h0 : Heap) (n0 : Nat) (Z0 : n0 ≤ h0.size) (E_a : Exa Z h0 a cN_0) (F_records : Fld Z h0 a cN_0 "records" "J" (.long x_records)) (F_blockOk : Fld Z h0 a cN_0 "blockOk" "J" (.long x_blockOk)) (F_blockBad : Fld Z h0 a cN_0 "blockBad" "J" (.long x_blockBad)) (F_payloadOk : Fld Z h0 a cN_0 "payloadOk" "J" (.long x_payloadOk)) (F_payloadCoded : Fld Z h0 a cN_0 "payloadCoded" "J" (.long x_payloadCoded)) (F_payloadBad : Fld Z h0 a cN_0 "payloadBad" "J" (.long x_payloadBad)) (F_payloadUnchecked : Fld Z h0 a cN_0 "payloadUnchecked" "J" (.long x_payloadUnchecked)) (F_trailerBad : Fld Z h0 a cN_0 "trailerBad" "J" (.long x_trailerBad)) (F_segmentBad : Fld Z h0 a cN_0 "segmentBad" "J" (.long x_segmentBad)) (F_cut : Fld Z h0 a cN_0 "cut" "Z" (.int x_cut)) (g_a : n0 ≤ a) (p_segmentBad : 0 ≤ x_segmentBad.toInt ∧ x_segmentBad.toInt < 1000) :
    CT l mN_7 prog_7_method_18_code 1 none ws ({ frames := 0, cells := 0, slots := 0, locals := 0 } : Room) #[(.ref a)] Z h0 (Q7 Z a x_records x_blockOk x_blockBad x_payloadOk x_payloadCoded x_payloadBad x_payloadUnchecked x_trailerBad x_segmentBad x_cut h0 n0) := by
  refine body_of (plainFor_of_name pn_0) ?_
  intro p e s m below meth c s₁ hx dB hret hlk hml hown0 hnm X0 e0 hZ
  have hown : s.vm.findClass cN_0 = some m.cls := hown0
  have N0 := Fr.nil n0
  rw [ef_7]
  show Wk p e below (FN s (Q7 Z a x_records x_blockOk x_blockBad x_payloadOk x_payloadCoded x_payloadBad x_payloadUnchecked x_trailerBad x_segmentBad x_cut h0 n0) 0 0) s₁ (mkF m 0 #[.val (.ref a)] [])
  refine w_aloadN X0 hx (.ref a) (dB d7_0) 1 rfl rfl rfl ?_
  refine w_dup X0 hx (dB d7_1) 2 rfl rfl ?_
  refine w_getF X0 hx hZ hown e0 (host := "") (Or.inl (tw_52 hw)) Via.refl F_segmentBad (dB d7_2) 5 rfl (fun T45 X45 e45 => ?_)
  refine w_lconst X45 hx (dB d7_5) 6 rfl (1 : Int64) (by decide) ?_
  obtain ⟨v46, e46⟩ : ∃ z : Int64, z = x_segmentBad + (1 : Int64) := ⟨_, rfl⟩
  have n46 : v46.toInt = x_segmentBad.toInt + 1 := by rw [e46]; exact laddX rfl (by decide) (by omega) (by omega)
  refine w_ladd X45 hx (dB d7_6) 7 rfl e46 ?_
  refine w_putF X45 hx hZ hown e45 (host := "") (Or.inl (tw_52 hw)) Via.refl F_segmentBad E_a (Or.inl (tw_53 hw)) (tw_2 hw) (ty := .long) (by decide) rfl rfl (dB d7_7) 10 rfl (fun T47 h47 X47 e47 W47 => ?_)
  have F48 : Exa Z h47 a cN_0 := E_a.wr W47
  have F49 : Fld Z h47 a cN_0 "records" "J" (.long x_records) := F_records.other W47 (Or.inr (slot_ne (Or.inl (tw_60 hw)) (Or.inl (tw_53 hw)) (by decide) (t := .long) (t' := .long) (by decide) (by decide)))
  have F50 : Fld Z h47 a cN_0 "blockOk" "J" (.long x_blockOk) := F_blockOk.other W47 (Or.inr (slot_ne (Or.inl (tw_74 hw)) (Or.inl (tw_53 hw)) (by decide) (t := .long) (t' := .long) (by decide) (by decide)))
  have F51 : Fld Z h47 a cN_0 "blockBad" "J" (.long x_blockBad) := F_blockBad.other W47 (Or.inr (slot_ne (Or.inl (tw_35 hw)) (Or.inl (tw_53 hw)) (by decide) (t := .long) (t' := .long) (by decide) (by decide)))
  have F52 : Fld Z h47 a cN_0 "payloadOk" "J" (.long x_payloadOk) := F_payloadOk.other W47 (Or.inr (slot_ne (Or.inl (tw_39 hw)) (Or.inl (tw_53 hw)) (by decide) (t := .long) (t' := .long) (by decide) (by decide)))
  have F53 : Fld Z h47 a cN_0 "payloadCoded" "J" (.long x_payloadCoded) := F_payloadCoded.other W47 (Or.inr (slot_ne (Or.inl (tw_78 hw)) (Or.inl (tw_53 hw)) (by decide) (t := .long) (t' := .long) (by decide) (by decide)))
  have F54 : Fld Z h47 a cN_0 "payloadBad" "J" (.long x_payloadBad) := F_payloadBad.other W47 (Or.inr (slot_ne (Or.inl (tw_28 hw)) (Or.inl (tw_53 hw)) (by decide) (t := .long) (t' := .long) (by decide) (by decide)))
  have F55 : Fld Z h47 a cN_0 "payloadUnchecked" "J" (.long x_payloadUnchecked) := F_payloadUnchecked.other W47 (Or.inr (slot_ne (Or.inl (tw_67 hw)) (Or.inl (tw_53 hw)) (by decide) (t := .long) (t' := .long) (by decide) (by decide)))
  have F56 : Fld Z h47 a cN_0 "trailerBad" "J" (.long x_trailerBad) := F_trailerBad.other W47 (Or.inr (slot_ne (Or.inl (tw_46 hw)) (Or.inl (tw_53 hw)) (by decide) (t := .long) (t' := .long) (by decide) (by decide)))
  have F57 : Fld Z h47 a cN_0 "segmentBad" "J" (.long v46) := F_segmentBad.same W47
  have F58 : Fld Z h47 a cN_0 "cut" "Z" (.int x_cut) := F_cut.other W47 (Or.inr (slot_ne (Or.inl (tw_85 hw)) (Or.inl (tw_53 hw)) (by decide) (t := .boolean) (t' := .long) (by decide) (by decide)))
  have Z47 : n0 ≤ h47.size := by rw [W47.size]; exact Z0
  have K47 : Keep h0 h47 [a] := (Keep.refl h0 [a]).wr W47 (Or.inl (List.mem_of_getElem? (i := 0) rfl))
  have N47 := Fr.snoc X47 N0 g_a
  refine w_ret0 X47 hx hlk hret (dB d7_10) (by decide) (by decide) ?_
  rw [e47]
  exact ⟨v46, by omega, rfl, N47, K47, F49, F50, F51, F52, F53, F54, F55, F56, F57, F58⟩
theorem ef_11 (m : MethodId) (x0 : Addr) : entryFrame m #[(.ref x0)] 1 = mkF m 0 #[.val (.ref x0)] [] := by first | (simp [entryFrame, mkF, argsToLocals, Value.category]; done) | rfl
def Q11 (Z : State) (a : Addr) (x_records : Int64) (x_blockOk : Int64) (x_blockBad : Int64) (x_payloadOk : Int64) (x_payloadCoded : Int64) (x_payloadBad : Int64) (x_payloadUnchecked : Int64) (x_trailerBad : Int64) (x_segmentBad : Int64) (x_cut : Int32) (h0 : Heap) (n0 : Nat) (v : Option Value) (h : Heap) (L : List Loc) : Prop := v = none ∧ Fr n0 L ∧ Keep h0 h [a] ∧ Fld Z h a cN_0 "records" "J" (.long x_records) ∧ Fld Z h a cN_0 "blockOk" "J" (.long x_blockOk) ∧ Fld Z h a cN_0 "blockBad" "J" (.long x_blockBad) ∧ Fld Z h a cN_0 "payloadOk" "J" (.long x_payloadOk) ∧ Fld Z h a cN_0 "payloadCoded" "J" (.long x_payloadCoded) ∧ Fld Z h a cN_0 "payloadBad" "J" (.long x_payloadBad) ∧ Fld Z h a cN_0 "payloadUnchecked" "J" (.long x_payloadUnchecked) ∧ Fld Z h a cN_0 "trailerBad" "J" (.long x_trailerBad) ∧ Fld Z h a cN_0 "segmentBad" "J" (.long x_segmentBad) ∧ Fld Z h a cN_0 "cut" "Z" (.int (1 : Int32))
set_option maxRecDepth 65536 in
set_option maxHeartbeats 40000000 in
theorem rm11 (l : Launch) (Z : State) (a0 : Array Value) (hw : ∀ d ∈ tables_1, d.before a0 Z = true) (ws : List Jvm.Cond) (a : Addr) (x_records : Int64) (x_blockOk : Int64) (x_blockBad : Int64) (x_payloadOk : Int64) (x_payloadCoded : Int64) (x_payloadBad : Int64) (x_payloadUnchecked : Int64) (x_trailerBad : Int64) (x_segmentBad : Int64) (x_cut : Int32) (h0 : Heap) (n0 : Nat) (Z0 : n0 ≤ h0.size) (E_a : Exa Z h0 a cN_0) (F_records : Fld Z h0 a cN_0 "records" "J" (.long x_records)) (F_blockOk : Fld Z h0 a cN_0 "blockOk" "J" (.long x_blockOk)) (F_blockBad : Fld Z h0 a cN_0 "blockBad" "J" (.long x_blockBad)) (F_payloadOk : Fld Z h0 a cN_0 "payloadOk" "J" (.long x_payloadOk)) (F_payloadCoded : Fld Z h0 a cN_0 "payloadCoded" "J" (.long x_payloadCoded)) (F_payloadBad : Fld Z h0 a cN_0 "payloadBad" "J" (.long x_payloadBad)) (F_payloadUnchecked : Fld Z h0 a cN_0 "payloadUnchecked" "J" (.long x_payloadUnchecked)) (F_trailerBad : Fld Z h0 a cN_0 "trailerBad" "J" (.long x_trailerBad)) (F_segmentBad : Fld Z h0 a cN_0 "segmentBad" "J" (.long x_segmentBad)) (F_cut : Fld Z h0 a cN_0 "cut" "Z" (.int x_cut)) (g_a : n0 ≤ a) :
    CT l mN_11 prog_7_method_19_code 1 none ws ({ frames := 0, cells := 0, slots := 0, locals := 0 } : Room) #[(.ref a)] Z h0 (Q11 Z a x_records x_blockOk x_blockBad x_payloadOk x_payloadCoded x_payloadBad x_payloadUnchecked x_trailerBad x_segmentBad x_cut h0 n0) := by
  refine body_of (plainFor_of_name pn_0) ?_
  intro p e s m below meth c s₁ hx dB hret hlk hml hown0 hnm X0 e0 hZ
  have hown : s.vm.findClass cN_0 = some m.cls := hown0
  have N0 := Fr.nil n0
  rw [ef_11]
  show Wk p e below (FN s (Q11 Z a x_records x_blockOk x_blockBad x_payloadOk x_payloadCoded x_payloadBad x_payloadUnchecked x_trailerBad x_segmentBad x_cut h0 n0) 0 0) s₁ (mkF m 0 #[.val (.ref a)] [])
  refine w_aloadN X0 hx (.ref a) (dB d11_0) 1 rfl rfl rfl ?_
  refine w_iconst X0 hx (dB d11_1) 2 rfl (1 : Int32) (by decide) ?_
  refine w_putFN X0 hx hZ hown e0 (tw_84 hw) Via.refl F_cut E_a (Or.inl (tw_85 hw)) (tw_2 hw) (ty := .boolean) (v' := (.int (1 : Int32))) (by decide) (by rfl) (by decide) (dB d11_2) 5 rfl (fun T59 h59 X59 e59 W59 => ?_)
  have F60 : Exa Z h59 a cN_0 := E_a.wr W59
  have F61 : Fld Z h59 a cN_0 "records" "J" (.long x_records) := F_records.other W59 (Or.inr (slot_ne (Or.inl (tw_60 hw)) (Or.inl (tw_85 hw)) (by decide) (t := .long) (t' := .boolean) (by decide) (by decide)))
  have F62 : Fld Z h59 a cN_0 "blockOk" "J" (.long x_blockOk) := F_blockOk.other W59 (Or.inr (slot_ne (Or.inl (tw_74 hw)) (Or.inl (tw_85 hw)) (by decide) (t := .long) (t' := .boolean) (by decide) (by decide)))
  have F63 : Fld Z h59 a cN_0 "blockBad" "J" (.long x_blockBad) := F_blockBad.other W59 (Or.inr (slot_ne (Or.inl (tw_35 hw)) (Or.inl (tw_85 hw)) (by decide) (t := .long) (t' := .boolean) (by decide) (by decide)))
  have F64 : Fld Z h59 a cN_0 "payloadOk" "J" (.long x_payloadOk) := F_payloadOk.other W59 (Or.inr (slot_ne (Or.inl (tw_39 hw)) (Or.inl (tw_85 hw)) (by decide) (t := .long) (t' := .boolean) (by decide) (by decide)))
  have F65 : Fld Z h59 a cN_0 "payloadCoded" "J" (.long x_payloadCoded) := F_payloadCoded.other W59 (Or.inr (slot_ne (Or.inl (tw_78 hw)) (Or.inl (tw_85 hw)) (by decide) (t := .long) (t' := .boolean) (by decide) (by decide)))
  have F66 : Fld Z h59 a cN_0 "payloadBad" "J" (.long x_payloadBad) := F_payloadBad.other W59 (Or.inr (slot_ne (Or.inl (tw_28 hw)) (Or.inl (tw_85 hw)) (by decide) (t := .long) (t' := .boolean) (by decide) (by decide)))
  have F67 : Fld Z h59 a cN_0 "payloadUnchecked" "J" (.long x_payloadUnchecked) := F_payloadUnchecked.other W59 (Or.inr (slot_ne (Or.inl (tw_67 hw)) (Or.inl (tw_85 hw)) (by decide) (t := .long) (t' := .boolean) (by decide) (by decide)))
  have F68 : Fld Z h59 a cN_0 "trailerBad" "J" (.long x_trailerBad) := F_trailerBad.other W59 (Or.inr (slot_ne (Or.inl (tw_46 hw)) (Or.inl (tw_85 hw)) (by decide) (t := .long) (t' := .boolean) (by decide) (by decide)))
  have F69 : Fld Z h59 a cN_0 "segmentBad" "J" (.long x_segmentBad) := F_segmentBad.other W59 (Or.inr (slot_ne (Or.inl (tw_53 hw)) (Or.inl (tw_85 hw)) (by decide) (t := .long) (t' := .boolean) (by decide) (by decide)))
  have F70 : Fld Z h59 a cN_0 "cut" "Z" (.int (1 : Int32)) := F_cut.same W59
  have Z59 : n0 ≤ h59.size := by rw [W59.size]; exact Z0
  have K59 : Keep h0 h59 [a] := (Keep.refl h0 [a]).wr W59 (Or.inl (List.mem_of_getElem? (i := 0) rfl))
  have N59 := Fr.snoc X59 N0 g_a
  refine w_ret0 X59 hx hlk hret (dB d11_5) (by decide) (by decide) ?_
  rw [e59]
  exact ⟨rfl, N59, K59, F61, F62, F63, F64, F65, F66, F67, F68, F69, F70⟩
theorem ef_10 (m : MethodId) (x0 : Addr) (x1 : Int32) : entryFrame m #[(.ref x0), (.int x1)] 2 = mkF m 0 #[.val (.ref x0), .val (.int x1)] [] := by first | (simp [entryFrame, mkF, argsToLocals, Value.category]; done) | rfl
def Q10 (Z : State) (a : Addr) (xb : Int32) (x_records : Int64) (x_blockOk : Int64) (x_blockBad : Int64) (x_payloadOk : Int64) (x_payloadCoded : Int64) (x_payloadBad : Int64) (x_payloadUnchecked : Int64) (x_trailerBad : Int64) (x_segmentBad : Int64) (x_cut : Int32) (h0 : Heap) (n0 : Nat) (v : Option Value) (h : Heap) (L : List Loc) : Prop := ∃ y : Int64, ∃ yb : Int64, ((xb.toInt = 0 ∧ y.toInt = x_blockOk.toInt ∧ yb.toInt = x_blockBad.toInt + 1) ∨ (xb.toInt ≠ 0 ∧ y.toInt = x_blockOk.toInt + 1 ∧ yb.toInt = x_blockBad.toInt)) ∧ v = none ∧ Fr n0 L ∧ Keep h0 h [a] ∧ Fld Z h a cN_0 "records" "J" (.long x_records) ∧ Fld Z h a cN_0 "blockOk" "J" (.long y) ∧ Fld Z h a cN_0 "blockBad" "J" (.long yb) ∧ Fld Z h a cN_0 "payloadOk" "J" (.long x_payloadOk) ∧ Fld Z h a cN_0 "payloadCoded" "J" (.long x_payloadCoded) ∧ Fld Z h a cN_0 "payloadBad" "J" (.long x_payloadBad) ∧ Fld Z h a cN_0 "payloadUnchecked" "J" (.long x_payloadUnchecked) ∧ Fld Z h a cN_0 "trailerBad" "J" (.long x_trailerBad) ∧ Fld Z h a cN_0 "segmentBad" "J" (.long x_segmentBad) ∧ Fld Z h a cN_0 "cut" "Z" (.int x_cut)
set_option maxRecDepth 65536 in
set_option maxHeartbeats 40000000 in
theorem rm10 (l : Launch) (Z : State) (a0 : Array Value) (hw : ∀ d ∈ tables_1, d.before a0 Z = true) (ws : List Jvm.Cond) (a : Addr) (xb : Int32) (x_records : Int64) (x_blockOk : Int64) (x_blockBad : Int64) (x_payloadOk : Int64) (x_payloadCoded : Int64) (x_payloadBad : Int64) (x_payloadUnchecked : Int64) (x_trailerBad : Int64) (x_segmentBad : Int64) (x_cut : Int32) (h0 : Heap) (n0 : Nat) (Z0 : n0 ≤ h0.size) (E_a : Exa Z h0 a cN_0) (F_records : Fld Z h0 a cN_0 "records" "J" (.long x_records)) (F_blockOk : Fld Z h0 a cN_0 "blockOk" "J" (.long x_blockOk)) (F_blockBad : Fld Z h0 a cN_0 "blockBad" "J" (.long x_blockBad)) (F_payloadOk : Fld Z h0 a cN_0 "payloadOk" "J" (.long x_payloadOk)) (F_payloadCoded : Fld Z h0 a cN_0 "payloadCoded" "J" (.long x_payloadCoded)) (F_payloadBad : Fld Z h0 a cN_0 "payloadBad" "J" (.long x_payloadBad)) (F_payloadUnchecked : Fld Z h0 a cN_0 "payloadUnchecked" "J" (.long x_payloadUnchecked)) (F_trailerBad : Fld Z h0 a cN_0 "trailerBad" "J" (.long x_trailerBad)) (F_segmentBad : Fld Z h0 a cN_0 "segmentBad" "J" (.long x_segmentBad)) (F_cut : Fld Z h0 a cN_0 "cut" "Z" (.int x_cut)) (g_a : n0 ≤ a) (p_blockOk : 0 ≤ x_blockOk.toInt ∧ x_blockOk.toInt < 1000) (p_blockBad : 0 ≤ x_blockBad.toInt ∧ x_blockBad.toInt < 1000) :
    CT l mN_10 prog_7_method_14_code 2 none ws ({ frames := 0, cells := 0, slots := 0, locals := 0 } : Room) #[(.ref a), (.int xb)] Z h0 (Q10 Z a xb x_records x_blockOk x_blockBad x_payloadOk x_payloadCoded x_payloadBad x_payloadUnchecked x_trailerBad x_segmentBad x_cut h0 n0) := by
  refine body_of (plainFor_of_name pn_0) ?_
  intro p e s m below meth c s₁ hx dB hret hlk hml hown0 hnm X0 e0 hZ
  have hown : s.vm.findClass cN_0 = some m.cls := hown0
  have N0 := Fr.nil n0
  rw [ef_10]
  show Wk p e below (FN s (Q10 Z a xb x_records x_blockOk x_blockBad x_payloadOk x_payloadCoded x_payloadBad x_payloadUnchecked x_trailerBad x_segmentBad x_cut h0 n0) 0 0) s₁ (mkF m 0 #[.val (.ref a), .val (.int xb)] [])
  have r_xb := rng32 xb
  refine w_iloadN X0 hx xb (dB d10_0) 1 rfl rfl ?_
  refine w_if_eq X0 hx xb.toInt rfl (dB d10_1) 17 4 (fun c71 => ?_) (fun c71 => ?_)
  ·refine w_aloadN X0 hx (.ref a) (dB d10_17) 18 rfl rfl rfl ?_
   refine w_dup X0 hx (dB d10_18) 19 rfl rfl ?_
   refine w_getF X0 hx hZ hown e0 (host := "") (Or.inl (tw_34 hw)) Via.refl F_blockBad (dB d10_19) 22 rfl (fun T72 X72 e72 => ?_)
   refine w_lconst X72 hx (dB d10_22) 23 rfl (1 : Int64) (by decide) ?_
   obtain ⟨v73, e73⟩ : ∃ z : Int64, z = x_blockBad + (1 : Int64) := ⟨_, rfl⟩
   have n73 : v73.toInt = x_blockBad.toInt + 1 := by rw [e73]; exact laddX rfl (by decide) (by omega) (by omega)
   refine w_ladd X72 hx (dB d10_23) 24 rfl e73 ?_
   refine w_putF X72 hx hZ hown e72 (host := "") (Or.inl (tw_34 hw)) Via.refl F_blockBad E_a (Or.inl (tw_35 hw)) (tw_2 hw) (ty := .long) (by decide) rfl rfl (dB d10_24) 27 rfl (fun T74 h74 X74 e74 W74 => ?_)
   have F75 : Exa Z h74 a cN_0 := E_a.wr W74
   have F76 : Fld Z h74 a cN_0 "records" "J" (.long x_records) := F_records.other W74 (Or.inr (slot_ne (Or.inl (tw_60 hw)) (Or.inl (tw_35 hw)) (by decide) (t := .long) (t' := .long) (by decide) (by decide)))
   have F77 : Fld Z h74 a cN_0 "blockOk" "J" (.long x_blockOk) := F_blockOk.other W74 (Or.inr (slot_ne (Or.inl (tw_74 hw)) (Or.inl (tw_35 hw)) (by decide) (t := .long) (t' := .long) (by decide) (by decide)))
   have F78 : Fld Z h74 a cN_0 "blockBad" "J" (.long v73) := F_blockBad.same W74
   have F79 : Fld Z h74 a cN_0 "payloadOk" "J" (.long x_payloadOk) := F_payloadOk.other W74 (Or.inr (slot_ne (Or.inl (tw_39 hw)) (Or.inl (tw_35 hw)) (by decide) (t := .long) (t' := .long) (by decide) (by decide)))
   have F80 : Fld Z h74 a cN_0 "payloadCoded" "J" (.long x_payloadCoded) := F_payloadCoded.other W74 (Or.inr (slot_ne (Or.inl (tw_78 hw)) (Or.inl (tw_35 hw)) (by decide) (t := .long) (t' := .long) (by decide) (by decide)))
   have F81 : Fld Z h74 a cN_0 "payloadBad" "J" (.long x_payloadBad) := F_payloadBad.other W74 (Or.inr (slot_ne (Or.inl (tw_28 hw)) (Or.inl (tw_35 hw)) (by decide) (t := .long) (t' := .long) (by decide) (by decide)))
   have F82 : Fld Z h74 a cN_0 "payloadUnchecked" "J" (.long x_payloadUnchecked) := F_payloadUnchecked.other W74 (Or.inr (slot_ne (Or.inl (tw_67 hw)) (Or.inl (tw_35 hw)) (by decide) (t := .long) (t' := .long) (by decide) (by decide)))
   have F83 : Fld Z h74 a cN_0 "trailerBad" "J" (.long x_trailerBad) := F_trailerBad.other W74 (Or.inr (slot_ne (Or.inl (tw_46 hw)) (Or.inl (tw_35 hw)) (by decide) (t := .long) (t' := .long) (by decide) (by decide)))
   have F84 : Fld Z h74 a cN_0 "segmentBad" "J" (.long x_segmentBad) := F_segmentBad.other W74 (Or.inr (slot_ne (Or.inl (tw_53 hw)) (Or.inl (tw_35 hw)) (by decide) (t := .long) (t' := .long) (by decide) (by decide)))
   have F85 : Fld Z h74 a cN_0 "cut" "Z" (.int x_cut) := F_cut.other W74 (Or.inr (slot_ne (Or.inl (tw_85 hw)) (Or.inl (tw_35 hw)) (by decide) (t := .boolean) (t' := .long) (by decide) (by decide)))
   have Z74 : n0 ≤ h74.size := by rw [W74.size]; exact Z0
   have K74 : Keep h0 h74 [a] := (Keep.refl h0 [a]).wr W74 (Or.inl (List.mem_of_getElem? (i := 0) rfl))
   have N74 := Fr.snoc X74 N0 g_a
   refine w_ret0 X74 hx hlk hret (dB d10_27) (by decide) (by decide) ?_
   rw [e74]
   exact ⟨x_blockOk, v73, by omega, rfl, N74, K74, F76, F77, F78, F79, F80, F81, F82, F83, F84, F85⟩
  ·refine w_aloadN X0 hx (.ref a) (dB d10_4) 5 rfl rfl rfl ?_
   refine w_dup X0 hx (dB d10_5) 6 rfl rfl ?_
   refine w_getF X0 hx hZ hown e0 (host := "") (Or.inl (tw_73 hw)) Via.refl F_blockOk (dB d10_6) 9 rfl (fun T86 X86 e86 => ?_)
   refine w_lconst X86 hx (dB d10_9) 10 rfl (1 : Int64) (by decide) ?_
   obtain ⟨v87, e87⟩ : ∃ z : Int64, z = x_blockOk + (1 : Int64) := ⟨_, rfl⟩
   have n87 : v87.toInt = x_blockOk.toInt + 1 := by rw [e87]; exact laddX rfl (by decide) (by omega) (by omega)
   refine w_ladd X86 hx (dB d10_10) 11 rfl e87 ?_
   refine w_putF X86 hx hZ hown e86 (host := "") (Or.inl (tw_73 hw)) Via.refl F_blockOk E_a (Or.inl (tw_74 hw)) (tw_2 hw) (ty := .long) (by decide) rfl rfl (dB d10_11) 14 rfl (fun T88 h88 X88 e88 W88 => ?_)
   have F89 : Exa Z h88 a cN_0 := E_a.wr W88
   have F90 : Fld Z h88 a cN_0 "records" "J" (.long x_records) := F_records.other W88 (Or.inr (slot_ne (Or.inl (tw_60 hw)) (Or.inl (tw_74 hw)) (by decide) (t := .long) (t' := .long) (by decide) (by decide)))
   have F91 : Fld Z h88 a cN_0 "blockOk" "J" (.long v87) := F_blockOk.same W88
   have F92 : Fld Z h88 a cN_0 "blockBad" "J" (.long x_blockBad) := F_blockBad.other W88 (Or.inr (slot_ne (Or.inl (tw_35 hw)) (Or.inl (tw_74 hw)) (by decide) (t := .long) (t' := .long) (by decide) (by decide)))
   have F93 : Fld Z h88 a cN_0 "payloadOk" "J" (.long x_payloadOk) := F_payloadOk.other W88 (Or.inr (slot_ne (Or.inl (tw_39 hw)) (Or.inl (tw_74 hw)) (by decide) (t := .long) (t' := .long) (by decide) (by decide)))
   have F94 : Fld Z h88 a cN_0 "payloadCoded" "J" (.long x_payloadCoded) := F_payloadCoded.other W88 (Or.inr (slot_ne (Or.inl (tw_78 hw)) (Or.inl (tw_74 hw)) (by decide) (t := .long) (t' := .long) (by decide) (by decide)))
   have F95 : Fld Z h88 a cN_0 "payloadBad" "J" (.long x_payloadBad) := F_payloadBad.other W88 (Or.inr (slot_ne (Or.inl (tw_28 hw)) (Or.inl (tw_74 hw)) (by decide) (t := .long) (t' := .long) (by decide) (by decide)))
   have F96 : Fld Z h88 a cN_0 "payloadUnchecked" "J" (.long x_payloadUnchecked) := F_payloadUnchecked.other W88 (Or.inr (slot_ne (Or.inl (tw_67 hw)) (Or.inl (tw_74 hw)) (by decide) (t := .long) (t' := .long) (by decide) (by decide)))
   have F97 : Fld Z h88 a cN_0 "trailerBad" "J" (.long x_trailerBad) := F_trailerBad.other W88 (Or.inr (slot_ne (Or.inl (tw_46 hw)) (Or.inl (tw_74 hw)) (by decide) (t := .long) (t' := .long) (by decide) (by decide)))
   have F98 : Fld Z h88 a cN_0 "segmentBad" "J" (.long x_segmentBad) := F_segmentBad.other W88 (Or.inr (slot_ne (Or.inl (tw_53 hw)) (Or.inl (tw_74 hw)) (by decide) (t := .long) (t' := .long) (by decide) (by decide)))
   have F99 : Fld Z h88 a cN_0 "cut" "Z" (.int x_cut) := F_cut.other W88 (Or.inr (slot_ne (Or.inl (tw_85 hw)) (Or.inl (tw_74 hw)) (by decide) (t := .boolean) (t' := .long) (by decide) (by decide)))
   have Z88 : n0 ≤ h88.size := by rw [W88.size]; exact Z0
   have K88 : Keep h0 h88 [a] := (Keep.refl h0 [a]).wr W88 (Or.inl (List.mem_of_getElem? (i := 0) rfl))
   have N88 := Fr.snoc X88 N0 g_a
   refine w_goto X88 hx (dB d10_14) 27 ?_
   refine w_ret0 X88 hx hlk hret (dB d10_27) (by decide) (by decide) ?_
   rw [e88]
   exact ⟨v87, x_blockBad, by omega, rfl, N88, K88, F90, F91, F92, F93, F94, F95, F96, F97, F98, F99⟩
theorem ef_3g0 (m : MethodId) (x0 : Addr) (x1 : Addr) : entryFrame m #[(.ref x0), (.ref x1)] 2 = mkF m 0 #[.val (.ref x0), .val (.ref x1)] [] := by first | (simp [entryFrame, mkF, argsToLocals, Value.category]; done) | rfl
def Q3g0 (Z : State) (a : Addr) (gr : Addr) (x_records : Int64) (x_blockOk : Int64) (x_blockBad : Int64) (x_payloadOk : Int64) (x_payloadCoded : Int64) (x_payloadBad : Int64) (x_payloadUnchecked : Int64) (x_trailerBad : Int64) (x_segmentBad : Int64) (x_cut : Int32) (h0 : Heap) (n0 : Nat) (v : Option Value) (h : Heap) (L : List Loc) : Prop := ∃ y : Int64, (y.toInt = x_payloadOk.toInt + 1) ∧ v = none ∧ Fr n0 L ∧ Keep h0 h [a] ∧ Fld Z h a cN_0 "records" "J" (.long x_records) ∧ Fld Z h a cN_0 "blockOk" "J" (.long x_blockOk) ∧ Fld Z h a cN_0 "blockBad" "J" (.long x_blockBad) ∧ Fld Z h a cN_0 "payloadOk" "J" (.long y) ∧ Fld Z h a cN_0 "payloadCoded" "J" (.long x_payloadCoded) ∧ Fld Z h a cN_0 "payloadBad" "J" (.long x_payloadBad) ∧ Fld Z h a cN_0 "payloadUnchecked" "J" (.long x_payloadUnchecked) ∧ Fld Z h a cN_0 "trailerBad" "J" (.long x_trailerBad) ∧ Fld Z h a cN_0 "segmentBad" "J" (.long x_segmentBad) ∧ Fld Z h a cN_0 "cut" "Z" (.int x_cut)
set_option maxRecDepth 65536 in
set_option maxHeartbeats 40000000 in
theorem rm3g0 (l : Launch) (Z : State) (a0 : Array Value) (hw : ∀ d ∈ tables_1, d.before a0 Z = true) (ws : List Jvm.Cond) (a : Addr) (gr : Addr) (x_records : Int64) (x_blockOk : Int64) (x_blockBad : Int64) (x_payloadOk : Int64) (x_payloadCoded : Int64) (x_payloadBad : Int64) (x_payloadUnchecked : Int64) (x_trailerBad : Int64) (x_segmentBad : Int64) (x_cut : Int32) (h0 : Heap) (n0 : Nat) (Z0 : n0 ≤ h0.size) (E_a : Exa Z h0 a cN_0) (F_records : Fld Z h0 a cN_0 "records" "J" (.long x_records)) (F_blockOk : Fld Z h0 a cN_0 "blockOk" "J" (.long x_blockOk)) (F_blockBad : Fld Z h0 a cN_0 "blockBad" "J" (.long x_blockBad)) (F_payloadOk : Fld Z h0 a cN_0 "payloadOk" "J" (.long x_payloadOk)) (F_payloadCoded : Fld Z h0 a cN_0 "payloadCoded" "J" (.long x_payloadCoded)) (F_payloadBad : Fld Z h0 a cN_0 "payloadBad" "J" (.long x_payloadBad)) (F_payloadUnchecked : Fld Z h0 a cN_0 "payloadUnchecked" "J" (.long x_payloadUnchecked)) (F_trailerBad : Fld Z h0 a cN_0 "trailerBad" "J" (.long x_trailerBad)) (F_segmentBad : Fld Z h0 a cN_0 "segmentBad" "J" (.long x_segmentBad)) (F_cut : Fld Z h0 a cN_0 "cut" "Z" (.int x_cut)) (E_gr : Exa Z h0 gr cN_2) (F_ordinal_gr : Fld Z h0 gr cN_1 "ordinal" "I" (.int (0 : Int32))) (g_a : n0 ≤ a) (p_payloadOk : 0 ≤ x_payloadOk.toInt ∧ x_payloadOk.toInt < 1000) :
    CT l mN_3 prog_7_method_15_code 2 none ws ({ frames := 1, cells := 0, slots := 0, locals := 12 } : Room) #[(.ref a), (.ref gr)] Z h0 (Q3g0 Z a gr x_records x_blockOk x_blockBad x_payloadOk x_payloadCoded x_payloadBad x_payloadUnchecked x_trailerBad x_segmentBad x_cut h0 n0) := by
  refine body_of (plainFor_of_name pn_0) ?_
  intro p e s m below meth c s₁ hx dB hret hlk hml hown0 hnm X0 e0 hZ
  have hown : s.vm.findClass cN_0 = some m.cls := hown0
  have N0 := Fr.nil n0
  rw [ef_3g0]
  show Wk p e below (FN s (Q3g0 Z a gr x_records x_blockOk x_blockBad x_payloadOk x_payloadCoded x_payloadBad x_payloadUnchecked x_trailerBad x_segmentBad x_cut h0 n0) 0 0) s₁ (mkF m 0 #[.val (.ref a), .val (.ref gr)] [])
  refine w_aloadN X0 hx (.ref gr) (dB d3_0) 1 rfl rfl rfl ?_
  refine w_virtUp X0 hx hZ hown e0 (rm4 l Z a0 hw [] gr (0 : Int32) h0 n0 Z0 F_ordinal_gr) (tw_18 hw) (tw_19 hw) (tw_20 hw) (by decide) (tw_22 hw) (tw_21 hw) (tw_23 hw) (tw_24 hw) gr E_gr (by rw [hml]; rfl) [] [] (lenOf pd_0 rfl) rfl rfl (by decide) 0 rfl (by decide) (by decide) (by decide) (dB d3_1) 4 rfl (fun r100 T100 L100 X100 q100 => ?_)
  obtain ⟨rfl, Nq100, eq100⟩ := q100
  have N100 := Fr.app N0 Nq100
  dsimp only [Option.toList_some, Option.toList_none, List.cons_append, List.nil_append]
  refine w_lookHit (a := 0) (off := 28) X100 hx 0 (by decide) (dB d3_4) (by decide) (by decide) 32 (by decide) (by decide) ?_
  refine w_aloadN X100 hx (.ref a) (dB d3_32) 33 rfl rfl rfl ?_
  refine w_dup X100 hx (dB d3_33) 34 rfl rfl ?_
  refine w_getF X100 hx hZ hown eq100 (host := "") (Or.inl (tw_38 hw)) Via.refl F_payloadOk (dB d3_34) 37 rfl (fun T101 X101 e101 => ?_)
  refine w_lconst X101 hx (dB d3_37) 38 rfl (1 : Int64) (by decide) ?_
  obtain ⟨v102, e102⟩ : ∃ z : Int64, z = x_payloadOk + (1 : Int64) := ⟨_, rfl⟩
  have n102 : v102.toInt = x_payloadOk.toInt + 1 := by rw [e102]; exact laddX rfl (by decide) (by omega) (by omega)
  refine w_ladd X101 hx (dB d3_38) 39 rfl e102 ?_
  refine w_putF X101 hx hZ hown e101 (host := "") (Or.inl (tw_38 hw)) Via.refl F_payloadOk E_a (Or.inl (tw_39 hw)) (tw_2 hw) (ty := .long) (by decide) rfl rfl (dB d3_39) 42 rfl (fun T103 h103 X103 e103 W103 => ?_)
  have F104 : Exa Z h103 a cN_0 := E_a.wr W103
  have F105 : Fld Z h103 a cN_0 "records" "J" (.long x_records) := F_records.other W103 (Or.inr (slot_ne (Or.inl (tw_60 hw)) (Or.inl (tw_39 hw)) (by decide) (t := .long) (t' := .long) (by decide) (by decide)))
  have F106 : Fld Z h103 a cN_0 "blockOk" "J" (.long x_blockOk) := F_blockOk.other W103 (Or.inr (slot_ne (Or.inl (tw_74 hw)) (Or.inl (tw_39 hw)) (by decide) (t := .long) (t' := .long) (by decide) (by decide)))
  have F107 : Fld Z h103 a cN_0 "blockBad" "J" (.long x_blockBad) := F_blockBad.other W103 (Or.inr (slot_ne (Or.inl (tw_35 hw)) (Or.inl (tw_39 hw)) (by decide) (t := .long) (t' := .long) (by decide) (by decide)))
  have F108 : Fld Z h103 a cN_0 "payloadOk" "J" (.long v102) := F_payloadOk.same W103
  have F109 : Fld Z h103 a cN_0 "payloadCoded" "J" (.long x_payloadCoded) := F_payloadCoded.other W103 (Or.inr (slot_ne (Or.inl (tw_78 hw)) (Or.inl (tw_39 hw)) (by decide) (t := .long) (t' := .long) (by decide) (by decide)))
  have F110 : Fld Z h103 a cN_0 "payloadBad" "J" (.long x_payloadBad) := F_payloadBad.other W103 (Or.inr (slot_ne (Or.inl (tw_28 hw)) (Or.inl (tw_39 hw)) (by decide) (t := .long) (t' := .long) (by decide) (by decide)))
  have F111 : Fld Z h103 a cN_0 "payloadUnchecked" "J" (.long x_payloadUnchecked) := F_payloadUnchecked.other W103 (Or.inr (slot_ne (Or.inl (tw_67 hw)) (Or.inl (tw_39 hw)) (by decide) (t := .long) (t' := .long) (by decide) (by decide)))
  have F112 : Fld Z h103 a cN_0 "trailerBad" "J" (.long x_trailerBad) := F_trailerBad.other W103 (Or.inr (slot_ne (Or.inl (tw_46 hw)) (Or.inl (tw_39 hw)) (by decide) (t := .long) (t' := .long) (by decide) (by decide)))
  have F113 : Fld Z h103 a cN_0 "segmentBad" "J" (.long x_segmentBad) := F_segmentBad.other W103 (Or.inr (slot_ne (Or.inl (tw_53 hw)) (Or.inl (tw_39 hw)) (by decide) (t := .long) (t' := .long) (by decide) (by decide)))
  have F114 : Fld Z h103 a cN_0 "cut" "Z" (.int x_cut) := F_cut.other W103 (Or.inr (slot_ne (Or.inl (tw_85 hw)) (Or.inl (tw_39 hw)) (by decide) (t := .boolean) (t' := .long) (by decide) (by decide)))
  have F115 : Exa Z h103 gr cN_2 := E_gr.wr W103
  have F116 : Fld Z h103 gr cN_1 "ordinal" "I" (.int (0 : Int32)) := F_ordinal_gr.other W103 (Or.inl (ne_exa E_gr E_a (by decide)))
  have Z103 : n0 ≤ h103.size := by rw [W103.size]; exact Z0
  have K103 : Keep h0 h103 [a] := (Keep.refl h0 [a]).wr W103 (Or.inl (List.mem_of_getElem? (i := 0) rfl))
  have N103 := Fr.snoc X103 N100 g_a
  refine w_goto X103 hx (dB d3_42) 68 ?_
  refine w_ret0 X103 hx hlk hret (dB d3_68) (by decide) (by decide) ?_
  rw [e103]
  exact ⟨v102, by omega, rfl, N103, K103, F105, F106, F107, F108, F109, F110, F111, F112, F113, F114⟩
theorem ef_3g1 (m : MethodId) (x0 : Addr) (x1 : Addr) : entryFrame m #[(.ref x0), (.ref x1)] 2 = mkF m 0 #[.val (.ref x0), .val (.ref x1)] [] := by first | (simp [entryFrame, mkF, argsToLocals, Value.category]; done) | rfl
def Q3g1 (Z : State) (a : Addr) (gr : Addr) (x_records : Int64) (x_blockOk : Int64) (x_blockBad : Int64) (x_payloadOk : Int64) (x_payloadCoded : Int64) (x_payloadBad : Int64) (x_payloadUnchecked : Int64) (x_trailerBad : Int64) (x_segmentBad : Int64) (x_cut : Int32) (h0 : Heap) (n0 : Nat) (v : Option Value) (h : Heap) (L : List Loc) : Prop := ∃ y : Int64, (y.toInt = x_payloadCoded.toInt + 1) ∧ v = none ∧ Fr n0 L ∧ Keep h0 h [a] ∧ Fld Z h a cN_0 "records" "J" (.long x_records) ∧ Fld Z h a cN_0 "blockOk" "J" (.long x_blockOk) ∧ Fld Z h a cN_0 "blockBad" "J" (.long x_blockBad) ∧ Fld Z h a cN_0 "payloadOk" "J" (.long x_payloadOk) ∧ Fld Z h a cN_0 "payloadCoded" "J" (.long y) ∧ Fld Z h a cN_0 "payloadBad" "J" (.long x_payloadBad) ∧ Fld Z h a cN_0 "payloadUnchecked" "J" (.long x_payloadUnchecked) ∧ Fld Z h a cN_0 "trailerBad" "J" (.long x_trailerBad) ∧ Fld Z h a cN_0 "segmentBad" "J" (.long x_segmentBad) ∧ Fld Z h a cN_0 "cut" "Z" (.int x_cut)
set_option maxRecDepth 65536 in
set_option maxHeartbeats 40000000 in
theorem rm3g1 (l : Launch) (Z : State) (a0 : Array Value) (hw : ∀ d ∈ tables_1, d.before a0 Z = true) (ws : List Jvm.Cond) (a : Addr) (gr : Addr) (x_records : Int64) (x_blockOk : Int64) (x_blockBad : Int64) (x_payloadOk : Int64) (x_payloadCoded : Int64) (x_payloadBad : Int64) (x_payloadUnchecked : Int64) (x_trailerBad : Int64) (x_segmentBad : Int64) (x_cut : Int32) (h0 : Heap) (n0 : Nat) (Z0 : n0 ≤ h0.size) (E_a : Exa Z h0 a cN_0) (F_records : Fld Z h0 a cN_0 "records" "J" (.long x_records)) (F_blockOk : Fld Z h0 a cN_0 "blockOk" "J" (.long x_blockOk)) (F_blockBad : Fld Z h0 a cN_0 "blockBad" "J" (.long x_blockBad)) (F_payloadOk : Fld Z h0 a cN_0 "payloadOk" "J" (.long x_payloadOk)) (F_payloadCoded : Fld Z h0 a cN_0 "payloadCoded" "J" (.long x_payloadCoded)) (F_payloadBad : Fld Z h0 a cN_0 "payloadBad" "J" (.long x_payloadBad)) (F_payloadUnchecked : Fld Z h0 a cN_0 "payloadUnchecked" "J" (.long x_payloadUnchecked)) (F_trailerBad : Fld Z h0 a cN_0 "trailerBad" "J" (.long x_trailerBad)) (F_segmentBad : Fld Z h0 a cN_0 "segmentBad" "J" (.long x_segmentBad)) (F_cut : Fld Z h0 a cN_0 "cut" "Z" (.int x_cut)) (E_gr : Exa Z h0 gr cN_2) (F_ordinal_gr : Fld Z h0 gr cN_1 "ordinal" "I" (.int (1 : Int32))) (g_a : n0 ≤ a) (p_payloadCoded : 0 ≤ x_payloadCoded.toInt ∧ x_payloadCoded.toInt < 1000) :
    CT l mN_3 prog_7_method_15_code 2 none ws ({ frames := 1, cells := 0, slots := 0, locals := 12 } : Room) #[(.ref a), (.ref gr)] Z h0 (Q3g1 Z a gr x_records x_blockOk x_blockBad x_payloadOk x_payloadCoded x_payloadBad x_payloadUnchecked x_trailerBad x_segmentBad x_cut h0 n0) := by
  refine body_of (plainFor_of_name pn_0) ?_
  intro p e s m below meth c s₁ hx dB hret hlk hml hown0 hnm X0 e0 hZ
  have hown : s.vm.findClass cN_0 = some m.cls := hown0
  have N0 := Fr.nil n0
  rw [ef_3g1]
  show Wk p e below (FN s (Q3g1 Z a gr x_records x_blockOk x_blockBad x_payloadOk x_payloadCoded x_payloadBad x_payloadUnchecked x_trailerBad x_segmentBad x_cut h0 n0) 0 0) s₁ (mkF m 0 #[.val (.ref a), .val (.ref gr)] [])
  refine w_aloadN X0 hx (.ref gr) (dB d3_0) 1 rfl rfl rfl ?_
  refine w_virtUp X0 hx hZ hown e0 (rm4 l Z a0 hw [] gr (1 : Int32) h0 n0 Z0 F_ordinal_gr) (tw_18 hw) (tw_19 hw) (tw_20 hw) (by decide) (tw_22 hw) (tw_21 hw) (tw_23 hw) (tw_24 hw) gr E_gr (by rw [hml]; rfl) [] [] (lenOf pd_0 rfl) rfl rfl (by decide) 0 rfl (by decide) (by decide) (by decide) (dB d3_1) 4 rfl (fun r117 T117 L117 X117 q117 => ?_)
  obtain ⟨rfl, Nq117, eq117⟩ := q117
  have N117 := Fr.app N0 Nq117
  dsimp only [Option.toList_some, Option.toList_none, List.cons_append, List.nil_append]
  refine w_lookHit (a := 1) (off := 41) X117 hx 1 (by decide) (dB d3_4) (by decide) (by decide) 45 (by decide) (by decide) ?_
  refine w_aloadN X117 hx (.ref a) (dB d3_45) 46 rfl rfl rfl ?_
  refine w_dup X117 hx (dB d3_46) 47 rfl rfl ?_
  refine w_getF X117 hx hZ hown eq117 (host := "") (Or.inl (tw_77 hw)) Via.refl F_payloadCoded (dB d3_47) 50 rfl (fun T118 X118 e118 => ?_)
  refine w_lconst X118 hx (dB d3_50) 51 rfl (1 : Int64) (by decide) ?_
  obtain ⟨v119, e119⟩ : ∃ z : Int64, z = x_payloadCoded + (1 : Int64) := ⟨_, rfl⟩
  have n119 : v119.toInt = x_payloadCoded.toInt + 1 := by rw [e119]; exact laddX rfl (by decide) (by omega) (by omega)
  refine w_ladd X118 hx (dB d3_51) 52 rfl e119 ?_
  refine w_putF X118 hx hZ hown e118 (host := "") (Or.inl (tw_77 hw)) Via.refl F_payloadCoded E_a (Or.inl (tw_78 hw)) (tw_2 hw) (ty := .long) (by decide) rfl rfl (dB d3_52) 55 rfl (fun T120 h120 X120 e120 W120 => ?_)
  have F121 : Exa Z h120 a cN_0 := E_a.wr W120
  have F122 : Fld Z h120 a cN_0 "records" "J" (.long x_records) := F_records.other W120 (Or.inr (slot_ne (Or.inl (tw_60 hw)) (Or.inl (tw_78 hw)) (by decide) (t := .long) (t' := .long) (by decide) (by decide)))
  have F123 : Fld Z h120 a cN_0 "blockOk" "J" (.long x_blockOk) := F_blockOk.other W120 (Or.inr (slot_ne (Or.inl (tw_74 hw)) (Or.inl (tw_78 hw)) (by decide) (t := .long) (t' := .long) (by decide) (by decide)))
  have F124 : Fld Z h120 a cN_0 "blockBad" "J" (.long x_blockBad) := F_blockBad.other W120 (Or.inr (slot_ne (Or.inl (tw_35 hw)) (Or.inl (tw_78 hw)) (by decide) (t := .long) (t' := .long) (by decide) (by decide)))
  have F125 : Fld Z h120 a cN_0 "payloadOk" "J" (.long x_payloadOk) := F_payloadOk.other W120 (Or.inr (slot_ne (Or.inl (tw_39 hw)) (Or.inl (tw_78 hw)) (by decide) (t := .long) (t' := .long) (by decide) (by decide)))
  have F126 : Fld Z h120 a cN_0 "payloadCoded" "J" (.long v119) := F_payloadCoded.same W120
  have F127 : Fld Z h120 a cN_0 "payloadBad" "J" (.long x_payloadBad) := F_payloadBad.other W120 (Or.inr (slot_ne (Or.inl (tw_28 hw)) (Or.inl (tw_78 hw)) (by decide) (t := .long) (t' := .long) (by decide) (by decide)))
  have F128 : Fld Z h120 a cN_0 "payloadUnchecked" "J" (.long x_payloadUnchecked) := F_payloadUnchecked.other W120 (Or.inr (slot_ne (Or.inl (tw_67 hw)) (Or.inl (tw_78 hw)) (by decide) (t := .long) (t' := .long) (by decide) (by decide)))
  have F129 : Fld Z h120 a cN_0 "trailerBad" "J" (.long x_trailerBad) := F_trailerBad.other W120 (Or.inr (slot_ne (Or.inl (tw_46 hw)) (Or.inl (tw_78 hw)) (by decide) (t := .long) (t' := .long) (by decide) (by decide)))
  have F130 : Fld Z h120 a cN_0 "segmentBad" "J" (.long x_segmentBad) := F_segmentBad.other W120 (Or.inr (slot_ne (Or.inl (tw_53 hw)) (Or.inl (tw_78 hw)) (by decide) (t := .long) (t' := .long) (by decide) (by decide)))
  have F131 : Fld Z h120 a cN_0 "cut" "Z" (.int x_cut) := F_cut.other W120 (Or.inr (slot_ne (Or.inl (tw_85 hw)) (Or.inl (tw_78 hw)) (by decide) (t := .boolean) (t' := .long) (by decide) (by decide)))
  have F132 : Exa Z h120 gr cN_2 := E_gr.wr W120
  have F133 : Fld Z h120 gr cN_1 "ordinal" "I" (.int (1 : Int32)) := F_ordinal_gr.other W120 (Or.inl (ne_exa E_gr E_a (by decide)))
  have Z120 : n0 ≤ h120.size := by rw [W120.size]; exact Z0
  have K120 : Keep h0 h120 [a] := (Keep.refl h0 [a]).wr W120 (Or.inl (List.mem_of_getElem? (i := 0) rfl))
  have N120 := Fr.snoc X120 N117 g_a
  refine w_goto X120 hx (dB d3_55) 68 ?_
  refine w_ret0 X120 hx hlk hret (dB d3_68) (by decide) (by decide) ?_
  rw [e120]
  exact ⟨v119, by omega, rfl, N120, K120, F122, F123, F124, F125, F126, F127, F128, F129, F130, F131⟩
theorem ef_3g2 (m : MethodId) (x0 : Addr) (x1 : Addr) : entryFrame m #[(.ref x0), (.ref x1)] 2 = mkF m 0 #[.val (.ref x0), .val (.ref x1)] [] := by first | (simp [entryFrame, mkF, argsToLocals, Value.category]; done) | rfl
def Q3g2 (Z : State) (a : Addr) (gr : Addr) (x_records : Int64) (x_blockOk : Int64) (x_blockBad : Int64) (x_payloadOk : Int64) (x_payloadCoded : Int64) (x_payloadBad : Int64) (x_payloadUnchecked : Int64) (x_trailerBad : Int64) (x_segmentBad : Int64) (x_cut : Int32) (h0 : Heap) (n0 : Nat) (v : Option Value) (h : Heap) (L : List Loc) : Prop := ∃ y : Int64, (y.toInt = x_payloadBad.toInt + 1) ∧ v = none ∧ Fr n0 L ∧ Keep h0 h [a] ∧ Fld Z h a cN_0 "records" "J" (.long x_records) ∧ Fld Z h a cN_0 "blockOk" "J" (.long x_blockOk) ∧ Fld Z h a cN_0 "blockBad" "J" (.long x_blockBad) ∧ Fld Z h a cN_0 "payloadOk" "J" (.long x_payloadOk) ∧ Fld Z h a cN_0 "payloadCoded" "J" (.long x_payloadCoded) ∧ Fld Z h a cN_0 "payloadBad" "J" (.long y) ∧ Fld Z h a cN_0 "payloadUnchecked" "J" (.long x_payloadUnchecked) ∧ Fld Z h a cN_0 "trailerBad" "J" (.long x_trailerBad) ∧ Fld Z h a cN_0 "segmentBad" "J" (.long x_segmentBad) ∧ Fld Z h a cN_0 "cut" "Z" (.int x_cut)
set_option maxRecDepth 65536 in
set_option maxHeartbeats 40000000 in
theorem rm3g2 (l : Launch) (Z : State) (a0 : Array Value) (hw : ∀ d ∈ tables_1, d.before a0 Z = true) (ws : List Jvm.Cond) (a : Addr) (gr : Addr) (x_records : Int64) (x_blockOk : Int64) (x_blockBad : Int64) (x_payloadOk : Int64) (x_payloadCoded : Int64) (x_payloadBad : Int64) (x_payloadUnchecked : Int64) (x_trailerBad : Int64) (x_segmentBad : Int64) (x_cut : Int32) (h0 : Heap) (n0 : Nat) (Z0 : n0 ≤ h0.size) (E_a : Exa Z h0 a cN_0) (F_records : Fld Z h0 a cN_0 "records" "J" (.long x_records)) (F_blockOk : Fld Z h0 a cN_0 "blockOk" "J" (.long x_blockOk)) (F_blockBad : Fld Z h0 a cN_0 "blockBad" "J" (.long x_blockBad)) (F_payloadOk : Fld Z h0 a cN_0 "payloadOk" "J" (.long x_payloadOk)) (F_payloadCoded : Fld Z h0 a cN_0 "payloadCoded" "J" (.long x_payloadCoded)) (F_payloadBad : Fld Z h0 a cN_0 "payloadBad" "J" (.long x_payloadBad)) (F_payloadUnchecked : Fld Z h0 a cN_0 "payloadUnchecked" "J" (.long x_payloadUnchecked)) (F_trailerBad : Fld Z h0 a cN_0 "trailerBad" "J" (.long x_trailerBad)) (F_segmentBad : Fld Z h0 a cN_0 "segmentBad" "J" (.long x_segmentBad)) (F_cut : Fld Z h0 a cN_0 "cut" "Z" (.int x_cut)) (E_gr : Exa Z h0 gr cN_2) (F_ordinal_gr : Fld Z h0 gr cN_1 "ordinal" "I" (.int (2 : Int32))) (g_a : n0 ≤ a) (p_payloadBad : 0 ≤ x_payloadBad.toInt ∧ x_payloadBad.toInt < 1000) :
    CT l mN_3 prog_7_method_15_code 2 none ws ({ frames := 1, cells := 0, slots := 0, locals := 12 } : Room) #[(.ref a), (.ref gr)] Z h0 (Q3g2 Z a gr x_records x_blockOk x_blockBad x_payloadOk x_payloadCoded x_payloadBad x_payloadUnchecked x_trailerBad x_segmentBad x_cut h0 n0) := by
  refine body_of (plainFor_of_name pn_0) ?_
  intro p e s m below meth c s₁ hx dB hret hlk hml hown0 hnm X0 e0 hZ
  have hown : s.vm.findClass cN_0 = some m.cls := hown0
  have N0 := Fr.nil n0
  rw [ef_3g2]
  show Wk p e below (FN s (Q3g2 Z a gr x_records x_blockOk x_blockBad x_payloadOk x_payloadCoded x_payloadBad x_payloadUnchecked x_trailerBad x_segmentBad x_cut h0 n0) 0 0) s₁ (mkF m 0 #[.val (.ref a), .val (.ref gr)] [])
  refine w_aloadN X0 hx (.ref gr) (dB d3_0) 1 rfl rfl rfl ?_
  refine w_virtUp X0 hx hZ hown e0 (rm4 l Z a0 hw [] gr (2 : Int32) h0 n0 Z0 F_ordinal_gr) (tw_18 hw) (tw_19 hw) (tw_20 hw) (by decide) (tw_22 hw) (tw_21 hw) (tw_23 hw) (tw_24 hw) gr E_gr (by rw [hml]; rfl) [] [] (lenOf pd_0 rfl) rfl rfl (by decide) 0 rfl (by decide) (by decide) (by decide) (dB d3_1) 4 rfl (fun r134 T134 L134 X134 q134 => ?_)
  obtain ⟨rfl, Nq134, eq134⟩ := q134
  have N134 := Fr.app N0 Nq134
  dsimp only [Option.toList_some, Option.toList_none, List.cons_append, List.nil_append]
  refine w_lookMiss X134 hx 2 (by decide) (dB d3_4) (by decide) (by decide) 58 (by decide) (by decide) ?_
  refine w_aloadN X134 hx (.ref a) (dB d3_58) 59 rfl rfl rfl ?_
  refine w_dup X134 hx (dB d3_59) 60 rfl rfl ?_
  refine w_getF X134 hx hZ hown eq134 (host := "") (Or.inl (tw_27 hw)) Via.refl F_payloadBad (dB d3_60) 63 rfl (fun T135 X135 e135 => ?_)
  refine w_lconst X135 hx (dB d3_63) 64 rfl (1 : Int64) (by decide) ?_
  obtain ⟨v136, e136⟩ : ∃ z : Int64, z = x_payloadBad + (1 : Int64) := ⟨_, rfl⟩
  have n136 : v136.toInt = x_payloadBad.toInt + 1 := by rw [e136]; exact laddX rfl (by decide) (by omega) (by omega)
  refine w_ladd X135 hx (dB d3_64) 65 rfl e136 ?_
  refine w_putF X135 hx hZ hown e135 (host := "") (Or.inl (tw_27 hw)) Via.refl F_payloadBad E_a (Or.inl (tw_28 hw)) (tw_2 hw) (ty := .long) (by decide) rfl rfl (dB d3_65) 68 rfl (fun T137 h137 X137 e137 W137 => ?_)
  have F138 : Exa Z h137 a cN_0 := E_a.wr W137
  have F139 : Fld Z h137 a cN_0 "records" "J" (.long x_records) := F_records.other W137 (Or.inr (slot_ne (Or.inl (tw_60 hw)) (Or.inl (tw_28 hw)) (by decide) (t := .long) (t' := .long) (by decide) (by decide)))
  have F140 : Fld Z h137 a cN_0 "blockOk" "J" (.long x_blockOk) := F_blockOk.other W137 (Or.inr (slot_ne (Or.inl (tw_74 hw)) (Or.inl (tw_28 hw)) (by decide) (t := .long) (t' := .long) (by decide) (by decide)))
  have F141 : Fld Z h137 a cN_0 "blockBad" "J" (.long x_blockBad) := F_blockBad.other W137 (Or.inr (slot_ne (Or.inl (tw_35 hw)) (Or.inl (tw_28 hw)) (by decide) (t := .long) (t' := .long) (by decide) (by decide)))
  have F142 : Fld Z h137 a cN_0 "payloadOk" "J" (.long x_payloadOk) := F_payloadOk.other W137 (Or.inr (slot_ne (Or.inl (tw_39 hw)) (Or.inl (tw_28 hw)) (by decide) (t := .long) (t' := .long) (by decide) (by decide)))
  have F143 : Fld Z h137 a cN_0 "payloadCoded" "J" (.long x_payloadCoded) := F_payloadCoded.other W137 (Or.inr (slot_ne (Or.inl (tw_78 hw)) (Or.inl (tw_28 hw)) (by decide) (t := .long) (t' := .long) (by decide) (by decide)))
  have F144 : Fld Z h137 a cN_0 "payloadBad" "J" (.long v136) := F_payloadBad.same W137
  have F145 : Fld Z h137 a cN_0 "payloadUnchecked" "J" (.long x_payloadUnchecked) := F_payloadUnchecked.other W137 (Or.inr (slot_ne (Or.inl (tw_67 hw)) (Or.inl (tw_28 hw)) (by decide) (t := .long) (t' := .long) (by decide) (by decide)))
  have F146 : Fld Z h137 a cN_0 "trailerBad" "J" (.long x_trailerBad) := F_trailerBad.other W137 (Or.inr (slot_ne (Or.inl (tw_46 hw)) (Or.inl (tw_28 hw)) (by decide) (t := .long) (t' := .long) (by decide) (by decide)))
  have F147 : Fld Z h137 a cN_0 "segmentBad" "J" (.long x_segmentBad) := F_segmentBad.other W137 (Or.inr (slot_ne (Or.inl (tw_53 hw)) (Or.inl (tw_28 hw)) (by decide) (t := .long) (t' := .long) (by decide) (by decide)))
  have F148 : Fld Z h137 a cN_0 "cut" "Z" (.int x_cut) := F_cut.other W137 (Or.inr (slot_ne (Or.inl (tw_85 hw)) (Or.inl (tw_28 hw)) (by decide) (t := .boolean) (t' := .long) (by decide) (by decide)))
  have F149 : Exa Z h137 gr cN_2 := E_gr.wr W137
  have F150 : Fld Z h137 gr cN_1 "ordinal" "I" (.int (2 : Int32)) := F_ordinal_gr.other W137 (Or.inl (ne_exa E_gr E_a (by decide)))
  have Z137 : n0 ≤ h137.size := by rw [W137.size]; exact Z0
  have K137 : Keep h0 h137 [a] := (Keep.refl h0 [a]).wr W137 (Or.inl (List.mem_of_getElem? (i := 0) rfl))
  have N137 := Fr.snoc X137 N134 g_a
  refine w_ret0 X137 hx hlk hret (dB d3_68) (by decide) (by decide) ?_
  rw [e137]
  exact ⟨v136, by omega, rfl, N137, K137, F139, F140, F141, F142, F143, F144, F145, F146, F147, F148⟩
theorem ef_5 (m : MethodId) (x0 : Addr) : entryFrame m #[(.ref x0)] 1 = mkF m 0 #[.val (.ref x0)] [] := by first | (simp [entryFrame, mkF, argsToLocals, Value.category]; done) | rfl
def Q5 (Z : State) (a : Addr) (x_records : Int64) (x_blockOk : Int64) (x_blockBad : Int64) (x_payloadOk : Int64) (x_payloadCoded : Int64) (x_payloadBad : Int64) (x_payloadUnchecked : Int64) (x_trailerBad : Int64) (x_segmentBad : Int64) (x_cut : Int32) (h0 : Heap) (n0 : Nat) (v : Option Value) (h : Heap) (L : List Loc) : Prop := ∃ z : Int32, v = some (.int z) ∧ ((z.toInt = 1 ∧ (0 < x_blockBad.toInt ∨ 0 < x_payloadBad.toInt ∨ 0 < x_trailerBad.toInt ∨ 0 < x_segmentBad.toInt)) ∨ (z.toInt = 0 ∧ ¬ (0 < x_blockBad.toInt ∨ 0 < x_payloadBad.toInt ∨ 0 < x_trailerBad.toInt ∨ 0 < x_segmentBad.toInt))) ∧ Fr n0 L ∧ h = h0
set_option maxRecDepth 65536 in
set_option maxHeartbeats 40000000 in
theorem rm5 (l : Launch) (Z : State) (a0 : Array Value) (hw : ∀ d ∈ tables_1, d.before a0 Z = true) (ws : List Jvm.Cond) (a : Addr) (x_records : Int64) (x_blockOk : Int64) (x_blockBad : Int64) (x_payloadOk : Int64) (x_payloadCoded : Int64) (x_payloadBad : Int64) (x_payloadUnchecked : Int64) (x_trailerBad : Int64) (x_segmentBad : Int64) (x_cut : Int32) (h0 : Heap) (n0 : Nat) (Z0 : n0 ≤ h0.size) (F_records : Fld Z h0 a cN_0 "records" "J" (.long x_records)) (F_blockOk : Fld Z h0 a cN_0 "blockOk" "J" (.long x_blockOk)) (F_blockBad : Fld Z h0 a cN_0 "blockBad" "J" (.long x_blockBad)) (F_payloadOk : Fld Z h0 a cN_0 "payloadOk" "J" (.long x_payloadOk)) (F_payloadCoded : Fld Z h0 a cN_0 "payloadCoded" "J" (.long x_payloadCoded)) (F_payloadBad : Fld Z h0 a cN_0 "payloadBad" "J" (.long x_payloadBad)) (F_payloadUnchecked : Fld Z h0 a cN_0 "payloadUnchecked" "J" (.long x_payloadUnchecked)) (F_trailerBad : Fld Z h0 a cN_0 "trailerBad" "J" (.long x_trailerBad)) (F_segmentBad : Fld Z h0 a cN_0 "segmentBad" "J" (.long x_segmentBad)) (F_cut : Fld Z h0 a cN_0 "cut" "Z" (.int x_cut)) :
    CT l mN_5 prog_7_method_12_code 1 (some .boolean) ws ({ frames := 0, cells := 0, slots := 0, locals := 0 } : Room) #[(.ref a)] Z h0 (Q5 Z a x_records x_blockOk x_blockBad x_payloadOk x_payloadCoded x_payloadBad x_payloadUnchecked x_trailerBad x_segmentBad x_cut h0 n0) := by
  refine body_of (plainFor_of_name pn_0) ?_
  intro p e s m below meth c s₁ hx dB hret hlk hml hown0 hnm X0 e0 hZ
  have hown : s.vm.findClass cN_0 = some m.cls := hown0
  have N0 := Fr.nil n0
  rw [ef_5]
  show Wk p e below (FN s (Q5 Z a x_records x_blockOk x_blockBad x_payloadOk x_payloadCoded x_payloadBad x_payloadUnchecked x_trailerBad x_segmentBad x_cut h0 n0) 0 0) s₁ (mkF m 0 #[.val (.ref a)] [])
  refine w_aloadN X0 hx (.ref a) (dB d5_0) 1 rfl rfl rfl ?_
  refine w_getF X0 hx hZ hown e0 (host := "") (Or.inl (tw_34 hw)) Via.refl F_blockBad (dB d5_1) 4 rfl (fun T151 X151 e151 => ?_)
  refine w_lconst X151 hx (dB d5_4) 5 rfl (0 : Int64) (by decide) ?_
  obtain ⟨v152, e152⟩ : ∃ z : Int32, z = lcmpW x_blockBad (0 : Int64) := ⟨_, rfl⟩
  have n152 : (v152.toInt = -1 ∧ x_blockBad.toInt < 0) ∨ (v152.toInt = 0 ∧ x_blockBad.toInt = 0) ∨ (v152.toInt = 1 ∧ 0 < x_blockBad.toInt) := by rw [e152]; exact lcmpC _ _ rfl (by decide)
  refine w_lcmp X151 hx (dB d5_5) 6 rfl e152 ?_
  refine w_if_gt X151 hx v152.toInt rfl (dB d5_6) 36 9 (fun c153 => ?_) (fun c153 => ?_)
  ·refine w_iconst X151 hx (dB d5_36) 37 rfl (1 : Int32) (by decide) ?_
   refine w_goto X151 hx (dB d5_37) 41 ?_
   refine w_retN X151 hx hlk (t := .boolean) hret (by simp) (dB d5_41) (by decide) (by decide) ?_
   rw [e151]
   exact ⟨(1 : Int32), rfl, by have hz : (1 : Int32).toInt = 1 := (by decide); omega, N0, rfl⟩
  ·refine w_aloadN X151 hx (.ref a) (dB d5_9) 10 rfl rfl rfl ?_
   refine w_getF X151 hx hZ hown e151 (host := "") (Or.inl (tw_27 hw)) Via.refl F_payloadBad (dB d5_10) 13 rfl (fun T154 X154 e154 => ?_)
   refine w_lconst X154 hx (dB d5_13) 14 rfl (0 : Int64) (by decide) ?_
   obtain ⟨v155, e155⟩ : ∃ z : Int32, z = lcmpW x_payloadBad (0 : Int64) := ⟨_, rfl⟩
   have n155 : (v155.toInt = -1 ∧ x_payloadBad.toInt < 0) ∨ (v155.toInt = 0 ∧ x_payloadBad.toInt = 0) ∨ (v155.toInt = 1 ∧ 0 < x_payloadBad.toInt) := by rw [e155]; exact lcmpC _ _ rfl (by decide)
   refine w_lcmp X154 hx (dB d5_14) 15 rfl e155 ?_
   refine w_if_gt X154 hx v155.toInt rfl (dB d5_15) 36 18 (fun c156 => ?_) (fun c156 => ?_)
   ·refine w_iconst X154 hx (dB d5_36) 37 rfl (1 : Int32) (by decide) ?_
    refine w_goto X154 hx (dB d5_37) 41 ?_
    refine w_retN X154 hx hlk (t := .boolean) hret (by simp) (dB d5_41) (by decide) (by decide) ?_
    rw [e154]
    exact ⟨(1 : Int32), rfl, by have hz : (1 : Int32).toInt = 1 := (by decide); omega, N0, rfl⟩
   ·refine w_aloadN X154 hx (.ref a) (dB d5_18) 19 rfl rfl rfl ?_
    refine w_getF X154 hx hZ hown e154 (host := "") (Or.inl (tw_45 hw)) Via.refl F_trailerBad (dB d5_19) 22 rfl (fun T157 X157 e157 => ?_)
    refine w_lconst X157 hx (dB d5_22) 23 rfl (0 : Int64) (by decide) ?_
    obtain ⟨v158, e158⟩ : ∃ z : Int32, z = lcmpW x_trailerBad (0 : Int64) := ⟨_, rfl⟩
    have n158 : (v158.toInt = -1 ∧ x_trailerBad.toInt < 0) ∨ (v158.toInt = 0 ∧ x_trailerBad.toInt = 0) ∨ (v158.toInt = 1 ∧ 0 < x_trailerBad.toInt) := by rw [e158]; exact lcmpC _ _ rfl (by decide)
    refine w_lcmp X157 hx (dB d5_23) 24 rfl e158 ?_
    refine w_if_gt X157 hx v158.toInt rfl (dB d5_24) 36 27 (fun c159 => ?_) (fun c159 => ?_)
    ·refine w_iconst X157 hx (dB d5_36) 37 rfl (1 : Int32) (by decide) ?_
     refine w_goto X157 hx (dB d5_37) 41 ?_
     refine w_retN X157 hx hlk (t := .boolean) hret (by simp) (dB d5_41) (by decide) (by decide) ?_
     rw [e157]
     exact ⟨(1 : Int32), rfl, by have hz : (1 : Int32).toInt = 1 := (by decide); omega, N0, rfl⟩
    ·refine w_aloadN X157 hx (.ref a) (dB d5_27) 28 rfl rfl rfl ?_
     refine w_getF X157 hx hZ hown e157 (host := "") (Or.inl (tw_52 hw)) Via.refl F_segmentBad (dB d5_28) 31 rfl (fun T160 X160 e160 => ?_)
     refine w_lconst X160 hx (dB d5_31) 32 rfl (0 : Int64) (by decide) ?_
     obtain ⟨v161, e161⟩ : ∃ z : Int32, z = lcmpW x_segmentBad (0 : Int64) := ⟨_, rfl⟩
     have n161 : (v161.toInt = -1 ∧ x_segmentBad.toInt < 0) ∨ (v161.toInt = 0 ∧ x_segmentBad.toInt = 0) ∨ (v161.toInt = 1 ∧ 0 < x_segmentBad.toInt) := by rw [e161]; exact lcmpC _ _ rfl (by decide)
     refine w_lcmp X160 hx (dB d5_32) 33 rfl e161 ?_
     refine w_if_le X160 hx v161.toInt rfl (dB d5_33) 40 36 (fun c162 => ?_) (fun c162 => ?_)
     ·refine w_iconst X160 hx (dB d5_40) 41 rfl (0 : Int32) (by decide) ?_
      refine w_retN X160 hx hlk (t := .boolean) hret (by simp) (dB d5_41) (by decide) (by decide) ?_
      rw [e160]
      exact ⟨(0 : Int32), rfl, by have hz : (0 : Int32).toInt = 0 := (by decide); omega, N0, rfl⟩
     ·refine w_iconst X160 hx (dB d5_36) 37 rfl (1 : Int32) (by decide) ?_
      refine w_goto X160 hx (dB d5_37) 41 ?_
      refine w_retN X160 hx hlk (t := .boolean) hret (by simp) (dB d5_41) (by decide) (by decide) ?_
      rw [e160]
      exact ⟨(1 : Int32), rfl, by have hz : (1 : Int32).toInt = 1 := (by decide); omega, N0, rfl⟩
theorem ef_0 (m : MethodId) (x0 : Int32) (x1 : Int32) : entryFrame m #[(.int x0), (.int x1)] maxLocals = mkF m 0 #[.val (.int x0), .val (.int x1), .unset, .unset, .unset, .unset, .unset, .unset, .unset, .unset, .unset, .unset] [] := by first | (simp [entryFrame, mkF, argsToLocals, Value.category, maxLocals]; done) | rfl
def Q0 (Z : State) (fl : Int32) (pi : Int32) (st_BAD : Addr) (st_OK : Addr) (st_CODED : Addr) (h0 : Heap) (n0 : Nat) (v : Option Value) (h : Heap) (L : List Loc) : Prop := v = some (.int 1) ∧ Fr n0 L
set_option maxRecDepth 65536 in
set_option maxHeartbeats 40000000 in
theorem rm0 (l : Launch) (Z : State) (a0 : Array Value) (hw : ∀ d ∈ tables_1, d.before a0 Z = true) (ws : List Jvm.Cond) (fl : Int32) (pi : Int32) (st_BAD : Addr) (st_OK : Addr) (st_CODED : Addr) (h0 : Heap) (n0 : Nat) (Z0 : n0 ≤ h0.size) (S_st_BAD : Sta Z h0 cN_2 "BAD" cN_3 (.ref st_BAD)) (E_st_BAD : Exa Z h0 st_BAD cN_2) (S_st_OK : Sta Z h0 cN_2 "OK" cN_3 (.ref st_OK)) (E_st_OK : Exa Z h0 st_OK cN_2) (S_st_CODED : Sta Z h0 cN_2 "CODED" cN_3 (.ref st_CODED)) (E_st_CODED : Exa Z h0 st_CODED cN_2) (F_ordinal_st_BAD : Fld Z h0 st_BAD cN_1 "ordinal" "I" (.int (2 : Int32))) (F_ordinal_st_OK : Fld Z h0 st_OK cN_1 "ordinal" "I" (.int (0 : Int32))) (F_ordinal_st_CODED : Fld Z h0 st_CODED cN_1 "ordinal" "I" (.int (1 : Int32))) :
    MetFree l x (head1 (Jvm.Cond.code x code maxLocals ret :: ws) room_1) (fun as_ U => as_ = #[(.int fl), (.int pi)] ∧ Z.Warmed39 U.vm ∧ U.heap = h0) (fun _ _ _ _ _ => True) (fun _ U o U' => ∃ v L, o = .returned v ∧ Q0 Z fl pi st_BAD st_OK st_CODED h0 n0 v U'.heap L ∧ FrameEnd U o U' L 1 10) := by
  refine body_of (plainFor_of_name pn_2) ?_
  intro p e s m below meth c s₁ hx dB hret hlk hml hown0 hnm X0 e0 hZ
  have hown : s.vm.findClass cN_4 = some m.cls := hown0
  have N0 := Fr.nil n0
  rw [ef_0]
  show Wk p e below (FN s (Q0 Z fl pi st_BAD st_OK st_CODED h0 n0) 1 10) s₁ (mkF m 0 #[.val (.int fl), .val (.int pi), .unset, .unset, .unset, .unset, .unset, .unset, .unset, .unset, .unset, .unset] [])
  have r_fl := rng32 fl
  have r_pi := rng32 pi
  refine w_iloadN X0 hx fl (dB at_0) 1 rfl rfl ?_
  refine w_bipush X0 hx (dB at_1) 3 rfl (64 : Int32) (by decide) ?_
  obtain ⟨v163, e163⟩ : ∃ z : Int32, z = fl &&& (64 : Int32) := ⟨_, rfl⟩
  have n163 : 0 ≤ v163.toInt ∧ v163.toInt ≤ 64 := by rw [e163]; exact c_and fl (64 : Int32) (by decide)
  refine w_iand X0 hx (dB at_3) 4 rfl e163 ?_
  have J164 : ∀ (j164_0 : Int32), (0 ≤ j164_0.toInt ∧ j164_0.toInt ≤ 1) → Wk p e below (FN s (Q0 Z fl pi st_BAD st_OK st_CODED h0 n0) 1 10) s₁ (mkF m 12 #[.val (.int fl), .val (.int pi), .unset, .unset, .unset, .unset, .unset, .unset, .unset, .unset, .unset, .unset] [(.int j164_0)]) := by
   intro j164_0 f164
   refine w_istoreN X0 hx (dB at_12) 13 rfl #[.val (.int fl), .val (.int pi), .val (.int j164_0), .unset, .unset, .unset, .unset, .unset, .unset, .unset, .unset, .unset] rfl ?_
   refine w_iloadN X0 hx fl (dB at_13) 14 rfl rfl ?_
   refine w_iconst X0 hx (dB at_14) 15 rfl (1 : Int32) (by decide) ?_
   obtain ⟨v165, e165⟩ : ∃ z : Int32, z = fl &&& (1 : Int32) := ⟨_, rfl⟩
   have n165 : v165.toInt = fl.toInt % 2 := by rw [e165]; exact maskX 1 rfl (by decide) (by decide)
   refine w_iand X0 hx (dB at_15) 16 rfl e165 ?_
   have J166 : ∀ (j166_0 : Int32), (0 ≤ j166_0.toInt ∧ j166_0.toInt ≤ 1) → Wk p e below (FN s (Q0 Z fl pi st_BAD st_OK st_CODED h0 n0) 1 10) s₁ (mkF m 24 #[.val (.int fl), .val (.int pi), .val (.int j164_0), .unset, .unset, .unset, .unset, .unset, .unset, .unset, .unset, .unset] [(.int j166_0)]) := by
    intro j166_0 f166
    refine w_istoreN X0 hx (dB at_24) 25 rfl #[.val (.int fl), .val (.int pi), .val (.int j164_0), .val (.int j166_0), .unset, .unset, .unset, .unset, .unset, .unset, .unset, .unset] rfl ?_
    refine w_iloadN X0 hx fl (dB at_25) 26 rfl rfl ?_
    refine w_iconst X0 hx (dB at_26) 27 rfl (2 : Int32) (by decide) ?_
    obtain ⟨v167, e167⟩ : ∃ z : Int32, z = fl &&& (2 : Int32) := ⟨_, rfl⟩
    have n167 : 0 ≤ v167.toInt ∧ v167.toInt ≤ 2 := by rw [e167]; exact c_and fl (2 : Int32) (by decide)
    refine w_iand X0 hx (dB at_27) 28 rfl e167 ?_
    have J168 : ∀ (j168_0 : Int32), (0 ≤ j168_0.toInt ∧ j168_0.toInt ≤ 1) → Wk p e below (FN s (Q0 Z fl pi st_BAD st_OK st_CODED h0 n0) 1 10) s₁ (mkF m 36 #[.val (.int fl), .val (.int pi), .val (.int j164_0), .val (.int j166_0), .unset, .unset, .unset, .unset, .unset, .unset, .unset, .unset] [(.int j168_0)]) := by
     intro j168_0 f168
     refine w_istore X0 hx (dB at_36) 38 rfl #[.val (.int fl), .val (.int pi), .val (.int j164_0), .val (.int j166_0), .val (.int j168_0), .unset, .unset, .unset, .unset, .unset, .unset, .unset] rfl ?_
     refine w_iloadN X0 hx fl (dB at_38) 39 rfl rfl ?_
     refine w_iconst X0 hx (dB at_39) 40 rfl (4 : Int32) (by decide) ?_
     obtain ⟨v169, e169⟩ : ∃ z : Int32, z = fl &&& (4 : Int32) := ⟨_, rfl⟩
     have n169 : 0 ≤ v169.toInt ∧ v169.toInt ≤ 4 := by rw [e169]; exact c_and fl (4 : Int32) (by decide)
     refine w_iand X0 hx (dB at_40) 41 rfl e169 ?_
     have J170 : ∀ (j170_0 : Int32), (0 ≤ j170_0.toInt ∧ j170_0.toInt ≤ 1) → Wk p e below (FN s (Q0 Z fl pi st_BAD st_OK st_CODED h0 n0) 1 10) s₁ (mkF m 49 #[.val (.int fl), .val (.int pi), .val (.int j164_0), .val (.int j166_0), .val (.int j168_0), .unset, .unset, .unset, .unset, .unset, .unset, .unset] [(.int j170_0)]) := by
      intro j170_0 f170
      refine w_istore X0 hx (dB at_49) 51 rfl #[.val (.int fl), .val (.int pi), .val (.int j164_0), .val (.int j166_0), .val (.int j168_0), .val (.int j170_0), .unset, .unset, .unset, .unset, .unset, .unset] rfl ?_
      refine w_iloadN X0 hx fl (dB at_51) 52 rfl rfl ?_
      refine w_bipush X0 hx (dB at_52) 54 rfl (8 : Int32) (by decide) ?_
      obtain ⟨v171, e171⟩ : ∃ z : Int32, z = fl &&& (8 : Int32) := ⟨_, rfl⟩
      have n171 : 0 ≤ v171.toInt ∧ v171.toInt ≤ 8 := by rw [e171]; exact c_and fl (8 : Int32) (by decide)
      refine w_iand X0 hx (dB at_54) 55 rfl e171 ?_
      have J172 : ∀ (j172_0 : Int32), (0 ≤ j172_0.toInt ∧ j172_0.toInt ≤ 1) → Wk p e below (FN s (Q0 Z fl pi st_BAD st_OK st_CODED h0 n0) 1 10) s₁ (mkF m 63 #[.val (.int fl), .val (.int pi), .val (.int j164_0), .val (.int j166_0), .val (.int j168_0), .val (.int j170_0), .unset, .unset, .unset, .unset, .unset, .unset] [(.int j172_0)]) := by
       intro j172_0 f172
       refine w_istore X0 hx (dB at_63) 65 rfl #[.val (.int fl), .val (.int pi), .val (.int j164_0), .val (.int j166_0), .val (.int j168_0), .val (.int j170_0), .val (.int j172_0), .unset, .unset, .unset, .unset, .unset] rfl ?_
       refine w_iloadN X0 hx fl (dB at_65) 66 rfl rfl ?_
       refine w_bipush X0 hx (dB at_66) 68 rfl (16 : Int32) (by decide) ?_
       obtain ⟨v173, e173⟩ : ∃ z : Int32, z = fl &&& (16 : Int32) := ⟨_, rfl⟩
       have n173 : 0 ≤ v173.toInt ∧ v173.toInt ≤ 16 := by rw [e173]; exact c_and fl (16 : Int32) (by decide)
       refine w_iand X0 hx (dB at_68) 69 rfl e173 ?_
       have J174 : ∀ (j174_0 : Int32), (0 ≤ j174_0.toInt ∧ j174_0.toInt ≤ 1) → Wk p e below (FN s (Q0 Z fl pi st_BAD st_OK st_CODED h0 n0) 1 10) s₁ (mkF m 77 #[.val (.int fl), .val (.int pi), .val (.int j164_0), .val (.int j166_0), .val (.int j168_0), .val (.int j170_0), .val (.int j172_0), .unset, .unset, .unset, .unset, .unset] [(.int j174_0)]) := by
        intro j174_0 f174
        refine w_istore X0 hx (dB at_77) 79 rfl #[.val (.int fl), .val (.int pi), .val (.int j164_0), .val (.int j166_0), .val (.int j168_0), .val (.int j170_0), .val (.int j172_0), .val (.int j174_0), .unset, .unset, .unset, .unset] rfl ?_
        refine w_iloadN X0 hx fl (dB at_79) 80 rfl rfl ?_
        refine w_bipush X0 hx (dB at_80) 82 rfl (32 : Int32) (by decide) ?_
        obtain ⟨v175, e175⟩ : ∃ z : Int32, z = fl &&& (32 : Int32) := ⟨_, rfl⟩
        have n175 : 0 ≤ v175.toInt ∧ v175.toInt ≤ 32 := by rw [e175]; exact c_and fl (32 : Int32) (by decide)
        refine w_iand X0 hx (dB at_82) 83 rfl e175 ?_
        have J176 : ∀ (j176_0 : Int32), (0 ≤ j176_0.toInt ∧ j176_0.toInt ≤ 1) → Wk p e below (FN s (Q0 Z fl pi st_BAD st_OK st_CODED h0 n0) 1 10) s₁ (mkF m 91 #[.val (.int fl), .val (.int pi), .val (.int j164_0), .val (.int j166_0), .val (.int j168_0), .val (.int j170_0), .val (.int j172_0), .val (.int j174_0), .unset, .unset, .unset, .unset] [(.int j176_0)]) := by
         intro j176_0 f176
         refine w_istore X0 hx (dB at_91) 93 rfl #[.val (.int fl), .val (.int pi), .val (.int j164_0), .val (.int j166_0), .val (.int j168_0), .val (.int j170_0), .val (.int j172_0), .val (.int j174_0), .val (.int j176_0), .unset, .unset, .unset] rfl ?_
         refine w_iloadN X0 hx pi (dB at_93) 94 rfl rfl ?_
         refine w_ldc X0 hx hZ hown (tw_0 hw) (dB at_94) 96 rfl ?_
         obtain ⟨v177, e177⟩ : ∃ z : Int32, z = pi &&& (2147483647 : Int32) := ⟨_, rfl⟩
         have n177 : v177.toInt = pi.toInt % 2147483648 := by rw [e177]; exact maskX 31 rfl (by decide) (by decide)
         refine w_iand X0 hx (dB at_96) 97 rfl e177 ?_
         refine w_iconst X0 hx (dB at_97) 98 rfl (4 : Int32) (by decide) ?_
         obtain ⟨v178, e178⟩ : ∃ z : Int32, z = v177 % (4 : Int32) := ⟨_, rfl⟩
         have n178 : v178.toInt = v177.toInt % 4 := by rw [e178]; exact iremX rfl (by decide) (by omega)
         refine w_irem X0 hx (dB at_98) 99 rfl (by decide) e178 ?_
         refine w_istore X0 hx (dB at_99) 101 rfl #[.val (.int fl), .val (.int pi), .val (.int j164_0), .val (.int j166_0), .val (.int j168_0), .val (.int j170_0), .val (.int j172_0), .val (.int j174_0), .val (.int j176_0), .val (.int v178), .unset, .unset] rfl ?_
         refine w_new X0 hx hZ hown e0 (tw_1 hw) (tw_2 hw) (tw_3 hw) (by decide) (by decide) (dB at_101) 104 rfl (fun T179 h179 a179 X179 e179 g179 E179 A179 D179 => ?_)
         have ne_st_BAD_a179 : st_BAD ≠ a179 := Nat.ne_of_lt (Nat.lt_of_lt_of_le E_st_BAD.lt (Nat.le_of_eq g179.symm))
         have ne_st_OK_a179 : st_OK ≠ a179 := Nat.ne_of_lt (Nat.lt_of_lt_of_le E_st_OK.lt (Nat.le_of_eq g179.symm))
         have ne_st_CODED_a179 : st_CODED ≠ a179 := Nat.ne_of_lt (Nat.lt_of_lt_of_le E_st_CODED.lt (Nat.le_of_eq g179.symm))
         have g_a179 : n0 ≤ a179 := Nat.le_trans Z0 (Nat.le_of_eq g179.symm)
         have s_a179 : h0.size ≤ a179 := Nat.le_trans (Keep.refl h0 []).1 (Nat.le_of_eq g179.symm)
         have F180 : Sta Z h179 cN_2 "BAD" cN_3 (.ref st_BAD) := S_st_BAD.ext E179
         have F181 : Exa Z h179 st_BAD cN_2 := E_st_BAD.ext E179
         have F182 : Sta Z h179 cN_2 "OK" cN_3 (.ref st_OK) := S_st_OK.ext E179
         have F183 : Exa Z h179 st_OK cN_2 := E_st_OK.ext E179
         have F184 : Sta Z h179 cN_2 "CODED" cN_3 (.ref st_CODED) := S_st_CODED.ext E179
         have F185 : Exa Z h179 st_CODED cN_2 := E_st_CODED.ext E179
         have F186 : Fld Z h179 st_BAD cN_1 "ordinal" "I" (.int (2 : Int32)) := F_ordinal_st_BAD.ext E179
         have F187 : Fld Z h179 st_OK cN_1 "ordinal" "I" (.int (0 : Int32)) := F_ordinal_st_OK.ext E179
         have F188 : Fld Z h179 st_CODED cN_1 "ordinal" "I" (.int (1 : Int32)) := F_ordinal_st_CODED.ext E179
         have Z179 : n0 ≤ h179.size := Nat.le_trans Z0 E179.1
         have K179 : Keep h0 h179 [] := (Keep.refl h0 []).ext E179
         have F189 : Fld Z h179 a179 cN_0 "payloadBad" "J" (.long (0 : Int64)) := D179 (Or.inl (tw_28 hw)) (ty := .long) (by decide)
         have F190 : Fld Z h179 a179 cN_0 "blockBad" "J" (.long (0 : Int64)) := D179 (Or.inl (tw_35 hw)) (ty := .long) (by decide)
         have F191 : Fld Z h179 a179 cN_0 "payloadOk" "J" (.long (0 : Int64)) := D179 (Or.inl (tw_39 hw)) (ty := .long) (by decide)
         have F192 : Fld Z h179 a179 cN_0 "trailerBad" "J" (.long (0 : Int64)) := D179 (Or.inl (tw_46 hw)) (ty := .long) (by decide)
         have F193 : Fld Z h179 a179 cN_0 "segmentBad" "J" (.long (0 : Int64)) := D179 (Or.inl (tw_53 hw)) (ty := .long) (by decide)
         have F194 : Fld Z h179 a179 cN_0 "records" "J" (.long (0 : Int64)) := D179 (Or.inl (tw_60 hw)) (ty := .long) (by decide)
         have F195 : Fld Z h179 a179 cN_0 "payloadUnchecked" "J" (.long (0 : Int64)) := D179 (Or.inl (tw_67 hw)) (ty := .long) (by decide)
         have F196 : Fld Z h179 a179 cN_0 "blockOk" "J" (.long (0 : Int64)) := D179 (Or.inl (tw_74 hw)) (ty := .long) (by decide)
         have F197 : Fld Z h179 a179 cN_0 "payloadCoded" "J" (.long (0 : Int64)) := D179 (Or.inl (tw_78 hw)) (ty := .long) (by decide)
         have F198 : Fld Z h179 a179 cN_0 "cut" "Z" (.int (0 : Int32)) := D179 (Or.inl (tw_85 hw)) (ty := .boolean) (by decide)
         refine w_dup X179 hx (dB at_104) 105 rfl rfl ?_
         refine w_init X179 hx hZ rfl hown e179 (rm1 l Z a0 hw [] a179 h179 n0 Z179 ) (tw_4 hw) (tw_5 hw) (tw_3 hw) (tw_6 hw) (by decide) (by rw [hml]; rfl) a179 [] [(.ref a179)] (lenOf pd_1 rfl) rfl rfl (by decide) 1 rfl (by decide) (by decide) (by decide) (dB at_105) 108 rfl (fun r199 T199 L199 X199 q199 => ?_)
         obtain ⟨rfl, Nq199, eq199⟩ := q199
         have N199 := Fr.app N0 Nq199
         dsimp only [Option.toList_some, Option.toList_none, List.cons_append, List.nil_append]
         refine w_astore X199 hx (dB at_108) 110 rfl rfl #[.val (.int fl), .val (.int pi), .val (.int j164_0), .val (.int j166_0), .val (.int j168_0), .val (.int j170_0), .val (.int j172_0), .val (.int j174_0), .val (.int j176_0), .val (.int v178), .val (.ref a179), .unset] rfl ?_
         refine w_iloadN X199 hx j164_0 (dB at_110) 111 rfl rfl ?_
         have J200 : ∀ (T' : State) (h' : Heap) (L' : List Loc) (_ : Stand p l e room_1 s m #[(.int fl), (.int pi)] below meth c T' L' 1 10) (_ : T'.heap = h') (_ : Fr n0 L') (_ : n0 ≤ h'.size) (_ : Keep h0 h' [])  (jv200_15 : Int64), (Sta Z h' cN_2 "BAD" cN_3 (.ref st_BAD)) → (Exa Z h' st_BAD cN_2) → (Sta Z h' cN_2 "OK" cN_3 (.ref st_OK)) → (Exa Z h' st_OK cN_2) → (Sta Z h' cN_2 "CODED" cN_3 (.ref st_CODED)) → (Exa Z h' st_CODED cN_2) → (Fld Z h' st_BAD cN_1 "ordinal" "I" (.int (2 : Int32))) → (Fld Z h' st_OK cN_1 "ordinal" "I" (.int (0 : Int32))) → (Fld Z h' st_CODED cN_1 "ordinal" "I" (.int (1 : Int32))) → (Exa Z h' a179 cN_0) → (Fld Z h' a179 cN_0 "payloadBad" "J" (.long (0 : Int64))) → (Fld Z h' a179 cN_0 "blockBad" "J" (.long (0 : Int64))) → (Fld Z h' a179 cN_0 "payloadOk" "J" (.long (0 : Int64))) → (Fld Z h' a179 cN_0 "trailerBad" "J" (.long (0 : Int64))) → (Fld Z h' a179 cN_0 "segmentBad" "J" (.long (0 : Int64))) → (Fld Z h' a179 cN_0 "records" "J" (.long jv200_15)) → (Fld Z h' a179 cN_0 "payloadUnchecked" "J" (.long (0 : Int64))) → (Fld Z h' a179 cN_0 "blockOk" "J" (.long (0 : Int64))) → (Fld Z h' a179 cN_0 "payloadCoded" "J" (.long (0 : Int64))) → (Fld Z h' a179 cN_0 "cut" "Z" (.int (0 : Int32))) → (0 ≤ jv200_15.toInt ∧ jv200_15.toInt ≤ 1 ∧ (jv200_15.toInt = 1 ↔ j164_0.toInt = 1)) → Wk p e below (FN s (Q0 Z fl pi st_BAD st_OK st_CODED h0 n0) 1 10) T' (mkF m 119 #[.val (.int fl), .val (.int pi), .val (.int j164_0), .val (.int j166_0), .val (.int j168_0), .val (.int j170_0), .val (.int j172_0), .val (.int j174_0), .val (.int j176_0), .val (.int v178), .val (.ref a179), .unset] []) := by
          intro T200 h200 L200 X200 e200_ N200 Z200 K200  jv200_15 jf200_0 jf200_1 jf200_2 jf200_3 jf200_4 jf200_5 jf200_6 jf200_7 jf200_8 jf200_9 jf200_10 jf200_11 jf200_12 jf200_13 jf200_14 jf200_15 jf200_16 jf200_17 jf200_18 jf200_19 f200
          refine w_iloadN X200 hx j166_0 (dB at_119) 120 rfl rfl ?_
          have J201 : ∀ (T' : State) (h' : Heap) (L' : List Loc) (_ : Stand p l e room_1 s m #[(.int fl), (.int pi)] below meth c T' L' 1 10) (_ : T'.heap = h') (_ : Fr n0 L') (_ : n0 ≤ h'.size) (_ : Keep h0 h' [])  (jv201_11 : Int64) (jv201_17 : Int64), (Sta Z h' cN_2 "BAD" cN_3 (.ref st_BAD)) → (Exa Z h' st_BAD cN_2) → (Sta Z h' cN_2 "OK" cN_3 (.ref st_OK)) → (Exa Z h' st_OK cN_2) → (Sta Z h' cN_2 "CODED" cN_3 (.ref st_CODED)) → (Exa Z h' st_CODED cN_2) → (Fld Z h' st_BAD cN_1 "ordinal" "I" (.int (2 : Int32))) → (Fld Z h' st_OK cN_1 "ordinal" "I" (.int (0 : Int32))) → (Fld Z h' st_CODED cN_1 "ordinal" "I" (.int (1 : Int32))) → (Exa Z h' a179 cN_0) → (Fld Z h' a179 cN_0 "payloadBad" "J" (.long (0 : Int64))) → (Fld Z h' a179 cN_0 "blockBad" "J" (.long jv201_11)) → (Fld Z h' a179 cN_0 "payloadOk" "J" (.long (0 : Int64))) → (Fld Z h' a179 cN_0 "trailerBad" "J" (.long (0 : Int64))) → (Fld Z h' a179 cN_0 "segmentBad" "J" (.long (0 : Int64))) → (Fld Z h' a179 cN_0 "records" "J" (.long jv200_15)) → (Fld Z h' a179 cN_0 "payloadUnchecked" "J" (.long (0 : Int64))) → (Fld Z h' a179 cN_0 "blockOk" "J" (.long jv201_17)) → (Fld Z h' a179 cN_0 "payloadCoded" "J" (.long (0 : Int64))) → (Fld Z h' a179 cN_0 "cut" "Z" (.int (0 : Int32))) → (0 ≤ jv201_17.toInt ∧ jv201_17.toInt ≤ 1 ∧ 0 ≤ jv201_11.toInt ∧ jv201_11.toInt ≤ 1 ∧ (jv201_11.toInt = 1 ↔ j166_0.toInt = 1 ∧ j168_0.toInt = 0)) → Wk p e below (FN s (Q0 Z fl pi st_BAD st_OK st_CODED h0 n0) 1 10) T' (mkF m 130 #[.val (.int fl), .val (.int pi), .val (.int j164_0), .val (.int j166_0), .val (.int j168_0), .val (.int j170_0), .val (.int j172_0), .val (.int j174_0), .val (.int j176_0), .val (.int v178), .val (.ref a179), .unset] []) := by
           intro T201 h201 L201 X201 e201_ N201 Z201 K201  jv201_11 jv201_17 jf201_0 jf201_1 jf201_2 jf201_3 jf201_4 jf201_5 jf201_6 jf201_7 jf201_8 jf201_9 jf201_10 jf201_11 jf201_12 jf201_13 jf201_14 jf201_15 jf201_16 jf201_17 jf201_18 jf201_19 f201
           refine w_iload X201 hx v178 (dB at_130) 132 rfl rfl ?_
           refine w_iconst X201 hx (dB at_132) 133 rfl (1 : Int32) (by decide) ?_
           have J202 : ∀ (T' : State) (h' : Heap) (L' : List Loc) (_ : Stand p l e room_1 s m #[(.int fl), (.int pi)] below meth c T' L' 1 10) (_ : T'.heap = h') (_ : Fr n0 L') (_ : n0 ≤ h'.size) (_ : Keep h0 h' [])  (jv202_10 : Int64) (jv202_12 : Int64) (jv202_18 : Int64), (Sta Z h' cN_2 "BAD" cN_3 (.ref st_BAD)) → (Exa Z h' st_BAD cN_2) → (Sta Z h' cN_2 "OK" cN_3 (.ref st_OK)) → (Exa Z h' st_OK cN_2) → (Sta Z h' cN_2 "CODED" cN_3 (.ref st_CODED)) → (Exa Z h' st_CODED cN_2) → (Fld Z h' st_BAD cN_1 "ordinal" "I" (.int (2 : Int32))) → (Fld Z h' st_OK cN_1 "ordinal" "I" (.int (0 : Int32))) → (Fld Z h' st_CODED cN_1 "ordinal" "I" (.int (1 : Int32))) → (Exa Z h' a179 cN_0) → (Fld Z h' a179 cN_0 "payloadBad" "J" (.long jv202_10)) → (Fld Z h' a179 cN_0 "blockBad" "J" (.long jv201_11)) → (Fld Z h' a179 cN_0 "payloadOk" "J" (.long jv202_12)) → (Fld Z h' a179 cN_0 "trailerBad" "J" (.long (0 : Int64))) → (Fld Z h' a179 cN_0 "segmentBad" "J" (.long (0 : Int64))) → (Fld Z h' a179 cN_0 "records" "J" (.long jv200_15)) → (Fld Z h' a179 cN_0 "payloadUnchecked" "J" (.long (0 : Int64))) → (Fld Z h' a179 cN_0 "blockOk" "J" (.long jv201_17)) → (Fld Z h' a179 cN_0 "payloadCoded" "J" (.long jv202_18)) → (Fld Z h' a179 cN_0 "cut" "Z" (.int (0 : Int32))) → (0 ≤ jv202_12.toInt ∧ jv202_12.toInt ≤ 1 ∧ 0 ≤ jv202_18.toInt ∧ jv202_18.toInt ≤ 1 ∧ 0 ≤ jv202_10.toInt ∧ jv202_10.toInt ≤ 1 ∧ (jv202_10.toInt = 1 ↔ v178.toInt = 3)) → Wk p e below (FN s (Q0 Z fl pi st_BAD st_OK st_CODED h0 n0) 1 10) T' (mkF m 178 #[.val (.int fl), .val (.int pi), .val (.int j164_0), .val (.int j166_0), .val (.int j168_0), .val (.int j170_0), .val (.int j172_0), .val (.int j174_0), .val (.int j176_0), .val (.int v178), .val (.ref a179), .unset] []) := by
            intro T202 h202 L202 X202 e202_ N202 Z202 K202  jv202_10 jv202_12 jv202_18 jf202_0 jf202_1 jf202_2 jf202_3 jf202_4 jf202_5 jf202_6 jf202_7 jf202_8 jf202_9 jf202_10 jf202_11 jf202_12 jf202_13 jf202_14 jf202_15 jf202_16 jf202_17 jf202_18 jf202_19 f202
            refine w_iload X202 hx j176_0 (dB at_178) 180 rfl rfl ?_
            have J203 : ∀ (T' : State) (h' : Heap) (L' : List Loc) (_ : Stand p l e room_1 s m #[(.int fl), (.int pi)] below meth c T' L' 1 10) (_ : T'.heap = h') (_ : Fr n0 L') (_ : n0 ≤ h'.size) (_ : Keep h0 h' [])  (jv203_16 : Int64), (Sta Z h' cN_2 "BAD" cN_3 (.ref st_BAD)) → (Exa Z h' st_BAD cN_2) → (Sta Z h' cN_2 "OK" cN_3 (.ref st_OK)) → (Exa Z h' st_OK cN_2) → (Sta Z h' cN_2 "CODED" cN_3 (.ref st_CODED)) → (Exa Z h' st_CODED cN_2) → (Fld Z h' st_BAD cN_1 "ordinal" "I" (.int (2 : Int32))) → (Fld Z h' st_OK cN_1 "ordinal" "I" (.int (0 : Int32))) → (Fld Z h' st_CODED cN_1 "ordinal" "I" (.int (1 : Int32))) → (Exa Z h' a179 cN_0) → (Fld Z h' a179 cN_0 "payloadBad" "J" (.long jv202_10)) → (Fld Z h' a179 cN_0 "blockBad" "J" (.long jv201_11)) → (Fld Z h' a179 cN_0 "payloadOk" "J" (.long jv202_12)) → (Fld Z h' a179 cN_0 "trailerBad" "J" (.long (0 : Int64))) → (Fld Z h' a179 cN_0 "segmentBad" "J" (.long (0 : Int64))) → (Fld Z h' a179 cN_0 "records" "J" (.long jv200_15)) → (Fld Z h' a179 cN_0 "payloadUnchecked" "J" (.long jv203_16)) → (Fld Z h' a179 cN_0 "blockOk" "J" (.long jv201_17)) → (Fld Z h' a179 cN_0 "payloadCoded" "J" (.long jv202_18)) → (Fld Z h' a179 cN_0 "cut" "Z" (.int (0 : Int32))) → (0 ≤ jv203_16.toInt ∧ jv203_16.toInt ≤ 1 ∧ (jv203_16.toInt = 1 ↔ j176_0.toInt = 1)) → Wk p e below (FN s (Q0 Z fl pi st_BAD st_OK st_CODED h0 n0) 1 10) T' (mkF m 188 #[.val (.int fl), .val (.int pi), .val (.int j164_0), .val (.int j166_0), .val (.int j168_0), .val (.int j170_0), .val (.int j172_0), .val (.int j174_0), .val (.int j176_0), .val (.int v178), .val (.ref a179), .unset] []) := by
             intro T203 h203 L203 X203 e203_ N203 Z203 K203  jv203_16 jf203_0 jf203_1 jf203_2 jf203_3 jf203_4 jf203_5 jf203_6 jf203_7 jf203_8 jf203_9 jf203_10 jf203_11 jf203_12 jf203_13 jf203_14 jf203_15 jf203_16 jf203_17 jf203_18 jf203_19 f203
             refine w_iload X203 hx j170_0 (dB at_188) 190 rfl rfl ?_
             have J204 : ∀ (T' : State) (h' : Heap) (L' : List Loc) (_ : Stand p l e room_1 s m #[(.int fl), (.int pi)] below meth c T' L' 1 10) (_ : T'.heap = h') (_ : Fr n0 L') (_ : n0 ≤ h'.size) (_ : Keep h0 h' [])  (jv204_13 : Int64), (Sta Z h' cN_2 "BAD" cN_3 (.ref st_BAD)) → (Exa Z h' st_BAD cN_2) → (Sta Z h' cN_2 "OK" cN_3 (.ref st_OK)) → (Exa Z h' st_OK cN_2) → (Sta Z h' cN_2 "CODED" cN_3 (.ref st_CODED)) → (Exa Z h' st_CODED cN_2) → (Fld Z h' st_BAD cN_1 "ordinal" "I" (.int (2 : Int32))) → (Fld Z h' st_OK cN_1 "ordinal" "I" (.int (0 : Int32))) → (Fld Z h' st_CODED cN_1 "ordinal" "I" (.int (1 : Int32))) → (Exa Z h' a179 cN_0) → (Fld Z h' a179 cN_0 "payloadBad" "J" (.long jv202_10)) → (Fld Z h' a179 cN_0 "blockBad" "J" (.long jv201_11)) → (Fld Z h' a179 cN_0 "payloadOk" "J" (.long jv202_12)) → (Fld Z h' a179 cN_0 "trailerBad" "J" (.long jv204_13)) → (Fld Z h' a179 cN_0 "segmentBad" "J" (.long (0 : Int64))) → (Fld Z h' a179 cN_0 "records" "J" (.long jv200_15)) → (Fld Z h' a179 cN_0 "payloadUnchecked" "J" (.long jv203_16)) → (Fld Z h' a179 cN_0 "blockOk" "J" (.long jv201_17)) → (Fld Z h' a179 cN_0 "payloadCoded" "J" (.long jv202_18)) → (Fld Z h' a179 cN_0 "cut" "Z" (.int (0 : Int32))) → (0 ≤ jv204_13.toInt ∧ jv204_13.toInt ≤ 1 ∧ (jv204_13.toInt = 1 ↔ j170_0.toInt = 1)) → Wk p e below (FN s (Q0 Z fl pi st_BAD st_OK st_CODED h0 n0) 1 10) T' (mkF m 198 #[.val (.int fl), .val (.int pi), .val (.int j164_0), .val (.int j166_0), .val (.int j168_0), .val (.int j170_0), .val (.int j172_0), .val (.int j174_0), .val (.int j176_0), .val (.int v178), .val (.ref a179), .unset] []) := by
              intro T204 h204 L204 X204 e204_ N204 Z204 K204  jv204_13 jf204_0 jf204_1 jf204_2 jf204_3 jf204_4 jf204_5 jf204_6 jf204_7 jf204_8 jf204_9 jf204_10 jf204_11 jf204_12 jf204_13 jf204_14 jf204_15 jf204_16 jf204_17 jf204_18 jf204_19 f204
              refine w_iload X204 hx j172_0 (dB at_198) 200 rfl rfl ?_
              have J205 : ∀ (T' : State) (h' : Heap) (L' : List Loc) (_ : Stand p l e room_1 s m #[(.int fl), (.int pi)] below meth c T' L' 1 10) (_ : T'.heap = h') (_ : Fr n0 L') (_ : n0 ≤ h'.size) (_ : Keep h0 h' [])  (jv205_14 : Int64), (Sta Z h' cN_2 "BAD" cN_3 (.ref st_BAD)) → (Exa Z h' st_BAD cN_2) → (Sta Z h' cN_2 "OK" cN_3 (.ref st_OK)) → (Exa Z h' st_OK cN_2) → (Sta Z h' cN_2 "CODED" cN_3 (.ref st_CODED)) → (Exa Z h' st_CODED cN_2) → (Fld Z h' st_BAD cN_1 "ordinal" "I" (.int (2 : Int32))) → (Fld Z h' st_OK cN_1 "ordinal" "I" (.int (0 : Int32))) → (Fld Z h' st_CODED cN_1 "ordinal" "I" (.int (1 : Int32))) → (Exa Z h' a179 cN_0) → (Fld Z h' a179 cN_0 "payloadBad" "J" (.long jv202_10)) → (Fld Z h' a179 cN_0 "blockBad" "J" (.long jv201_11)) → (Fld Z h' a179 cN_0 "payloadOk" "J" (.long jv202_12)) → (Fld Z h' a179 cN_0 "trailerBad" "J" (.long jv204_13)) → (Fld Z h' a179 cN_0 "segmentBad" "J" (.long jv205_14)) → (Fld Z h' a179 cN_0 "records" "J" (.long jv200_15)) → (Fld Z h' a179 cN_0 "payloadUnchecked" "J" (.long jv203_16)) → (Fld Z h' a179 cN_0 "blockOk" "J" (.long jv201_17)) → (Fld Z h' a179 cN_0 "payloadCoded" "J" (.long jv202_18)) → (Fld Z h' a179 cN_0 "cut" "Z" (.int (0 : Int32))) → (0 ≤ jv205_14.toInt ∧ jv205_14.toInt ≤ 1 ∧ (jv205_14.toInt = 1 ↔ j172_0.toInt = 1)) → Wk p e below (FN s (Q0 Z fl pi st_BAD st_OK st_CODED h0 n0) 1 10) T' (mkF m 208 #[.val (.int fl), .val (.int pi), .val (.int j164_0), .val (.int j166_0), .val (.int j168_0), .val (.int j170_0), .val (.int j172_0), .val (.int j174_0), .val (.int j176_0), .val (.int v178), .val (.ref a179), .unset] []) := by
               intro T205 h205 L205 X205 e205_ N205 Z205 K205  jv205_14 jf205_0 jf205_1 jf205_2 jf205_3 jf205_4 jf205_5 jf205_6 jf205_7 jf205_8 jf205_9 jf205_10 jf205_11 jf205_12 jf205_13 jf205_14 jf205_15 jf205_16 jf205_17 jf205_18 jf205_19 f205
               refine w_iload X205 hx j174_0 (dB at_208) 210 rfl rfl ?_
               have J206 : ∀ (T' : State) (h' : Heap) (L' : List Loc) (_ : Stand p l e room_1 s m #[(.int fl), (.int pi)] below meth c T' L' 1 10) (_ : T'.heap = h') (_ : Fr n0 L') (_ : n0 ≤ h'.size) (_ : Keep h0 h' [])  (jv206_19 : Int32), (Sta Z h' cN_2 "BAD" cN_3 (.ref st_BAD)) → (Exa Z h' st_BAD cN_2) → (Sta Z h' cN_2 "OK" cN_3 (.ref st_OK)) → (Exa Z h' st_OK cN_2) → (Sta Z h' cN_2 "CODED" cN_3 (.ref st_CODED)) → (Exa Z h' st_CODED cN_2) → (Fld Z h' st_BAD cN_1 "ordinal" "I" (.int (2 : Int32))) → (Fld Z h' st_OK cN_1 "ordinal" "I" (.int (0 : Int32))) → (Fld Z h' st_CODED cN_1 "ordinal" "I" (.int (1 : Int32))) → (Exa Z h' a179 cN_0) → (Fld Z h' a179 cN_0 "payloadBad" "J" (.long jv202_10)) → (Fld Z h' a179 cN_0 "blockBad" "J" (.long jv201_11)) → (Fld Z h' a179 cN_0 "payloadOk" "J" (.long jv202_12)) → (Fld Z h' a179 cN_0 "trailerBad" "J" (.long jv204_13)) → (Fld Z h' a179 cN_0 "segmentBad" "J" (.long jv205_14)) → (Fld Z h' a179 cN_0 "records" "J" (.long jv200_15)) → (Fld Z h' a179 cN_0 "payloadUnchecked" "J" (.long jv203_16)) → (Fld Z h' a179 cN_0 "blockOk" "J" (.long jv201_17)) → (Fld Z h' a179 cN_0 "payloadCoded" "J" (.long jv202_18)) → (Fld Z h' a179 cN_0 "cut" "Z" (.int jv206_19)) → (0 ≤ jv206_19.toInt ∧ jv206_19.toInt ≤ 1 ∧ (jv206_19.toInt = 1 ↔ j174_0.toInt = 1)) → Wk p e below (FN s (Q0 Z fl pi st_BAD st_OK st_CODED h0 n0) 1 10) T' (mkF m 218 #[.val (.int fl), .val (.int pi), .val (.int j164_0), .val (.int j166_0), .val (.int j168_0), .val (.int j170_0), .val (.int j172_0), .val (.int j174_0), .val (.int j176_0), .val (.int v178), .val (.ref a179), .unset] []) := by
                intro T206 h206 L206 X206 e206_ N206 Z206 K206  jv206_19 jf206_0 jf206_1 jf206_2 jf206_3 jf206_4 jf206_5 jf206_6 jf206_7 jf206_8 jf206_9 jf206_10 jf206_11 jf206_12 jf206_13 jf206_14 jf206_15 jf206_16 jf206_17 jf206_18 jf206_19 f206
                refine w_iloadN X206 hx j166_0 (dB at_218) 219 rfl rfl ?_
                have J207 : ∀ (j207_0 : Int32), (0 ≤ j207_0.toInt ∧ j207_0.toInt ≤ 1 ∧ (j207_0.toInt = 1 ↔ ((j166_0.toInt = 1 ∧ j168_0.toInt = 0) ∨ v178.toInt = 3 ∨ j170_0.toInt = 1 ∨ j172_0.toInt = 1))) → Wk p e below (FN s (Q0 Z fl pi st_BAD st_OK st_CODED h0 n0) 1 10) T206 (mkF m 248 #[.val (.int fl), .val (.int pi), .val (.int j164_0), .val (.int j166_0), .val (.int j168_0), .val (.int j170_0), .val (.int j172_0), .val (.int j174_0), .val (.int j176_0), .val (.int v178), .val (.ref a179), .unset] [(.int j207_0)]) := by
                 intro j207_0 f207
                 refine w_istore X206 hx (dB at_248) 250 rfl #[.val (.int fl), .val (.int pi), .val (.int j164_0), .val (.int j166_0), .val (.int j168_0), .val (.int j170_0), .val (.int j172_0), .val (.int j174_0), .val (.int j176_0), .val (.int v178), .val (.ref a179), .val (.int j207_0)] rfl ?_
                 refine w_aload X206 hx (.ref a179) (dB at_250) 252 rfl rfl rfl ?_
                 refine w_virt X206 hx hZ hown e206_ (rm5 l Z a0 hw [] a179 jv200_15 jv201_17 jv201_11 jv202_12 jv202_18 jv202_10 jv203_16 jv204_13 jv205_14 jv206_19 h206 n0 Z206 jf206_15 jf206_17 jf206_11 jf206_12 jf206_18 jf206_10 jf206_16 jf206_13 jf206_14 jf206_19) (tw_29 hw) (tw_30 hw) (notFace_of_selects (args := #[]) (mvT hZ (tw_32 hw))) (tw_32 hw) (tw_31 hw) (tw_3 hw) (tw_33 hw) (by decide) a179 jf206_9 (by rw [hml]; rfl) [] [] (lenOf pd_2 rfl) rfl rfl (by decide) 0 rfl (by decide) (by decide) (by decide) (dB at_252) 255 rfl (fun r208 T208 L208 X208 q208 => ?_)
                 obtain ⟨z208, rfl, f208, Nq208, eq208⟩ := q208
                 have N208 := Fr.app N206 Nq208
                 dsimp only [Option.toList_some, Option.toList_none, List.cons_append, List.nil_append]
                 refine w_iload X208 hx j207_0 (dB at_255) 257 rfl rfl ?_
                 refine w_icmp_ne X208 hx z208.toInt j207_0.toInt rfl rfl (dB at_257) 264 260 (fun c209 => ?_) (fun c209 => ?_)
                 ·refine w_iconst X208 hx (dB at_264) 265 rfl (0 : Int32) (by decide) ?_
                  refine w_retN X208 hx hlk (t := .boolean) hret (by simp) (dB at_265) (by decide) (by decide) ?_
                  rw [eq208]
                  exfalso; omega
                 ·refine w_iconst X208 hx (dB at_260) 261 rfl (1 : Int32) (by decide) ?_
                  refine w_goto X208 hx (dB at_261) 265 ?_
                  refine w_retN X208 hx hlk (t := .boolean) hret (by simp) (dB at_265) (by decide) (by decide) ?_
                  rw [eq208]
                  exact ⟨rfl, N208⟩
                refine w_if_eq X206 hx j166_0.toInt rfl (dB at_219) 227 222 (fun c210 => ?_) (fun c210 => ?_)
                ·refine w_iload X206 hx v178 (dB at_227) 229 rfl rfl ?_
                 refine w_iconst X206 hx (dB at_229) 230 rfl (3 : Int32) (by decide) ?_
                 refine w_icmp_eq X206 hx v178.toInt 3 rfl (by decide) (dB at_230) 243 233 (fun c211 => ?_) (fun c211 => ?_)
                 ·refine w_iconst X206 hx (dB at_243) 244 rfl (1 : Int32) (by decide) ?_
                  refine w_goto X206 hx (dB at_244) 248 ?_
                  exact J207 (1 : Int32) (by have hz1 : (1 : Int32).toInt = 1 := (by decide); omega)
                 ·refine w_iload X206 hx j170_0 (dB at_233) 235 rfl rfl ?_
                  refine w_if_ne X206 hx j170_0.toInt rfl (dB at_235) 243 238 (fun c212 => ?_) (fun c212 => ?_)
                  ·refine w_iconst X206 hx (dB at_243) 244 rfl (1 : Int32) (by decide) ?_
                   refine w_goto X206 hx (dB at_244) 248 ?_
                   exact J207 (1 : Int32) (by have hz1 : (1 : Int32).toInt = 1 := (by decide); omega)
                  ·refine w_iload X206 hx j172_0 (dB at_238) 240 rfl rfl ?_
                   refine w_if_eq X206 hx j172_0.toInt rfl (dB at_240) 247 243 (fun c213 => ?_) (fun c213 => ?_)
                   ·refine w_iconst X206 hx (dB at_247) 248 rfl (0 : Int32) (by decide) ?_
                    exact J207 (0 : Int32) (by have hz1 : (0 : Int32).toInt = 0 := (by decide); omega)
                   ·refine w_iconst X206 hx (dB at_243) 244 rfl (1 : Int32) (by decide) ?_
                    refine w_goto X206 hx (dB at_244) 248 ?_
                    exact J207 (1 : Int32) (by have hz1 : (1 : Int32).toInt = 1 := (by decide); omega)
                ·refine w_iload X206 hx j168_0 (dB at_222) 224 rfl rfl ?_
                 refine w_if_eq X206 hx j168_0.toInt rfl (dB at_224) 243 227 (fun c214 => ?_) (fun c214 => ?_)
                 ·refine w_iconst X206 hx (dB at_243) 244 rfl (1 : Int32) (by decide) ?_
                  refine w_goto X206 hx (dB at_244) 248 ?_
                  exact J207 (1 : Int32) (by have hz1 : (1 : Int32).toInt = 1 := (by decide); omega)
                 ·refine w_iload X206 hx v178 (dB at_227) 229 rfl rfl ?_
                  refine w_iconst X206 hx (dB at_229) 230 rfl (3 : Int32) (by decide) ?_
                  refine w_icmp_eq X206 hx v178.toInt 3 rfl (by decide) (dB at_230) 243 233 (fun c215 => ?_) (fun c215 => ?_)
                  ·refine w_iconst X206 hx (dB at_243) 244 rfl (1 : Int32) (by decide) ?_
                   refine w_goto X206 hx (dB at_244) 248 ?_
                   exact J207 (1 : Int32) (by have hz1 : (1 : Int32).toInt = 1 := (by decide); omega)
                  ·refine w_iload X206 hx j170_0 (dB at_233) 235 rfl rfl ?_
                   refine w_if_ne X206 hx j170_0.toInt rfl (dB at_235) 243 238 (fun c216 => ?_) (fun c216 => ?_)
                   ·refine w_iconst X206 hx (dB at_243) 244 rfl (1 : Int32) (by decide) ?_
                    refine w_goto X206 hx (dB at_244) 248 ?_
                    exact J207 (1 : Int32) (by have hz1 : (1 : Int32).toInt = 1 := (by decide); omega)
                   ·refine w_iload X206 hx j172_0 (dB at_238) 240 rfl rfl ?_
                    refine w_if_eq X206 hx j172_0.toInt rfl (dB at_240) 247 243 (fun c217 => ?_) (fun c217 => ?_)
                    ·refine w_iconst X206 hx (dB at_247) 248 rfl (0 : Int32) (by decide) ?_
                     exact J207 (0 : Int32) (by have hz1 : (0 : Int32).toInt = 0 := (by decide); omega)
                    ·refine w_iconst X206 hx (dB at_243) 244 rfl (1 : Int32) (by decide) ?_
                     refine w_goto X206 hx (dB at_244) 248 ?_
                     exact J207 (1 : Int32) (by have hz1 : (1 : Int32).toInt = 1 := (by decide); omega)
               refine w_if_eq X205 hx j174_0.toInt rfl (dB at_210) 218 213 (fun c218 => ?_) (fun c218 => ?_)
               ·exact J206 _ _ _ (X205.more (by decide) (by decide)) e205_ N205 Z205 K205  (0 : Int32) jf205_0 jf205_1 jf205_2 jf205_3 jf205_4 jf205_5 jf205_6 jf205_7 jf205_8 jf205_9 jf205_10 jf205_11 jf205_12 jf205_13 jf205_14 jf205_15 jf205_16 jf205_17 jf205_18 jf205_19 (by have hy1 : (0 : Int32).toInt = 0 := (by decide); omega)
               ·refine w_aload X205 hx (.ref a179) (dB at_213) 215 rfl rfl rfl ?_
                refine w_virt X205 hx hZ hown e205_ (rm11 l Z a0 hw [] a179 jv200_15 jv201_17 jv201_11 jv202_12 jv202_18 jv202_10 jv203_16 jv204_13 jv205_14 (0 : Int32) h205 n0 Z205 jf205_9 jf205_15 jf205_17 jf205_11 jf205_12 jf205_18 jf205_10 jf205_16 jf205_13 jf205_14 jf205_19 g_a179) (tw_79 hw) (tw_80 hw) (notFace_of_selects (args := #[]) (mvT hZ (tw_82 hw))) (tw_82 hw) (tw_81 hw) (tw_3 hw) (tw_83 hw) (by decide) a179 jf205_9 (by rw [hml]; rfl) [] [] (lenOf pd_1 rfl) rfl rfl (by decide) 0 rfl (by decide) (by decide) (by decide) (dB at_215) 218 rfl (fun r219 T219 L219 X219 q219 => ?_)
                obtain ⟨rfl, Nq219, Kq219, G219_0, G219_1, G219_2, G219_3, G219_4, G219_5, G219_6, G219_7, G219_8, G219_9⟩ := q219
                have N219 := Fr.app N205 Nq219
                have F220 : Sta Z T219.heap cN_2 "BAD" cN_3 (.ref st_BAD) := sta_keep jf205_0 Kq219 (allS (exa_plain jf205_9) all0)
                have F221 : Exa Z T219.heap st_BAD cN_2 := jf205_1.keep Kq219
                have F222 : Sta Z T219.heap cN_2 "OK" cN_3 (.ref st_OK) := sta_keep jf205_2 Kq219 (allS (exa_plain jf205_9) all0)
                have F223 : Exa Z T219.heap st_OK cN_2 := jf205_3.keep Kq219
                have F224 : Sta Z T219.heap cN_2 "CODED" cN_3 (.ref st_CODED) := sta_keep jf205_4 Kq219 (allS (exa_plain jf205_9) all0)
                have F225 : Exa Z T219.heap st_CODED cN_2 := jf205_5.keep Kq219
                have F226 : Fld Z T219.heap st_BAD cN_1 "ordinal" "I" (.int (2 : Int32)) := jf205_6.keep Kq219 (ninS ne_st_BAD_a179 nin0)
                have F227 : Fld Z T219.heap st_OK cN_1 "ordinal" "I" (.int (0 : Int32)) := jf205_7.keep Kq219 (ninS ne_st_OK_a179 nin0)
                have F228 : Fld Z T219.heap st_CODED cN_1 "ordinal" "I" (.int (1 : Int32)) := jf205_8.keep Kq219 (ninS ne_st_CODED_a179 nin0)
                have F229 : Exa Z T219.heap a179 cN_0 := jf205_9.keep Kq219
                have Z219 : n0 ≤ T219.heap.size := Nat.le_trans Z205 Kq219.1
                have K219 : Keep h0 T219.heap [] := K205.trans Kq219 (allS (Or.inr s_a179) all0)
                dsimp only [Option.toList_some, Option.toList_none, List.cons_append, List.nil_append]
                exact J206 _ _ _ (X219.more (by decide) (by decide)) rfl N219 Z219 K219  (1 : Int32) F220 F221 F222 F223 F224 F225 F226 F227 F228 F229 G219_5 G219_2 G219_3 G219_7 G219_8 G219_0 G219_6 G219_1 G219_4 G219_9 (by have hy1 : (1 : Int32).toInt = 1 := (by decide); omega)
              refine w_if_eq X204 hx j172_0.toInt rfl (dB at_200) 208 203 (fun c230 => ?_) (fun c230 => ?_)
              ·exact J205 _ _ _ (X204.more (by decide) (by decide)) e204_ N204 Z204 K204  (0 : Int64) jf204_0 jf204_1 jf204_2 jf204_3 jf204_4 jf204_5 jf204_6 jf204_7 jf204_8 jf204_9 jf204_10 jf204_11 jf204_12 jf204_13 jf204_14 jf204_15 jf204_16 jf204_17 jf204_18 jf204_19 (by have hy1 : (0 : Int64).toInt = 0 := (by decide); omega)
              ·refine w_aload X204 hx (.ref a179) (dB at_203) 205 rfl rfl rfl ?_
               refine w_virt X204 hx hZ hown e204_ (rm7 l Z a0 hw [] a179 jv200_15 jv201_17 jv201_11 jv202_12 jv202_18 jv202_10 jv203_16 jv204_13 (0 : Int64) (0 : Int32) h204 n0 Z204 jf204_9 jf204_15 jf204_17 jf204_11 jf204_12 jf204_18 jf204_10 jf204_16 jf204_13 jf204_14 jf204_19 g_a179 (by have hl_0 : (0 : Int64).toInt = 0 := (by decide); have hl_1 : (0 : Int32).toInt = 0 := (by decide); omega)) (tw_47 hw) (tw_48 hw) (notFace_of_selects (args := #[]) (mvT hZ (tw_50 hw))) (tw_50 hw) (tw_49 hw) (tw_3 hw) (tw_51 hw) (by decide) a179 jf204_9 (by rw [hml]; rfl) [] [] (lenOf pd_1 rfl) rfl rfl (by decide) 0 rfl (by decide) (by decide) (by decide) (dB at_205) 208 rfl (fun r231 T231 L231 X231 q231 => ?_)
               obtain ⟨y231, fx231, q231⟩ := q231
               try simp only [show ((0 : Int64)).toInt = 0 from by decide] at fx231
               try simp only [show ((0 : Int32)).toInt = 0 from by decide] at fx231
               obtain ⟨rfl, Nq231, Kq231, G231_0, G231_1, G231_2, G231_3, G231_4, G231_5, G231_6, G231_7, G231_8, G231_9⟩ := q231
               have N231 := Fr.app N204 Nq231
               have F232 : Sta Z T231.heap cN_2 "BAD" cN_3 (.ref st_BAD) := sta_keep jf204_0 Kq231 (allS (exa_plain jf204_9) all0)
               have F233 : Exa Z T231.heap st_BAD cN_2 := jf204_1.keep Kq231
               have F234 : Sta Z T231.heap cN_2 "OK" cN_3 (.ref st_OK) := sta_keep jf204_2 Kq231 (allS (exa_plain jf204_9) all0)
               have F235 : Exa Z T231.heap st_OK cN_2 := jf204_3.keep Kq231
               have F236 : Sta Z T231.heap cN_2 "CODED" cN_3 (.ref st_CODED) := sta_keep jf204_4 Kq231 (allS (exa_plain jf204_9) all0)
               have F237 : Exa Z T231.heap st_CODED cN_2 := jf204_5.keep Kq231
               have F238 : Fld Z T231.heap st_BAD cN_1 "ordinal" "I" (.int (2 : Int32)) := jf204_6.keep Kq231 (ninS ne_st_BAD_a179 nin0)
               have F239 : Fld Z T231.heap st_OK cN_1 "ordinal" "I" (.int (0 : Int32)) := jf204_7.keep Kq231 (ninS ne_st_OK_a179 nin0)
               have F240 : Fld Z T231.heap st_CODED cN_1 "ordinal" "I" (.int (1 : Int32)) := jf204_8.keep Kq231 (ninS ne_st_CODED_a179 nin0)
               have F241 : Exa Z T231.heap a179 cN_0 := jf204_9.keep Kq231
               have Z231 : n0 ≤ T231.heap.size := Nat.le_trans Z204 Kq231.1
               have K231 : Keep h0 T231.heap [] := K204.trans Kq231 (allS (Or.inr s_a179) all0)
               dsimp only [Option.toList_some, Option.toList_none, List.cons_append, List.nil_append]
               exact J205 _ _ _ (X231.more (by decide) (by decide)) rfl N231 Z231 K231  y231 F232 F233 F234 F235 F236 F237 F238 F239 F240 F241 G231_5 G231_2 G231_3 G231_7 G231_8 G231_0 G231_6 G231_1 G231_4 G231_9 (by omega)
             refine w_if_eq X203 hx j170_0.toInt rfl (dB at_190) 198 193 (fun c242 => ?_) (fun c242 => ?_)
             ·exact J204 _ _ _ (X203.more (by decide) (by decide)) e203_ N203 Z203 K203  (0 : Int64) jf203_0 jf203_1 jf203_2 jf203_3 jf203_4 jf203_5 jf203_6 jf203_7 jf203_8 jf203_9 jf203_10 jf203_11 jf203_12 jf203_13 jf203_14 jf203_15 jf203_16 jf203_17 jf203_18 jf203_19 (by have hy1 : (0 : Int64).toInt = 0 := (by decide); omega)
             ·refine w_aload X203 hx (.ref a179) (dB at_193) 195 rfl rfl rfl ?_
              refine w_virt X203 hx hZ hown e203_ (rm6 l Z a0 hw [] a179 jv200_15 jv201_17 jv201_11 jv202_12 jv202_18 jv202_10 jv203_16 (0 : Int64) (0 : Int64) (0 : Int32) h203 n0 Z203 jf203_9 jf203_15 jf203_17 jf203_11 jf203_12 jf203_18 jf203_10 jf203_16 jf203_13 jf203_14 jf203_19 g_a179 (by have hl_0 : (0 : Int64).toInt = 0 := (by decide); have hl_1 : (0 : Int32).toInt = 0 := (by decide); omega)) (tw_40 hw) (tw_41 hw) (notFace_of_selects (args := #[]) (mvT hZ (tw_43 hw))) (tw_43 hw) (tw_42 hw) (tw_3 hw) (tw_44 hw) (by decide) a179 jf203_9 (by rw [hml]; rfl) [] [] (lenOf pd_1 rfl) rfl rfl (by decide) 0 rfl (by decide) (by decide) (by decide) (dB at_195) 198 rfl (fun r243 T243 L243 X243 q243 => ?_)
              obtain ⟨y243, fx243, q243⟩ := q243
              try simp only [show ((0 : Int64)).toInt = 0 from by decide] at fx243
              try simp only [show ((0 : Int32)).toInt = 0 from by decide] at fx243
              obtain ⟨rfl, Nq243, Kq243, G243_0, G243_1, G243_2, G243_3, G243_4, G243_5, G243_6, G243_7, G243_8, G243_9⟩ := q243
              have N243 := Fr.app N203 Nq243
              have F244 : Sta Z T243.heap cN_2 "BAD" cN_3 (.ref st_BAD) := sta_keep jf203_0 Kq243 (allS (exa_plain jf203_9) all0)
              have F245 : Exa Z T243.heap st_BAD cN_2 := jf203_1.keep Kq243
              have F246 : Sta Z T243.heap cN_2 "OK" cN_3 (.ref st_OK) := sta_keep jf203_2 Kq243 (allS (exa_plain jf203_9) all0)
              have F247 : Exa Z T243.heap st_OK cN_2 := jf203_3.keep Kq243
              have F248 : Sta Z T243.heap cN_2 "CODED" cN_3 (.ref st_CODED) := sta_keep jf203_4 Kq243 (allS (exa_plain jf203_9) all0)
              have F249 : Exa Z T243.heap st_CODED cN_2 := jf203_5.keep Kq243
              have F250 : Fld Z T243.heap st_BAD cN_1 "ordinal" "I" (.int (2 : Int32)) := jf203_6.keep Kq243 (ninS ne_st_BAD_a179 nin0)
              have F251 : Fld Z T243.heap st_OK cN_1 "ordinal" "I" (.int (0 : Int32)) := jf203_7.keep Kq243 (ninS ne_st_OK_a179 nin0)
              have F252 : Fld Z T243.heap st_CODED cN_1 "ordinal" "I" (.int (1 : Int32)) := jf203_8.keep Kq243 (ninS ne_st_CODED_a179 nin0)
              have F253 : Exa Z T243.heap a179 cN_0 := jf203_9.keep Kq243
              have Z243 : n0 ≤ T243.heap.size := Nat.le_trans Z203 Kq243.1
              have K243 : Keep h0 T243.heap [] := K203.trans Kq243 (allS (Or.inr s_a179) all0)
              dsimp only [Option.toList_some, Option.toList_none, List.cons_append, List.nil_append]
              exact J204 _ _ _ (X243.more (by decide) (by decide)) rfl N243 Z243 K243  y243 F244 F245 F246 F247 F248 F249 F250 F251 F252 F253 G243_5 G243_2 G243_3 G243_7 G243_8 G243_0 G243_6 G243_1 G243_4 G243_9 (by omega)
            refine w_if_eq X202 hx j176_0.toInt rfl (dB at_180) 188 183 (fun c254 => ?_) (fun c254 => ?_)
            ·exact J203 _ _ _ (X202.more (by decide) (by decide)) e202_ N202 Z202 K202  (0 : Int64) jf202_0 jf202_1 jf202_2 jf202_3 jf202_4 jf202_5 jf202_6 jf202_7 jf202_8 jf202_9 jf202_10 jf202_11 jf202_12 jf202_13 jf202_14 jf202_15 jf202_16 jf202_17 jf202_18 jf202_19 (by have hy1 : (0 : Int64).toInt = 0 := (by decide); omega)
            ·refine w_aload X202 hx (.ref a179) (dB at_183) 185 rfl rfl rfl ?_
             refine w_virt X202 hx hZ hown e202_ (rm9 l Z a0 hw [] a179 jv200_15 jv201_17 jv201_11 jv202_12 jv202_18 jv202_10 (0 : Int64) (0 : Int64) (0 : Int64) (0 : Int32) h202 n0 Z202 jf202_9 jf202_15 jf202_17 jf202_11 jf202_12 jf202_18 jf202_10 jf202_16 jf202_13 jf202_14 jf202_19 g_a179 (by have hl_0 : (0 : Int64).toInt = 0 := (by decide); have hl_1 : (0 : Int32).toInt = 0 := (by decide); omega)) (tw_61 hw) (tw_62 hw) (notFace_of_selects (args := #[]) (mvT hZ (tw_64 hw))) (tw_64 hw) (tw_63 hw) (tw_3 hw) (tw_65 hw) (by decide) a179 jf202_9 (by rw [hml]; rfl) [] [] (lenOf pd_1 rfl) rfl rfl (by decide) 0 rfl (by decide) (by decide) (by decide) (dB at_185) 188 rfl (fun r255 T255 L255 X255 q255 => ?_)
             obtain ⟨y255, fx255, q255⟩ := q255
             try simp only [show ((0 : Int64)).toInt = 0 from by decide] at fx255
             try simp only [show ((0 : Int32)).toInt = 0 from by decide] at fx255
             obtain ⟨rfl, Nq255, Kq255, G255_0, G255_1, G255_2, G255_3, G255_4, G255_5, G255_6, G255_7, G255_8, G255_9⟩ := q255
             have N255 := Fr.app N202 Nq255
             have F256 : Sta Z T255.heap cN_2 "BAD" cN_3 (.ref st_BAD) := sta_keep jf202_0 Kq255 (allS (exa_plain jf202_9) all0)
             have F257 : Exa Z T255.heap st_BAD cN_2 := jf202_1.keep Kq255
             have F258 : Sta Z T255.heap cN_2 "OK" cN_3 (.ref st_OK) := sta_keep jf202_2 Kq255 (allS (exa_plain jf202_9) all0)
             have F259 : Exa Z T255.heap st_OK cN_2 := jf202_3.keep Kq255
             have F260 : Sta Z T255.heap cN_2 "CODED" cN_3 (.ref st_CODED) := sta_keep jf202_4 Kq255 (allS (exa_plain jf202_9) all0)
             have F261 : Exa Z T255.heap st_CODED cN_2 := jf202_5.keep Kq255
             have F262 : Fld Z T255.heap st_BAD cN_1 "ordinal" "I" (.int (2 : Int32)) := jf202_6.keep Kq255 (ninS ne_st_BAD_a179 nin0)
             have F263 : Fld Z T255.heap st_OK cN_1 "ordinal" "I" (.int (0 : Int32)) := jf202_7.keep Kq255 (ninS ne_st_OK_a179 nin0)
             have F264 : Fld Z T255.heap st_CODED cN_1 "ordinal" "I" (.int (1 : Int32)) := jf202_8.keep Kq255 (ninS ne_st_CODED_a179 nin0)
             have F265 : Exa Z T255.heap a179 cN_0 := jf202_9.keep Kq255
             have Z255 : n0 ≤ T255.heap.size := Nat.le_trans Z202 Kq255.1
             have K255 : Keep h0 T255.heap [] := K202.trans Kq255 (allS (Or.inr s_a179) all0)
             dsimp only [Option.toList_some, Option.toList_none, List.cons_append, List.nil_append]
             exact J203 _ _ _ (X255.more (by decide) (by decide)) rfl N255 Z255 K255  y255 F256 F257 F258 F259 F260 F261 F262 F263 F264 F265 G255_5 G255_2 G255_3 G255_7 G255_8 G255_0 G255_6 G255_1 G255_4 G255_9 (by omega)
           refine w_icmp_ne X201 hx v178.toInt 1 rfl (by decide) (dB at_133) 147 136 (fun c266 => ?_) (fun c266 => ?_)
           ·refine w_iload X201 hx v178 (dB at_147) 149 rfl rfl ?_
            refine w_iconst X201 hx (dB at_149) 150 rfl (2 : Int32) (by decide) ?_
            refine w_icmp_ne X201 hx v178.toInt 2 rfl (by decide) (dB at_150) 164 153 (fun c267 => ?_) (fun c267 => ?_)
            ·refine w_iload X201 hx v178 (dB at_164) 166 rfl rfl ?_
             refine w_iconst X201 hx (dB at_166) 167 rfl (3 : Int32) (by decide) ?_
             refine w_icmp_ne X201 hx v178.toInt 3 rfl (by decide) (dB at_167) 178 170 (fun c268 => ?_) (fun c268 => ?_)
             ·exact J202 _ _ _ (X201.more (by decide) (by decide)) e201_ N201 Z201 K201  (0 : Int64) (0 : Int64) (0 : Int64) jf201_0 jf201_1 jf201_2 jf201_3 jf201_4 jf201_5 jf201_6 jf201_7 jf201_8 jf201_9 jf201_10 jf201_11 jf201_12 jf201_13 jf201_14 jf201_15 jf201_16 jf201_17 jf201_18 jf201_19 (by have hy1 : (0 : Int64).toInt = 0 := (by decide); have hy2 : (0 : Int64).toInt = 0 := (by decide); have hy3 : (0 : Int64).toInt = 0 := (by decide); omega)
             ·refine w_aload X201 hx (.ref a179) (dB at_170) 172 rfl rfl rfl ?_
              refine w_getS X201 hx hZ hown e201_ (host := "") (Or.inl (tw_10 hw)) Via.refl jf201_0 (dB at_172) 175 rfl (fun T269 X269 e269 => ?_)
              refine w_virt X269 hx hZ hown e269 (rm3g2 l Z a0 hw [] a179 st_BAD jv200_15 jv201_17 jv201_11 (0 : Int64) (0 : Int64) (0 : Int64) (0 : Int64) (0 : Int64) (0 : Int64) (0 : Int32) h201 n0 Z201 jf201_9 jf201_15 jf201_17 jf201_11 jf201_12 jf201_18 jf201_10 jf201_16 jf201_13 jf201_14 jf201_19 jf201_1 jf201_6 g_a179 (by have hl_0 : (0 : Int64).toInt = 0 := (by decide); have hl_1 : (0 : Int32).toInt = 0 := (by decide); omega)) (tw_13 hw) (tw_14 hw) (notFace_of_selects (args := #[]) (mvT hZ (tw_16 hw))) (tw_16 hw) (tw_15 hw) (tw_3 hw) (tw_17 hw) (by decide) a179 jf201_9 (by rw [hml]; rfl) [(.ref st_BAD)] [] (lenOf pd_3 rfl) rfl rfl (by decide) 0 rfl (by decide) (by decide) (by decide) (dB at_175) 178 rfl (fun r270 T270 L270 X270 q270 => ?_)
              obtain ⟨y270, fx270, q270⟩ := q270
              try simp only [show ((0 : Int64)).toInt = 0 from by decide] at fx270
              try simp only [show ((0 : Int32)).toInt = 0 from by decide] at fx270
              obtain ⟨rfl, Nq270, Kq270, G270_0, G270_1, G270_2, G270_3, G270_4, G270_5, G270_6, G270_7, G270_8, G270_9⟩ := q270
              have N270 := Fr.app N201 Nq270
              have F271 : Sta Z T270.heap cN_2 "BAD" cN_3 (.ref st_BAD) := sta_keep jf201_0 Kq270 (allS (exa_plain jf201_9) all0)
              have F272 : Exa Z T270.heap st_BAD cN_2 := jf201_1.keep Kq270
              have F273 : Sta Z T270.heap cN_2 "OK" cN_3 (.ref st_OK) := sta_keep jf201_2 Kq270 (allS (exa_plain jf201_9) all0)
              have F274 : Exa Z T270.heap st_OK cN_2 := jf201_3.keep Kq270
              have F275 : Sta Z T270.heap cN_2 "CODED" cN_3 (.ref st_CODED) := sta_keep jf201_4 Kq270 (allS (exa_plain jf201_9) all0)
              have F276 : Exa Z T270.heap st_CODED cN_2 := jf201_5.keep Kq270
              have F277 : Fld Z T270.heap st_BAD cN_1 "ordinal" "I" (.int (2 : Int32)) := jf201_6.keep Kq270 (ninS ne_st_BAD_a179 nin0)
              have F278 : Fld Z T270.heap st_OK cN_1 "ordinal" "I" (.int (0 : Int32)) := jf201_7.keep Kq270 (ninS ne_st_OK_a179 nin0)
              have F279 : Fld Z T270.heap st_CODED cN_1 "ordinal" "I" (.int (1 : Int32)) := jf201_8.keep Kq270 (ninS ne_st_CODED_a179 nin0)
              have F280 : Exa Z T270.heap a179 cN_0 := jf201_9.keep Kq270
              have Z270 : n0 ≤ T270.heap.size := Nat.le_trans Z201 Kq270.1
              have K270 : Keep h0 T270.heap [] := K201.trans Kq270 (allS (Or.inr s_a179) all0)
              dsimp only [Option.toList_some, Option.toList_none, List.cons_append, List.nil_append]
              exact J202 _ _ _ (X270.more (by decide) (by decide)) rfl N270 Z270 K270  y270 (0 : Int64) (0 : Int64) F271 F272 F273 F274 F275 F276 F277 F278 F279 F280 G270_5 G270_2 G270_3 G270_7 G270_8 G270_0 G270_6 G270_1 G270_4 G270_9 (by have hy2 : (0 : Int64).toInt = 0 := (by decide); have hy3 : (0 : Int64).toInt = 0 := (by decide); omega)
            ·refine w_aload X201 hx (.ref a179) (dB at_153) 155 rfl rfl rfl ?_
             refine w_getS X201 hx hZ hown e201_ (host := "") (Or.inl (tw_75 hw)) Via.refl jf201_4 (dB at_155) 158 rfl (fun T281 X281 e281 => ?_)
             refine w_virt X281 hx hZ hown e281 (rm3g1 l Z a0 hw [] a179 st_CODED jv200_15 jv201_17 jv201_11 (0 : Int64) (0 : Int64) (0 : Int64) (0 : Int64) (0 : Int64) (0 : Int64) (0 : Int32) h201 n0 Z201 jf201_9 jf201_15 jf201_17 jf201_11 jf201_12 jf201_18 jf201_10 jf201_16 jf201_13 jf201_14 jf201_19 jf201_5 jf201_8 g_a179 (by have hl_0 : (0 : Int64).toInt = 0 := (by decide); have hl_1 : (0 : Int32).toInt = 0 := (by decide); omega)) (tw_13 hw) (tw_14 hw) (notFace_of_selects (args := #[]) (mvT hZ (tw_16 hw))) (tw_16 hw) (tw_15 hw) (tw_3 hw) (tw_17 hw) (by decide) a179 jf201_9 (by rw [hml]; rfl) [(.ref st_CODED)] [] (lenOf pd_3 rfl) rfl rfl (by decide) 0 rfl (by decide) (by decide) (by decide) (dB at_158) 161 rfl (fun r282 T282 L282 X282 q282 => ?_)
             obtain ⟨y282, fx282, q282⟩ := q282
             try simp only [show ((0 : Int64)).toInt = 0 from by decide] at fx282
             try simp only [show ((0 : Int32)).toInt = 0 from by decide] at fx282
             obtain ⟨rfl, Nq282, Kq282, G282_0, G282_1, G282_2, G282_3, G282_4, G282_5, G282_6, G282_7, G282_8, G282_9⟩ := q282
             have N282 := Fr.app N201 Nq282
             have F283 : Sta Z T282.heap cN_2 "BAD" cN_3 (.ref st_BAD) := sta_keep jf201_0 Kq282 (allS (exa_plain jf201_9) all0)
             have F284 : Exa Z T282.heap st_BAD cN_2 := jf201_1.keep Kq282
             have F285 : Sta Z T282.heap cN_2 "OK" cN_3 (.ref st_OK) := sta_keep jf201_2 Kq282 (allS (exa_plain jf201_9) all0)
             have F286 : Exa Z T282.heap st_OK cN_2 := jf201_3.keep Kq282
             have F287 : Sta Z T282.heap cN_2 "CODED" cN_3 (.ref st_CODED) := sta_keep jf201_4 Kq282 (allS (exa_plain jf201_9) all0)
             have F288 : Exa Z T282.heap st_CODED cN_2 := jf201_5.keep Kq282
             have F289 : Fld Z T282.heap st_BAD cN_1 "ordinal" "I" (.int (2 : Int32)) := jf201_6.keep Kq282 (ninS ne_st_BAD_a179 nin0)
             have F290 : Fld Z T282.heap st_OK cN_1 "ordinal" "I" (.int (0 : Int32)) := jf201_7.keep Kq282 (ninS ne_st_OK_a179 nin0)
             have F291 : Fld Z T282.heap st_CODED cN_1 "ordinal" "I" (.int (1 : Int32)) := jf201_8.keep Kq282 (ninS ne_st_CODED_a179 nin0)
             have F292 : Exa Z T282.heap a179 cN_0 := jf201_9.keep Kq282
             have Z282 : n0 ≤ T282.heap.size := Nat.le_trans Z201 Kq282.1
             have K282 : Keep h0 T282.heap [] := K201.trans Kq282 (allS (Or.inr s_a179) all0)
             dsimp only [Option.toList_some, Option.toList_none, List.cons_append, List.nil_append]
             refine w_goto X282 hx (dB at_161) 178 ?_
             exact J202 _ _ _ (X282.more (by decide) (by decide)) rfl N282 Z282 K282  (0 : Int64) (0 : Int64) y282 F283 F284 F285 F286 F287 F288 F289 F290 F291 F292 G282_5 G282_2 G282_3 G282_7 G282_8 G282_0 G282_6 G282_1 G282_4 G282_9 (by have hy1 : (0 : Int64).toInt = 0 := (by decide); have hy2 : (0 : Int64).toInt = 0 := (by decide); omega)
           ·refine w_aload X201 hx (.ref a179) (dB at_136) 138 rfl rfl rfl ?_
            refine w_getS X201 hx hZ hown e201_ (host := "") (Or.inl (tw_36 hw)) Via.refl jf201_2 (dB at_138) 141 rfl (fun T293 X293 e293 => ?_)
            refine w_virt X293 hx hZ hown e293 (rm3g0 l Z a0 hw [] a179 st_OK jv200_15 jv201_17 jv201_11 (0 : Int64) (0 : Int64) (0 : Int64) (0 : Int64) (0 : Int64) (0 : Int64) (0 : Int32) h201 n0 Z201 jf201_9 jf201_15 jf201_17 jf201_11 jf201_12 jf201_18 jf201_10 jf201_16 jf201_13 jf201_14 jf201_19 jf201_3 jf201_7 g_a179 (by have hl_0 : (0 : Int64).toInt = 0 := (by decide); have hl_1 : (0 : Int32).toInt = 0 := (by decide); omega)) (tw_13 hw) (tw_14 hw) (notFace_of_selects (args := #[]) (mvT hZ (tw_16 hw))) (tw_16 hw) (tw_15 hw) (tw_3 hw) (tw_17 hw) (by decide) a179 jf201_9 (by rw [hml]; rfl) [(.ref st_OK)] [] (lenOf pd_3 rfl) rfl rfl (by decide) 0 rfl (by decide) (by decide) (by decide) (dB at_141) 144 rfl (fun r294 T294 L294 X294 q294 => ?_)
            obtain ⟨y294, fx294, q294⟩ := q294
            try simp only [show ((0 : Int64)).toInt = 0 from by decide] at fx294
            try simp only [show ((0 : Int32)).toInt = 0 from by decide] at fx294
            obtain ⟨rfl, Nq294, Kq294, G294_0, G294_1, G294_2, G294_3, G294_4, G294_5, G294_6, G294_7, G294_8, G294_9⟩ := q294
            have N294 := Fr.app N201 Nq294
            have F295 : Sta Z T294.heap cN_2 "BAD" cN_3 (.ref st_BAD) := sta_keep jf201_0 Kq294 (allS (exa_plain jf201_9) all0)
            have F296 : Exa Z T294.heap st_BAD cN_2 := jf201_1.keep Kq294
            have F297 : Sta Z T294.heap cN_2 "OK" cN_3 (.ref st_OK) := sta_keep jf201_2 Kq294 (allS (exa_plain jf201_9) all0)
            have F298 : Exa Z T294.heap st_OK cN_2 := jf201_3.keep Kq294
            have F299 : Sta Z T294.heap cN_2 "CODED" cN_3 (.ref st_CODED) := sta_keep jf201_4 Kq294 (allS (exa_plain jf201_9) all0)
            have F300 : Exa Z T294.heap st_CODED cN_2 := jf201_5.keep Kq294
            have F301 : Fld Z T294.heap st_BAD cN_1 "ordinal" "I" (.int (2 : Int32)) := jf201_6.keep Kq294 (ninS ne_st_BAD_a179 nin0)
            have F302 : Fld Z T294.heap st_OK cN_1 "ordinal" "I" (.int (0 : Int32)) := jf201_7.keep Kq294 (ninS ne_st_OK_a179 nin0)
            have F303 : Fld Z T294.heap st_CODED cN_1 "ordinal" "I" (.int (1 : Int32)) := jf201_8.keep Kq294 (ninS ne_st_CODED_a179 nin0)
            have F304 : Exa Z T294.heap a179 cN_0 := jf201_9.keep Kq294
            have Z294 : n0 ≤ T294.heap.size := Nat.le_trans Z201 Kq294.1
            have K294 : Keep h0 T294.heap [] := K201.trans Kq294 (allS (Or.inr s_a179) all0)
            dsimp only [Option.toList_some, Option.toList_none, List.cons_append, List.nil_append]
            refine w_goto X294 hx (dB at_144) 178 ?_
            exact J202 _ _ _ (X294.more (by decide) (by decide)) rfl N294 Z294 K294  (0 : Int64) y294 (0 : Int64) F295 F296 F297 F298 F299 F300 F301 F302 F303 F304 G294_5 G294_2 G294_3 G294_7 G294_8 G294_0 G294_6 G294_1 G294_4 G294_9 (by have hy1 : (0 : Int64).toInt = 0 := (by decide); have hy3 : (0 : Int64).toInt = 0 := (by decide); omega)
          refine w_if_eq X200 hx j166_0.toInt rfl (dB at_120) 130 123 (fun c305 => ?_) (fun c305 => ?_)
          ·exact J201 _ _ _ (X200.more (by decide) (by decide)) e200_ N200 Z200 K200  (0 : Int64) (0 : Int64) jf200_0 jf200_1 jf200_2 jf200_3 jf200_4 jf200_5 jf200_6 jf200_7 jf200_8 jf200_9 jf200_10 jf200_11 jf200_12 jf200_13 jf200_14 jf200_15 jf200_16 jf200_17 jf200_18 jf200_19 (by have hy1 : (0 : Int64).toInt = 0 := (by decide); have hy2 : (0 : Int64).toInt = 0 := (by decide); omega)
          ·refine w_aload X200 hx (.ref a179) (dB at_123) 125 rfl rfl rfl ?_
           refine w_iload X200 hx j168_0 (dB at_125) 127 rfl rfl ?_
           refine w_virt X200 hx hZ hown e200_ (rm10 l Z a0 hw [] a179 j168_0 jv200_15 (0 : Int64) (0 : Int64) (0 : Int64) (0 : Int64) (0 : Int64) (0 : Int64) (0 : Int64) (0 : Int64) (0 : Int32) h200 n0 Z200 jf200_9 jf200_15 jf200_17 jf200_11 jf200_12 jf200_18 jf200_10 jf200_16 jf200_13 jf200_14 jf200_19 g_a179 (by have hl_0 : (0 : Int64).toInt = 0 := (by decide); have hl_1 : (0 : Int32).toInt = 0 := (by decide); omega) (by have hl_0 : (0 : Int64).toInt = 0 := (by decide); have hl_1 : (0 : Int32).toInt = 0 := (by decide); omega)) (tw_68 hw) (tw_69 hw) (notFace_of_selects (args := #[]) (mvT hZ (tw_71 hw))) (tw_71 hw) (tw_70 hw) (tw_3 hw) (tw_72 hw) (by decide) a179 jf200_9 (by rw [hml]; rfl) [(.int j168_0)] [] (lenOf pd_4 rfl) rfl rfl (by decide) 0 rfl (by decide) (by decide) (by decide) (dB at_127) 130 rfl (fun r306 T306 L306 X306 q306 => ?_)
           obtain ⟨y306, yb306, fx306, q306⟩ := q306
           try simp only [show ((0 : Int64)).toInt = 0 from by decide] at fx306
           try simp only [show ((0 : Int32)).toInt = 0 from by decide] at fx306
           obtain ⟨rfl, Nq306, Kq306, G306_0, G306_1, G306_2, G306_3, G306_4, G306_5, G306_6, G306_7, G306_8, G306_9⟩ := q306
           have N306 := Fr.app N200 Nq306
           have F307 : Sta Z T306.heap cN_2 "BAD" cN_3 (.ref st_BAD) := sta_keep jf200_0 Kq306 (allS (exa_plain jf200_9) all0)
           have F308 : Exa Z T306.heap st_BAD cN_2 := jf200_1.keep Kq306
           have F309 : Sta Z T306.heap cN_2 "OK" cN_3 (.ref st_OK) := sta_keep jf200_2 Kq306 (allS (exa_plain jf200_9) all0)
           have F310 : Exa Z T306.heap st_OK cN_2 := jf200_3.keep Kq306
           have F311 : Sta Z T306.heap cN_2 "CODED" cN_3 (.ref st_CODED) := sta_keep jf200_4 Kq306 (allS (exa_plain jf200_9) all0)
           have F312 : Exa Z T306.heap st_CODED cN_2 := jf200_5.keep Kq306
           have F313 : Fld Z T306.heap st_BAD cN_1 "ordinal" "I" (.int (2 : Int32)) := jf200_6.keep Kq306 (ninS ne_st_BAD_a179 nin0)
           have F314 : Fld Z T306.heap st_OK cN_1 "ordinal" "I" (.int (0 : Int32)) := jf200_7.keep Kq306 (ninS ne_st_OK_a179 nin0)
           have F315 : Fld Z T306.heap st_CODED cN_1 "ordinal" "I" (.int (1 : Int32)) := jf200_8.keep Kq306 (ninS ne_st_CODED_a179 nin0)
           have F316 : Exa Z T306.heap a179 cN_0 := jf200_9.keep Kq306
           have Z306 : n0 ≤ T306.heap.size := Nat.le_trans Z200 Kq306.1
           have K306 : Keep h0 T306.heap [] := K200.trans Kq306 (allS (Or.inr s_a179) all0)
           dsimp only [Option.toList_some, Option.toList_none, List.cons_append, List.nil_append]
           exact J201 _ _ _ (X306.more (by decide) (by decide)) rfl N306 Z306 K306  yb306 y306 F307 F308 F309 F310 F311 F312 F313 F314 F315 F316 G306_5 G306_2 G306_3 G306_7 G306_8 G306_0 G306_6 G306_1 G306_4 G306_9 (by omega)
         refine w_if_eq X199 hx j164_0.toInt rfl (dB at_111) 119 114 (fun c317 => ?_) (fun c317 => ?_)
         ·exact J200 _ _ _ (X199.more (by decide) (by decide)) eq199 N199 Z179 K179  (0 : Int64) F180 F181 F182 F183 F184 F185 F186 F187 F188 A179 F189 F190 F191 F192 F193 F194 F195 F196 F197 F198 (by have hy1 : (0 : Int64).toInt = 0 := (by decide); omega)
         ·refine w_aload X199 hx (.ref a179) (dB at_114) 116 rfl rfl rfl ?_
          refine w_virt X199 hx hZ hown eq199 (rm8 l Z a0 hw [] a179 (0 : Int64) (0 : Int64) (0 : Int64) (0 : Int64) (0 : Int64) (0 : Int64) (0 : Int64) (0 : Int64) (0 : Int64) (0 : Int32) h179 n0 Z179 A179 F194 F196 F190 F191 F197 F189 F195 F192 F193 F198 g_a179 (by have hl_0 : (0 : Int64).toInt = 0 := (by decide); have hl_1 : (0 : Int32).toInt = 0 := (by decide); omega)) (tw_54 hw) (tw_55 hw) (notFace_of_selects (args := #[]) (mvT hZ (tw_57 hw))) (tw_57 hw) (tw_56 hw) (tw_3 hw) (tw_58 hw) (by decide) a179 A179 (by rw [hml]; rfl) [] [] (lenOf pd_1 rfl) rfl rfl (by decide) 0 rfl (by decide) (by decide) (by decide) (dB at_116) 119 rfl (fun r318 T318 L318 X318 q318 => ?_)
          obtain ⟨y318, fx318, q318⟩ := q318
          try simp only [show ((0 : Int64)).toInt = 0 from by decide] at fx318
          try simp only [show ((0 : Int32)).toInt = 0 from by decide] at fx318
          obtain ⟨rfl, Nq318, Kq318, G318_0, G318_1, G318_2, G318_3, G318_4, G318_5, G318_6, G318_7, G318_8, G318_9⟩ := q318
          have N318 := Fr.app N199 Nq318
          have F319 : Sta Z T318.heap cN_2 "BAD" cN_3 (.ref st_BAD) := sta_keep F180 Kq318 (allS (exa_plain A179) all0)
          have F320 : Exa Z T318.heap st_BAD cN_2 := F181.keep Kq318
          have F321 : Sta Z T318.heap cN_2 "OK" cN_3 (.ref st_OK) := sta_keep F182 Kq318 (allS (exa_plain A179) all0)
          have F322 : Exa Z T318.heap st_OK cN_2 := F183.keep Kq318
          have F323 : Sta Z T318.heap cN_2 "CODED" cN_3 (.ref st_CODED) := sta_keep F184 Kq318 (allS (exa_plain A179) all0)
          have F324 : Exa Z T318.heap st_CODED cN_2 := F185.keep Kq318
          have F325 : Fld Z T318.heap st_BAD cN_1 "ordinal" "I" (.int (2 : Int32)) := F186.keep Kq318 (ninS ne_st_BAD_a179 nin0)
          have F326 : Fld Z T318.heap st_OK cN_1 "ordinal" "I" (.int (0 : Int32)) := F187.keep Kq318 (ninS ne_st_OK_a179 nin0)
          have F327 : Fld Z T318.heap st_CODED cN_1 "ordinal" "I" (.int (1 : Int32)) := F188.keep Kq318 (ninS ne_st_CODED_a179 nin0)
          have F328 : Exa Z T318.heap a179 cN_0 := A179.keep Kq318
          have Z318 : n0 ≤ T318.heap.size := Nat.le_trans Z179 Kq318.1
          have K318 : Keep h0 T318.heap [] := K179.trans Kq318 (allS (Or.inr s_a179) all0)
          dsimp only [Option.toList_some, Option.toList_none, List.cons_append, List.nil_append]
          exact J200 _ _ _ (X318.more (by decide) (by decide)) rfl N318 Z318 K318  y318 F319 F320 F321 F322 F323 F324 F325 F326 F327 F328 G318_5 G318_2 G318_3 G318_7 G318_8 G318_0 G318_6 G318_1 G318_4 G318_9 (by omega)
        refine w_if_eq X0 hx v175.toInt rfl (dB at_83) 90 86 (fun c329 => ?_) (fun c329 => ?_)
        ·refine w_iconst X0 hx (dB at_90) 91 rfl (0 : Int32) (by decide) ?_
         exact J176 (0 : Int32) (by have hz1 : (0 : Int32).toInt = 0 := (by decide); omega)
        ·refine w_iconst X0 hx (dB at_86) 87 rfl (1 : Int32) (by decide) ?_
         refine w_goto X0 hx (dB at_87) 91 ?_
         exact J176 (1 : Int32) (by have hz1 : (1 : Int32).toInt = 1 := (by decide); omega)
       refine w_if_eq X0 hx v173.toInt rfl (dB at_69) 76 72 (fun c330 => ?_) (fun c330 => ?_)
       ·refine w_iconst X0 hx (dB at_76) 77 rfl (0 : Int32) (by decide) ?_
        exact J174 (0 : Int32) (by have hz1 : (0 : Int32).toInt = 0 := (by decide); omega)
       ·refine w_iconst X0 hx (dB at_72) 73 rfl (1 : Int32) (by decide) ?_
        refine w_goto X0 hx (dB at_73) 77 ?_
        exact J174 (1 : Int32) (by have hz1 : (1 : Int32).toInt = 1 := (by decide); omega)
      refine w_if_eq X0 hx v171.toInt rfl (dB at_55) 62 58 (fun c331 => ?_) (fun c331 => ?_)
      ·refine w_iconst X0 hx (dB at_62) 63 rfl (0 : Int32) (by decide) ?_
       exact J172 (0 : Int32) (by have hz1 : (0 : Int32).toInt = 0 := (by decide); omega)
      ·refine w_iconst X0 hx (dB at_58) 59 rfl (1 : Int32) (by decide) ?_
       refine w_goto X0 hx (dB at_59) 63 ?_
       exact J172 (1 : Int32) (by have hz1 : (1 : Int32).toInt = 1 := (by decide); omega)
     refine w_if_eq X0 hx v169.toInt rfl (dB at_41) 48 44 (fun c332 => ?_) (fun c332 => ?_)
     ·refine w_iconst X0 hx (dB at_48) 49 rfl (0 : Int32) (by decide) ?_
      exact J170 (0 : Int32) (by have hz1 : (0 : Int32).toInt = 0 := (by decide); omega)
     ·refine w_iconst X0 hx (dB at_44) 45 rfl (1 : Int32) (by decide) ?_
      refine w_goto X0 hx (dB at_45) 49 ?_
      exact J170 (1 : Int32) (by have hz1 : (1 : Int32).toInt = 1 := (by decide); omega)
    refine w_if_eq X0 hx v167.toInt rfl (dB at_28) 35 31 (fun c333 => ?_) (fun c333 => ?_)
    ·refine w_iconst X0 hx (dB at_35) 36 rfl (0 : Int32) (by decide) ?_
     exact J168 (0 : Int32) (by have hz1 : (0 : Int32).toInt = 0 := (by decide); omega)
    ·refine w_iconst X0 hx (dB at_31) 32 rfl (1 : Int32) (by decide) ?_
     refine w_goto X0 hx (dB at_32) 36 ?_
     exact J168 (1 : Int32) (by have hz1 : (1 : Int32).toInt = 1 := (by decide); omega)
   refine w_if_eq X0 hx v165.toInt rfl (dB at_16) 23 19 (fun c334 => ?_) (fun c334 => ?_)
   ·refine w_iconst X0 hx (dB at_23) 24 rfl (0 : Int32) (by decide) ?_
    exact J166 (0 : Int32) (by have hz1 : (0 : Int32).toInt = 0 := (by decide); omega)
   ·refine w_iconst X0 hx (dB at_19) 20 rfl (1 : Int32) (by decide) ?_
    refine w_goto X0 hx (dB at_20) 24 ?_
    exact J166 (1 : Int32) (by have hz1 : (1 : Int32).toInt = 1 := (by decide); omega)
  refine w_if_eq X0 hx v163.toInt rfl (dB at_4) 11 7 (fun c335 => ?_) (fun c335 => ?_)
  ·refine w_iconst X0 hx (dB at_11) 12 rfl (0 : Int32) (by decide) ?_
   exact J164 (0 : Int32) (by have hz1 : (0 : Int32).toInt = 0 := (by decide); omega)
  ·refine w_iconst X0 hx (dB at_7) 8 rfl (1 : Int32) (by decide) ?_
   refine w_goto X0 hx (dB at_8) 12 ?_
   exact J164 (1 : Int32) (by have hz1 : (1 : Int32).toInt = 1 := (by decide); omega)
set_option maxRecDepth 65536 in
set_option maxHeartbeats 40000000 in
theorem comes_1 {Post : Tables → Env → Array Value → State → Outcome → State → Prop} (hpost : ∀ tb e args s v u, (limb_1_1.after args s (.returned v) u = true ∧ limb_1_2.after args s (.returned v) u = true ∧ True) → FrameEnd s (.returned v) u (Jvm.fieldLocs frame_1_writes args s ++ Jvm.arrayLocs frame_1_arrays args s ++ Jvm.staticLocs frame_1_statics s) 16 128 → Post tb e args s (.returned v) u) :
    ArmFor flags0 classFile x code maxLocals ret World_1 tables_1 room_1 Calls_1 rest_1 Pre_1 Post := by
  intro l hfl _ _ p e ha hc hk s m args below hf hA hF happ hP
  obtain ⟨hcalls, hrest, hpre⟩ := hP
  obtain ⟨-, -, -, hnamed, -, -, -, hat⟩ := (Spec.applies_iff hf).mp happ
  obtain ⟨hg, hn⟩ := and_e (Cond.before_iff.mp (show (Jvm.Cond.and given_1 narrow_1).before args s = true from hpre))
  obtain ⟨gg1, gg2⟩ := and_e hg
  obtain ⟨gg3, gg4⟩ := and_e gg2
  obtain ⟨w0, w1, rfl⟩ : ∃ w0 w1 : Value, args = #[w0, w1] := by
    have hs : args.size = 2 := by simpa [Cond.value, given_1] using gg1
    obtain ⟨L⟩ := args
    match L, hs with
    | [w0, w1], _ => exact ⟨w0, w1, rfl⟩
  have hw := fun d (hd : d ∈ tables_1) => atoms_spec (ws := Jvm.Cond.code x code maxLocals ret :: tables_1) hat d (List.mem_cons_of_mem _ hd)
  have hfit : Fit s := fun {y c} hc i hi => by
    obtain ⟨ha, rfl⟩ := Array.getElem?_eq_some_iff.mp hc
    have q := List.all_eq_true.mp ((Array.all_eq_true_iff_forall_mem.mp hF) _ (Array.getElem_mem ha)) i (List.mem_range.mpr hi)
    simpa [Array.getElem?_eq_getElem hi] using q
  obtain ⟨i0, ei0⟩ := is_v gg3
  obtain rfl : w0 = (.int i0) := Option.some.inj ei0
  obtain ⟨i1, ei1⟩ := is_v gg4
  obtain rfl : w1 = (.int i1) := Option.some.inj ei1
  obtain ⟨ns1, ns2⟩ := and_e hn
  obtain ⟨ns3, ns4⟩ := and_e ns2
  obtain ⟨ns5, ns6⟩ := and_e ns4
  obtain ⟨ns7, ns8⟩ := and_e ns6
  obtain ⟨ns9, ns10⟩ := and_e ns8
  obtain ⟨st_BAD, ev_st_BAD⟩ := exa_v ns1
  have S_st_BAD : Sta s s.heap "com/example/scrinium/scrinium/check/Summary$Grade" "BAD" "Lcom/example/scrinium/scrinium/check/Summary$Grade;" (.ref st_BAD) := Sta.start ev_st_BAD (Or.inr ⟨(tw_11 hw), (tw_12 hw)⟩)
  have E_st_BAD : Exa s s.heap st_BAD "com/example/scrinium/scrinium/check/Summary$Grade" := Exa.start ev_st_BAD ns1
  obtain ⟨st_OK, ev_st_OK⟩ := exa_v ns5
  have S_st_OK : Sta s s.heap "com/example/scrinium/scrinium/check/Summary$Grade" "OK" "Lcom/example/scrinium/scrinium/check/Summary$Grade;" (.ref st_OK) := Sta.start ev_st_OK (Or.inr ⟨(tw_11 hw), (tw_37 hw)⟩)
  have E_st_OK : Exa s s.heap st_OK "com/example/scrinium/scrinium/check/Summary$Grade" := Exa.start ev_st_OK ns5
  obtain ⟨st_CODED, ev_st_CODED⟩ := exa_v ns9
  have S_st_CODED : Sta s s.heap "com/example/scrinium/scrinium/check/Summary$Grade" "CODED" "Lcom/example/scrinium/scrinium/check/Summary$Grade;" (.ref st_CODED) := Sta.start ev_st_CODED (Or.inr ⟨(tw_11 hw), (tw_76 hw)⟩)
  have E_st_CODED : Exa s s.heap st_CODED "com/example/scrinium/scrinium/check/Summary$Grade" := Exa.start ev_st_CODED ns9
  have F_ordinal_st_BAD : Fld s s.heap st_BAD cN_1 "ordinal" "I" (.int (2 : Int32)) := Fld.start ((fld_at ev_st_BAD).symm.trans (eqInt_v ns3))
  have F_ordinal_st_OK : Fld s s.heap st_OK cN_1 "ordinal" "I" (.int (0 : Int32)) := Fld.start ((fld_at ev_st_OK).symm.trans (eqInt_v ns7))
  have F_ordinal_st_CODED : Fld s s.heap st_CODED cN_1 "ordinal" "I" (.int (1 : Int32)) := Fld.start ((fld_at ev_st_CODED).symm.trans (eqInt_v ns10))
  obtain ⟨n, o, h1, h2, h3, _, L, rfl, ⟨rfl, N⟩, hq⟩ := rm0 l s _ hw tables_1 i0 i1 st_BAD st_OK st_CODED s.heap s.heap.size (Nat.le_refl _) S_st_BAD E_st_BAD S_st_OK E_st_OK S_st_CODED E_st_CODED F_ordinal_st_BAD F_ordinal_st_OK F_ordinal_st_CODED p e ha hc hk s m _ below hf ((Spec.applies_iff_loose hf).mp happ).1 ⟨rfl, State.Warmed39.refl s, rfl⟩ trivial
  refine ⟨n, _, h1, h2, h3, hpost _ _ _ _ _ _ ⟨Cond.after_iff.mpr rfl, Cond.after_iff.mpr (eq_i res_at (Term.int_eval (1)) rfl), trivial⟩ ⟨hq.1, hq.2.1, (hq.2.2.sift fun y hy => Or.inr (N y hy)).mono (by decide) (by decide)⟩⟩
theorem main_1_1 : Claimed_1_1 := comes_1 fun _ _ _ _ _ _ h hF => ⟨h.1, hF⟩
theorem main_1_2 : Claimed_1_2 := comes_1 fun _ _ _ _ _ _ h hF => ⟨h.2.1, hF⟩
end Jvm.Pilot.@@N@@
namespace Jvm.Pilot.@@N@@
open Jvm Jvm.ClassFile Sem Op Lib Jvm.Free Jvm.Stand Jvm.Pilot.@@N@@.Jvm.D
/-! MADE BY PROGRAM (witnessworld.py) out of the Statement's table words and the real class files: 13 classes; the members and pool entries that the words name. The judged class is class 1, her method 1. -/
namespace start1
open Jvm.ClassFile
def u (s : String) : CpInfo := .utf8 (stringToUtf16 s)
/-- a pool by its gaps: so many unusable entries, then the entry; so many at the end -/
def gap : Nat → List CpInfo → List CpInfo
  | 0, r => r
  | n + 1, r => .unusable :: gap n r
def poolList (es : List (Nat × CpInfo)) (last : Nat) : List CpInfo := es.foldr (fun e r => gap e.1 (e.2 :: r)) (gap last [])
def pool (es : List (Nat × CpInfo)) (last : Nat) : Array CpInfo := ⟨poolList es last⟩
def fileOf (pool : Array CpInfo) (this : Nat) (attrs : Array Attribute := #[]) (ms : Array MethodInfo := #[]) (fl : Nat := 33) (sup : Nat := 0) (ifs : Array Nat := #[]) (fds : Array FieldInfo := #[]) : ClassFile where
  minorVersion := 0
  majorVersion := 65
  constantPool := pool
  accessFlags := fl
  thisClass := this
  superClass := sup
  interfaces := ifs
  fields := fds
  methods := ms
  attributes := attrs
def plain (name : String) (sup : Option ClassId) : Class where
  name := name
  kind := .ordinary
  loader := none
  accessFlags := 33
  super := sup
  interfaces := #[]
  cf := none
  fields := #[]
  methods := #[]
  instanceTypes := #[]
  staticTypes := #[]
  resolved := #[]
  callSites := []
  init := .initialized
  statics := none
  mirror := none

def pool0 : Array CpInfo := pool [(5, u "<init>"), (0, u "()V"), (1, .class_ 10), (1, u "java/lang/Object")] 113

def k0c0 : Code := { maxStack := 0, maxLocals := 1, code := object_method_1_code, exceptionTable := #[], attributes := #[] }
def k0m0 : Method := { name := "<init>", desc := "()V", sig := { parameters := [], returnType := none }, accessFlags := 1, code := some k0c0 }
/-- java/lang/Object -/
def k0 : Class := { plain "java/lang/Object" none with
  accessFlags := 33
  interfaces := #[]
  cf := some (fileOf pool0 8 #[] #[{ accessFlags := 1, nameIndex := 5, descriptorIndex := 6, attributes := #[] }] 33 0 #[] #[])
  fields := #[]
  methods := #[k0m0]
  instanceTypes := #[]
  staticTypes := #[]
  resolved := Array.replicate 124 none
  statics := none }

def pool1 : Array CpInfo := pool [(2, .class_ 4), (0, .nameAndType 5 6), (0, u "java/lang/Object"), (0, u "<init>"), (0, u "()V"), (0, .integer 2147483647), (0, .class_ 9), (0, u "com/example/scrinium/scrinium/check/Summary"), (0, .methodref 8 3), (0, .methodref 8 12), (0, .nameAndType 13 6), (0, u "countRecord"), (0, .methodref 8 15), (0, .nameAndType 16 17), (0, u "countBlock"), (0, u "(Z)V"), (0, .fieldref 19 20), (0, .class_ 21), (0, .nameAndType 22 23), (0, u "com/example/scrinium/scrinium/check/Summary$Grade"), (0, u "OK"), (0, u "Lcom/example/scrinium/scrinium/check/Summary$Grade;"), (0, .methodref 8 25), (0, .nameAndType 26 27), (0, u "countPayload"), (0, u "(Lcom/example/scrinium/scrinium/check/Summary$Grade;)V"), (0, .fieldref 19 29), (0, .nameAndType 30 23), (0, u "CODED"), (0, .fieldref 19 32), (0, .nameAndType 33 23), (0, u "BAD"), (0, .methodref 8 35), (0, .nameAndType 36 6), (0, u "countPayloadUnchecked"), (0, .methodref 8 38), (0, .nameAndType 39 6), (0, u "countTrailerBad"), (0, .methodref 8 41), (0, .nameAndType 42 6), (0, u "countSegmentBad"), (0, .methodref 8 44), (0, .nameAndType 45 6), (0, u "countCut"), (0, .methodref 8 47), (0, .nameAndType 48 49), (0, u "damaged"), (0, u "()Z"), (0, .class_ 51), (0, u "com/example/scrinium/scrinium/check/SummaryDamagedPinLaw"), (2, u "law"), (0, u "(II)Z")] 5

def k1m0 : Method := { name := "<init>", desc := "()V", sig := { parameters := [], returnType := none }, accessFlags := 1, code := none }
def k1c1 : Code := { maxStack := 2, maxLocals := 12, code := code, exceptionTable := #[], attributes := #[] }
def k1m1 : Method := { name := "law", desc := "(II)Z", sig := { parameters := [.int, .int], returnType := some .boolean }, accessFlags := 9, code := some k1c1 }
/-- com/example/scrinium/scrinium/check/SummaryDamagedPinLaw -/
def k1 : Class := { plain "com/example/scrinium/scrinium/check/SummaryDamagedPinLaw" (some 0) with
  accessFlags := 49
  interfaces := #[]
  cf := some (fileOf pool1 50 #[] #[{ accessFlags := 1, nameIndex := 5, descriptorIndex := 6, attributes := #[] }, { accessFlags := 9, nameIndex := 54, descriptorIndex := 55, attributes := #[] }] 49 2 #[] #[])
  fields := #[]
  methods := #[k1m0, k1m1]
  instanceTypes := #[]
  staticTypes := #[]
  resolved := Array.replicate 61 none
  statics := none }

def pool2 : Array CpInfo := pool [(1, .methodref 2 3), (0, .class_ 4), (0, .nameAndType 5 6), (0, u "java/lang/Object"), (0, u "<init>"), (0, u "()V"), (0, .fieldref 8 9), (0, .class_ 10), (0, .nameAndType 11 12), (0, u "com/example/scrinium/scrinium/check/Summary"), (0, u "records"), (0, u "J"), (0, .fieldref 8 14), (0, .nameAndType 15 12), (0, u "blockOk"), (0, .fieldref 8 17), (0, .nameAndType 18 12), (0, u "blockBad"), (0, .fieldref 8 20), (0, .nameAndType 21 12), (0, u "payloadOk"), (0, .fieldref 8 23), (0, .nameAndType 24 12), (0, u "payloadCoded"), (0, .fieldref 8 26), (0, .nameAndType 27 12), (0, u "payloadBad"), (0, .fieldref 8 29), (0, .nameAndType 30 12), (0, u "payloadUnchecked"), (0, .fieldref 8 32), (0, .nameAndType 33 12), (0, u "trailerBad"), (0, .fieldref 8 35), (0, .nameAndType 36 12), (0, u "segmentBad"), (0, .fieldref 8 38), (0, .nameAndType 39 40), (0, u "cut"), (0, u "Z"), (0, .methodref 42 43), (0, .class_ 44), (0, .nameAndType 45 46), (0, u "com/example/scrinium/scrinium/check/Summary$Grade"), (0, u "ordinal"), (0, u "()I"), (3, u "()Z"), (0, u "damaged"), (1, u "countRecord"), (0, u "countBlock"), (0, u "(Z)V"), (0, u "countPayload"), (0, u "(Lcom/example/scrinium/scrinium/check/Summary$Grade;)V"), (0, u "countPayloadUnchecked"), (0, u "countTrailerBad"), (0, u "countSegmentBad"), (0, u "countCut")] 5

def k2c0 : Code := { maxStack := 1, maxLocals := 1, code := prog_7_method_1_code, exceptionTable := #[], attributes := #[] }
def k2m0 : Method := { name := "<init>", desc := "()V", sig := { parameters := [], returnType := none }, accessFlags := 1, code := some k2c0 }
def k2c1 : Code := { maxStack := 4, maxLocals := 1, code := prog_7_method_12_code, exceptionTable := #[], attributes := #[] }
def k2m1 : Method := { name := "damaged", desc := "()Z", sig := { parameters := [], returnType := some .boolean }, accessFlags := 1, code := some k2c1 }
def k2c2 : Code := { maxStack := 5, maxLocals := 1, code := prog_7_method_13_code, exceptionTable := #[], attributes := #[] }
def k2m2 : Method := { name := "countRecord", desc := "()V", sig := { parameters := [], returnType := none }, accessFlags := 0, code := some k2c2 }
def k2c3 : Code := { maxStack := 5, maxLocals := 2, code := prog_7_method_14_code, exceptionTable := #[], attributes := #[] }
def k2m3 : Method := { name := "countBlock", desc := "(Z)V", sig := { parameters := [.boolean], returnType := none }, accessFlags := 0, code := some k2c3 }
def k2c4 : Code := { maxStack := 5, maxLocals := 2, code := prog_7_method_15_code, exceptionTable := #[], attributes := #[] }
def k2m4 : Method := { name := "countPayload", desc := "(Lcom/example/scrinium/scrinium/check/Summary$Grade;)V", sig := { parameters := [(.object "com/example/scrinium/scrinium/check/Summary$Grade")], returnType := none }, accessFlags := 0, code := some k2c4 }
def k2c5 : Code := { maxStack := 5, maxLocals := 1, code := prog_7_method_16_code, exceptionTable := #[], attributes := #[] }
def k2m5 : Method := { name := "countPayloadUnchecked", desc := "()V", sig := { parameters := [], returnType := none }, accessFlags := 0, code := some k2c5 }
def k2c6 : Code := { maxStack := 5, maxLocals := 1, code := prog_7_method_17_code, exceptionTable := #[], attributes := #[] }
def k2m6 : Method := { name := "countTrailerBad", desc := "()V", sig := { parameters := [], returnType := none }, accessFlags := 0, code := some k2c6 }
def k2c7 : Code := { maxStack := 5, maxLocals := 1, code := prog_7_method_18_code, exceptionTable := #[], attributes := #[] }
def k2m7 : Method := { name := "countSegmentBad", desc := "()V", sig := { parameters := [], returnType := none }, accessFlags := 0, code := some k2c7 }
def k2c8 : Code := { maxStack := 2, maxLocals := 1, code := prog_7_method_19_code, exceptionTable := #[], attributes := #[] }
def k2m8 : Method := { name := "countCut", desc := "()V", sig := { parameters := [], returnType := none }, accessFlags := 0, code := some k2c8 }
/-- com/example/scrinium/scrinium/check/Summary -/
def k2 : Class := { plain "com/example/scrinium/scrinium/check/Summary" (some 0) with
  accessFlags := 33
  interfaces := #[]
  cf := some (fileOf pool2 8 #[.nestMembers #[42]] #[{ accessFlags := 1, nameIndex := 5, descriptorIndex := 6, attributes := #[] }, { accessFlags := 1, nameIndex := 51, descriptorIndex := 50, attributes := #[] }, { accessFlags := 0, nameIndex := 53, descriptorIndex := 6, attributes := #[] }, { accessFlags := 0, nameIndex := 54, descriptorIndex := 55, attributes := #[] }, { accessFlags := 0, nameIndex := 56, descriptorIndex := 57, attributes := #[] }, { accessFlags := 0, nameIndex := 58, descriptorIndex := 6, attributes := #[] }, { accessFlags := 0, nameIndex := 59, descriptorIndex := 6, attributes := #[] }, { accessFlags := 0, nameIndex := 60, descriptorIndex := 6, attributes := #[] }, { accessFlags := 0, nameIndex := 61, descriptorIndex := 6, attributes := #[] }] 33 2 #[] #[{ accessFlags := 2, nameIndex := 11, descriptorIndex := 12, attributes := #[] }, { accessFlags := 2, nameIndex := 15, descriptorIndex := 12, attributes := #[] }, { accessFlags := 2, nameIndex := 18, descriptorIndex := 12, attributes := #[] }, { accessFlags := 2, nameIndex := 21, descriptorIndex := 12, attributes := #[] }, { accessFlags := 2, nameIndex := 24, descriptorIndex := 12, attributes := #[] }, { accessFlags := 2, nameIndex := 27, descriptorIndex := 12, attributes := #[] }, { accessFlags := 2, nameIndex := 30, descriptorIndex := 12, attributes := #[] }, { accessFlags := 2, nameIndex := 33, descriptorIndex := 12, attributes := #[] }, { accessFlags := 2, nameIndex := 36, descriptorIndex := 12, attributes := #[] }, { accessFlags := 2, nameIndex := 39, descriptorIndex := 40, attributes := #[] }])
  fields := #[{ name := "records", type := .long, accessFlags := 2, slot := 0, constantValue := 0 }, { name := "blockOk", type := .long, accessFlags := 2, slot := 1, constantValue := 0 }, { name := "blockBad", type := .long, accessFlags := 2, slot := 2, constantValue := 0 }, { name := "payloadOk", type := .long, accessFlags := 2, slot := 3, constantValue := 0 }, { name := "payloadCoded", type := .long, accessFlags := 2, slot := 4, constantValue := 0 }, { name := "payloadBad", type := .long, accessFlags := 2, slot := 5, constantValue := 0 }, { name := "payloadUnchecked", type := .long, accessFlags := 2, slot := 6, constantValue := 0 }, { name := "trailerBad", type := .long, accessFlags := 2, slot := 7, constantValue := 0 }, { name := "segmentBad", type := .long, accessFlags := 2, slot := 8, constantValue := 0 }, { name := "cut", type := .boolean, accessFlags := 2, slot := 9, constantValue := 0 }]
  methods := #[k2m0, k2m1, k2m2, k2m3, k2m4, k2m5, k2m6, k2m7, k2m8]
  instanceTypes := #[.long, .long, .long, .long, .long, .long, .long, .long, .long, .boolean]
  staticTypes := #[]
  resolved := Array.replicate 67 none
  statics := none }

def pool3 : Array CpInfo := pool [(1, .class_ 2), (0, u "java/lang/constant/Constable"), (0, .class_ 4), (0, u "java/lang/Object")] 6

/-- java/lang/constant/Constable -/
def k3 : Class := { plain "java/lang/constant/Constable" (some 0) with
  accessFlags := 1537
  interfaces := #[]
  cf := some (fileOf pool3 1 #[] #[] 1537 3 #[] #[])
  fields := #[]
  methods := #[]
  instanceTypes := #[]
  staticTypes := #[]
  resolved := Array.replicate 11 none
  statics := none }

def pool4 : Array CpInfo := pool [(1, .class_ 2), (0, u "java/lang/Comparable"), (0, .class_ 4), (0, u "java/lang/Object")] 7

/-- java/lang/Comparable -/
def k4 : Class := { plain "java/lang/Comparable" (some 0) with
  accessFlags := 1537
  interfaces := #[]
  cf := some (fileOf pool4 1 #[] #[] 1537 3 #[] #[])
  fields := #[]
  methods := #[]
  instanceTypes := #[]
  staticTypes := #[]
  resolved := Array.replicate 12 none
  statics := none }

def pool5 : Array CpInfo := pool [(1, .class_ 2), (0, u "java/io/Serializable"), (0, .class_ 4), (0, u "java/lang/Object")] 2

/-- java/io/Serializable -/
def k5 : Class := { plain "java/io/Serializable" (some 0) with
  accessFlags := 1537
  interfaces := #[]
  cf := some (fileOf pool5 1 #[] #[] 1537 3 #[] #[])
  fields := #[]
  methods := #[]
  instanceTypes := #[]
  staticTypes := #[]
  resolved := Array.replicate 7 none
  statics := none }

def pool6 : Array CpInfo := pool [(2, .class_ 4), (1, u "java/lang/Enum"), (0, u "name"), (0, u "Ljava/lang/String;"), (0, .fieldref 2 8), (0, .nameAndType 9 10), (0, u "ordinal"), (0, u "I"), (1, .class_ 14), (1, u "java/lang/Object"), (4, u "hash"), (86, .class_ 108), (1, u "java/lang/Enum$EnumDesc"), (2, .class_ 112), (0, u "java/lang/constant/Constable"), (0, .class_ 114), (0, u "java/lang/Comparable"), (0, .class_ 116), (0, u "java/io/Serializable"), (9, u "()I")] 77

def k6c0 : Code := { maxStack := 1, maxLocals := 1, code := jdk_37_method_2_code, exceptionTable := #[], attributes := #[] }
def k6m0 : Method := { name := "ordinal", desc := "()I", sig := { parameters := [], returnType := some .int }, accessFlags := 17, code := some k6c0 }
/-- java/lang/Enum -/
def k6 : Class := { plain "java/lang/Enum" (some 0) with
  accessFlags := 1057
  interfaces := #[3, 4, 5]
  cf := some (fileOf pool6 2 #[.nestMembers #[106]] #[{ accessFlags := 17, nameIndex := 9, descriptorIndex := 126, attributes := #[] }] 1057 12 #[111, 113, 115] #[{ accessFlags := 18, nameIndex := 5, descriptorIndex := 6, attributes := #[] }, { accessFlags := 18, nameIndex := 9, descriptorIndex := 10, attributes := #[] }, { accessFlags := 2, nameIndex := 19, descriptorIndex := 10, attributes := #[] }])
  fields := #[{ name := "name", type := (.object "java/lang/String"), accessFlags := 18, slot := 0, constantValue := 0 }, { name := "ordinal", type := .int, accessFlags := 18, slot := 1, constantValue := 0 }, { name := "hash", type := .int, accessFlags := 2, slot := 2, constantValue := 0 }]
  methods := #[k6m0]
  instanceTypes := #[(.object "java/lang/String"), .int, .int]
  staticTypes := #[]
  resolved := Array.replicate 204 none
  statics := none }

def pool7 : Array CpInfo := pool [(1, .class_ 2), (0, u "com/example/scrinium/scrinium/check/Summary$Grade"), (2, u "OK"), (0, u "Lcom/example/scrinium/scrinium/check/Summary$Grade;"), (2, u "CODED"), (2, u "BAD"), (2, u "$VALUES"), (0, u "[Lcom/example/scrinium/scrinium/check/Summary$Grade;"), (6, .class_ 25), (1, u "java/lang/Enum"), (26, .class_ 53), (0, u "com/example/scrinium/scrinium/check/Summary")] 2

/-- com/example/scrinium/scrinium/check/Summary$Grade -/
def k7 : Class := { plain "com/example/scrinium/scrinium/check/Summary$Grade" (some 6) with
  accessFlags := 16432
  interfaces := #[]
  cf := some (fileOf pool7 1 #[.nestHost 52] #[] 16432 23 #[] #[{ accessFlags := 16409, nameIndex := 5, descriptorIndex := 6, attributes := #[] }, { accessFlags := 16409, nameIndex := 9, descriptorIndex := 6, attributes := #[] }, { accessFlags := 16409, nameIndex := 12, descriptorIndex := 6, attributes := #[] }, { accessFlags := 4122, nameIndex := 15, descriptorIndex := 16, attributes := #[] }])
  fields := #[{ name := "OK", type := (.object "com/example/scrinium/scrinium/check/Summary$Grade"), accessFlags := 16409, slot := 0, constantValue := 0 }, { name := "CODED", type := (.object "com/example/scrinium/scrinium/check/Summary$Grade"), accessFlags := 16409, slot := 1, constantValue := 0 }, { name := "BAD", type := (.object "com/example/scrinium/scrinium/check/Summary$Grade"), accessFlags := 16409, slot := 2, constantValue := 0 }, { name := "$VALUES", type := (.array (.object "com/example/scrinium/scrinium/check/Summary$Grade")), accessFlags := 4122, slot := 3, constantValue := 0 }]
  methods := #[]
  instanceTypes := #[(.object "java/lang/String"), .int, .int]
  staticTypes := #[(.object "com/example/scrinium/scrinium/check/Summary$Grade"), (.object "com/example/scrinium/scrinium/check/Summary$Grade"), (.object "com/example/scrinium/scrinium/check/Summary$Grade"), (.array (.object "com/example/scrinium/scrinium/check/Summary$Grade"))]
  resolved := Array.replicate 56 none
  statics := some 0 }

def pool8 : Array CpInfo := pool [(1, u "java/lang/Cloneable"), (0, .class_ 1), (0, u "java/lang/Object"), (0, .class_ 3)] 3

/-- java/lang/Cloneable -/
def k8 : Class := { plain "java/lang/Cloneable" (some 0) with
  accessFlags := 1537
  interfaces := #[]
  cf := some (fileOf pool8 2 #[] #[] 1537 4 #[] #[])
  fields := #[]
  methods := #[]
  instanceTypes := #[]
  staticTypes := #[]
  resolved := Array.replicate 8 none
  statics := none }

/-- the primitive byte -/
def k9 : Class := { plain "byte" none with kind := .primitive 'B', accessFlags := 0x411 }
/-- [B -/
def k10 : Class := { plain "[B" (some 0) with kind := .array 9 .byte, interfaces := #[8, 5], accessFlags := 1041 }

/-- the primitive int -/
def k11 : Class := { plain "int" none with kind := .primitive 'I', accessFlags := 0x411 }
/-- [I -/
def k12 : Class := { plain "[I" (some 0) with kind := .array 11 .int, interfaces := #[8, 5], accessFlags := 1041 }

def heap : Heap := #[{ cls := 7, slots := #[.ref 1, .ref 2, .ref 3, .null], vm := .statics 7 },
  { cls := 7, slots := #[.null, .int 0, .int 0], vm := .none },
  { cls := 7, slots := #[.null, .int 1, .int 0], vm := .none },
  { cls := 7, slots := #[.null, .int 2, .int 0], vm := .none }]
def classes : Array Class := #[k0, k1, k2, k3, k4, k5, k6, k7, k8, k9, k10, k11, k12]
def interned : List (Array UInt16 × Addr) := []
def slotsUsed : Nat := 13
def theMethod : MethodId := ⟨1, 1⟩
def args0 : Array Value := #[.int 5, .int 7]
def aboutOver (below : List Frame) : State where
  vm := { classes := classes, interned := interned.toArray }
  heap := heap
  slotsUsed := slotsUsed
  threads := #[{ frames := .invoking theMethod args0 :: below }]
def below0 : List Frame := [.native { method := ⟨0, 0⟩, args := #[] }]
def about1 : State := aboutOver below0
def p0 : Program := .bare "" "" ""
def e0 : Env := launch0.env 0 0 0
theorem w_frames : about1.frames = Frame.invoking theMethod args0 :: below0 := rfl
set_option maxRecDepth 65536 in
theorem w_args : argsFit about1.vm theMethod args0 = true := by decide +kernel
set_option maxRecDepth 65536 in
theorem w_heap : heapFits about1 = true := by decide +kernel
set_option maxRecDepth 65536 in
theorem w_runnable : about1.curStatus? = some .runnable := by decide +kernel
set_option maxRecDepth 65536 in
theorem w_alone : about1.alone = true := by decide +kernel
set_option maxRecDepth 65536 in
theorem w_named : about1.methodNamed? x = some theMethod := by decide +kernel
set_option maxRecDepth 65536 in
theorem w_hears : about1.hears theMethod below0 = true := by decide +kernel
set_option maxRecDepth 65536 in
theorem w_ripe : about1.ripe theMethod args0 below0 = true := by decide +kernel
theorem w_running : about1.status = .running := rfl
set_option maxRecDepth 65536 in
theorem w_room : about1.hasRoom e0.platform room_1 = true :=
  launch0.hasRoom_least _ room_1 (by decide +kernel) (by decide +kernel) (by decide +kernel) (by decide +kernel) (by decide +kernel) (by decide +kernel)
theorem allAtoms_all (ts : List Jvm.Cond) (a : Array Jvm.Value) (st : Jvm.State) : (allAtoms ts).before a st = ts.all (fun c => c.before a st) := by
  induction ts with
  | nil => rfl
  | cons c t ih =>
    show (Jvm.Cond.and c (allAtoms t)).before a st = _
    rw [Jvm.Cond.before_and, ih, List.all_cons]
def words1 : List Jvm.Cond := Jvm.Cond.code x code maxLocals ret :: tables_1
/-- a 'code' word, met by the world's own term for the bytes: nothing is compared byte by byte -/
theorem code_word {y : MethodName} {bytes : ByteArray} {mx : Nat} {rt : Option FieldType} {a : Array Value} {s : State} {m : MethodId} {meth : Method} {c : Code} (h1 : s.methodNamed? y = some m) (h2 : s.vm.method? m = some meth) (h3 : meth.code = some c) (h4 : c.code = bytes)
    (h5 : (c.maxLocals == mx && c.exceptionTable.isEmpty && decide (c.maxStack ≤ mostOperands) && decide (meth.sig.returnType = rt) && !meth.locks && decide (parseMethodDescriptor y.desc = some meth.sig)) = true) : (Jvm.Cond.code y bytes mx rt).before a s = true := by
  simp only [Bool.and_eq_true, beq_iff_eq, Bool.not_eq_true', decide_eq_true_eq] at h5
  obtain ⟨⟨⟨⟨⟨g1, g2⟩, g3⟩, g4⟩, g5⟩, g6⟩ := h5
  simp [Cond.before, Cond.holds, Cond.value, h1, h2, h3, h4, g1, g2, g3, g4, g5, g6]
def isCode : Jvm.Cond → Bool
  | .code _ _ _ _ => true
  | _ => false
theorem all_split {L : List Jvm.Cond} {P : Jvm.Cond → Bool} (h1 : L.all (fun c => isCode c || P c) = true) (h2 : ∀ c ∈ L.filter isCode, P c = true) : L.all P = true := by
  refine List.all_eq_true.mpr fun c hc => ?_
  have h := List.all_eq_true.mp h1 c hc
  rcases Bool.eq_false_or_eq_true (isCode c) with hi | hi
  · exact h2 c (List.mem_filter.mpr ⟨hc, hi⟩)
  · simpa [hi] using h
set_option maxRecDepth 65536 in
theorem w_c0 : (Jvm.Cond.code x code maxLocals ret).before args0 about1 = true := code_word (m := ⟨1, 1⟩) (meth := k1m1) (c := k1c1) (by decide +kernel) rfl rfl rfl (by decide +kernel)
set_option maxRecDepth 65536 in
theorem w_c1 : (Jvm.Cond.code ({ cls := "com/example/scrinium/scrinium/check/Summary", name := "<init>", desc := "()V" } : Jvm.MethodName) prog_7_method_1_code (1 : Nat) (Option.none : Option Jvm.ClassFile.FieldType)).before args0 about1 = true := code_word (m := ⟨2, 0⟩) (meth := k2m0) (c := k2c0) (by decide +kernel) rfl rfl rfl (by decide +kernel)
set_option maxRecDepth 65536 in
theorem w_c2 : (Jvm.Cond.code ({ cls := "java/lang/Object", name := "<init>", desc := "()V" } : Jvm.MethodName) object_method_1_code (1 : Nat) (Option.none : Option Jvm.ClassFile.FieldType)).before args0 about1 = true := code_word (m := ⟨0, 0⟩) (meth := k0m0) (c := k0c0) (by decide +kernel) rfl rfl rfl (by decide +kernel)
set_option maxRecDepth 65536 in
theorem w_c3 : (Jvm.Cond.code ({ cls := "com/example/scrinium/scrinium/check/Summary", name := "countPayload", desc := "(Lcom/example/scrinium/scrinium/check/Summary$Grade;)V" } : Jvm.MethodName) prog_7_method_15_code (2 : Nat) (Option.none : Option Jvm.ClassFile.FieldType)).before args0 about1 = true := code_word (m := ⟨2, 4⟩) (meth := k2m4) (c := k2c4) (by decide +kernel) rfl rfl rfl (by decide +kernel)
set_option maxRecDepth 65536 in
theorem w_c4 : (Jvm.Cond.code ({ cls := "java/lang/Enum", name := "ordinal", desc := "()I" } : Jvm.MethodName) jdk_37_method_2_code (1 : Nat) (Option.some Jvm.ClassFile.FieldType.int)).before args0 about1 = true := code_word (m := ⟨6, 0⟩) (meth := k6m0) (c := k6c0) (by decide +kernel) rfl rfl rfl (by decide +kernel)
set_option maxRecDepth 65536 in
theorem w_c5 : (Jvm.Cond.code ({ cls := "com/example/scrinium/scrinium/check/Summary", name := "damaged", desc := "()Z" } : Jvm.MethodName) prog_7_method_12_code (1 : Nat) (Option.some Jvm.ClassFile.FieldType.boolean)).before args0 about1 = true := code_word (m := ⟨2, 1⟩) (meth := k2m1) (c := k2c1) (by decide +kernel) rfl rfl rfl (by decide +kernel)
set_option maxRecDepth 65536 in
theorem w_c6 : (Jvm.Cond.code ({ cls := "com/example/scrinium/scrinium/check/Summary", name := "countTrailerBad", desc := "()V" } : Jvm.MethodName) prog_7_method_17_code (1 : Nat) (Option.none : Option Jvm.ClassFile.FieldType)).before args0 about1 = true := code_word (m := ⟨2, 6⟩) (meth := k2m6) (c := k2c6) (by decide +kernel) rfl rfl rfl (by decide +kernel)
set_option maxRecDepth 65536 in
theorem w_c7 : (Jvm.Cond.code ({ cls := "com/example/scrinium/scrinium/check/Summary", name := "countSegmentBad", desc := "()V" } : Jvm.MethodName) prog_7_method_18_code (1 : Nat) (Option.none : Option Jvm.ClassFile.FieldType)).before args0 about1 = true := code_word (m := ⟨2, 7⟩) (meth := k2m7) (c := k2c7) (by decide +kernel) rfl rfl rfl (by decide +kernel)
set_option maxRecDepth 65536 in
theorem w_c8 : (Jvm.Cond.code ({ cls := "com/example/scrinium/scrinium/check/Summary", name := "countRecord", desc := "()V" } : Jvm.MethodName) prog_7_method_13_code (1 : Nat) (Option.none : Option Jvm.ClassFile.FieldType)).before args0 about1 = true := code_word (m := ⟨2, 2⟩) (meth := k2m2) (c := k2c2) (by decide +kernel) rfl rfl rfl (by decide +kernel)
set_option maxRecDepth 65536 in
theorem w_c9 : (Jvm.Cond.code ({ cls := "com/example/scrinium/scrinium/check/Summary", name := "countPayloadUnchecked", desc := "()V" } : Jvm.MethodName) prog_7_method_16_code (1 : Nat) (Option.none : Option Jvm.ClassFile.FieldType)).before args0 about1 = true := code_word (m := ⟨2, 5⟩) (meth := k2m5) (c := k2c5) (by decide +kernel) rfl rfl rfl (by decide +kernel)
set_option maxRecDepth 65536 in
theorem w_c10 : (Jvm.Cond.code ({ cls := "com/example/scrinium/scrinium/check/Summary", name := "countBlock", desc := "(Z)V" } : Jvm.MethodName) prog_7_method_14_code (2 : Nat) (Option.none : Option Jvm.ClassFile.FieldType)).before args0 about1 = true := code_word (m := ⟨2, 3⟩) (meth := k2m3) (c := k2c3) (by decide +kernel) rfl rfl rfl (by decide +kernel)
set_option maxRecDepth 65536 in
theorem w_c11 : (Jvm.Cond.code ({ cls := "com/example/scrinium/scrinium/check/Summary", name := "countCut", desc := "()V" } : Jvm.MethodName) prog_7_method_19_code (1 : Nat) (Option.none : Option Jvm.ClassFile.FieldType)).before args0 about1 = true := code_word (m := ⟨2, 8⟩) (meth := k2m8) (c := k2c8) (by decide +kernel) rfl rfl rfl (by decide +kernel)
def codes1 : List Jvm.Cond := [Jvm.Cond.code x code maxLocals ret, Jvm.Cond.code ({ cls := "com/example/scrinium/scrinium/check/Summary", name := "<init>", desc := "()V" } : Jvm.MethodName) prog_7_method_1_code (1 : Nat) (Option.none : Option Jvm.ClassFile.FieldType), Jvm.Cond.code ({ cls := "java/lang/Object", name := "<init>", desc := "()V" } : Jvm.MethodName) object_method_1_code (1 : Nat) (Option.none : Option Jvm.ClassFile.FieldType), Jvm.Cond.code ({ cls := "com/example/scrinium/scrinium/check/Summary", name := "countPayload", desc := "(Lcom/example/scrinium/scrinium/check/Summary$Grade;)V" } : Jvm.MethodName) prog_7_method_15_code (2 : Nat) (Option.none : Option Jvm.ClassFile.FieldType), Jvm.Cond.code ({ cls := "java/lang/Enum", name := "ordinal", desc := "()I" } : Jvm.MethodName) jdk_37_method_2_code (1 : Nat) (Option.some Jvm.ClassFile.FieldType.int), Jvm.Cond.code ({ cls := "com/example/scrinium/scrinium/check/Summary", name := "damaged", desc := "()Z" } : Jvm.MethodName) prog_7_method_12_code (1 : Nat) (Option.some Jvm.ClassFile.FieldType.boolean), Jvm.Cond.code ({ cls := "com/example/scrinium/scrinium/check/Summary", name := "countTrailerBad", desc := "()V" } : Jvm.MethodName) prog_7_method_17_code (1 : Nat) (Option.none : Option Jvm.ClassFile.FieldType), Jvm.Cond.code ({ cls := "com/example/scrinium/scrinium/check/Summary", name := "countSegmentBad", desc := "()V" } : Jvm.MethodName) prog_7_method_18_code (1 : Nat) (Option.none : Option Jvm.ClassFile.FieldType), Jvm.Cond.code ({ cls := "com/example/scrinium/scrinium/check/Summary", name := "countRecord", desc := "()V" } : Jvm.MethodName) prog_7_method_13_code (1 : Nat) (Option.none : Option Jvm.ClassFile.FieldType), Jvm.Cond.code ({ cls := "com/example/scrinium/scrinium/check/Summary", name := "countPayloadUnchecked", desc := "()V" } : Jvm.MethodName) prog_7_method_16_code (1 : Nat) (Option.none : Option Jvm.ClassFile.FieldType), Jvm.Cond.code ({ cls := "com/example/scrinium/scrinium/check/Summary", name := "countBlock", desc := "(Z)V" } : Jvm.MethodName) prog_7_method_14_code (2 : Nat) (Option.none : Option Jvm.ClassFile.FieldType), Jvm.Cond.code ({ cls := "com/example/scrinium/scrinium/check/Summary", name := "countCut", desc := "()V" } : Jvm.MethodName) prog_7_method_19_code (1 : Nat) (Option.none : Option Jvm.ClassFile.FieldType)]
set_option maxRecDepth 65536 in
theorem codes_eq : words1.filter isCode = codes1 := rfl
theorem w_codes : ∀ c ∈ words1.filter isCode, c.before args0 about1 = true := by
  rw [codes_eq]
  intro c hc
  simp only [codes1, List.mem_cons, List.not_mem_nil, or_false] at hc
  rcases hc with rfl | rfl | rfl | rfl | rfl | rfl | rfl | rfl | rfl | rfl | rfl | rfl
  · exact w_c0
  · exact w_c1
  · exact w_c2
  · exact w_c3
  · exact w_c4
  · exact w_c5
  · exact w_c6
  · exact w_c7
  · exact w_c8
  · exact w_c9
  · exact w_c10
  · exact w_c11
set_option maxRecDepth 65536 in
theorem w_t1 : (words1.take 24).all (fun c => isCode c || c.before args0 about1) = true := by decide +kernel
set_option maxRecDepth 65536 in
theorem w_t2 : ((words1.drop 24).take 24).all (fun c => isCode c || c.before args0 about1) = true := by decide +kernel
set_option maxRecDepth 65536 in
theorem w_t3 : (((words1.drop 24).drop 24).take 24).all (fun c => isCode c || c.before args0 about1) = true := by decide +kernel
set_option maxRecDepth 65536 in
theorem w_t4 : (((words1.drop 24).drop 24).drop 24).all (fun c => isCode c || c.before args0 about1) = true := by decide +kernel
theorem w_tables : (allAtoms (Jvm.Cond.code x code maxLocals ret :: tables_1)).before args0 about1 = true := by
  rw [allAtoms_all]
  show words1.all (fun c => c.before args0 about1) = true
  refine all_split ?_ w_codes
  rw [← List.take_append_drop 24 words1, List.all_append, w_t1, ← List.take_append_drop 24 (words1.drop 24), List.all_append, w_t2, ← List.take_append_drop 24 ((words1.drop 24).drop 24), List.all_append, w_t3, w_t4]
  rfl
set_option maxRecDepth 65536 in
theorem w_case : (Jvm.Cond.and given_1 narrow_1).before args0 about1 = true := by decide +kernel
theorem w_applies : (headSpec (Jvm.Cond.code x code maxLocals ret :: tables_1) room_1).applies x e0.platform about1 = true :=
  (Spec.applies_iff w_frames).mpr ⟨w_running, w_runnable, w_alone, w_named, w_hears, w_ripe, w_room, w_tables⟩
theorem atStart : AtStart classFile x code maxLocals ret World_1 tables_1 room_1 Calls_1 rest_1 Pre_1 launch0 p0 e0 about1 theMethod args0 below0 :=
  ⟨lists_1, trivial, launch0.admits_env _ _ _, launch0.least_env, fairChoices_fair.cas, fairChoices_fair.clock, w_frames, w_args, w_heap, w_applies, trivial, trivial, w_case⟩
end start1
theorem witness_1 : WitnessClaimed_1 := ⟨start1.p0, start1.e0, start1.about1, start1.theMethod, start1.args0, start1.below0, start1.atStart⟩
end Jvm.Pilot.@@N@@
