import JvmDerived
import JvmDerived.Pilot.@@N@@Statement
import JvmDerived.Pilot.@@N@@Code
set_option linter.unusedVariables false
set_option linter.unusedSimpArgs false
namespace Jvm.Own
open Sem ClassFile Op Lib Jvm.Stand Jvm.Free Jvm.LawKit Jvm.RoadKit
/-- from here the run goes on to a return that the contract allows -/
def Wk (p : Program) (e : Env) (below : List Frame) (F : Outcome → State → Prop) (T : State) (g : JFrame) : Prop :=
  ∃ s₂ o, Steps p.tables e below (T.setTop g) s₂ ∧ s₂.status = .running ∧ Ended s₂ below o ∧ F o s₂
abbrev FN (s : State) (Q : Option Value → Heap → List Loc → Prop) (kc ks : Nat) : Outcome → State → Prop := fun o s₂ => ∃ v L, o = .returned v ∧ Q v s₂.heap L ∧ FrameEnd s o s₂ L kc ks
section Walk
variable {p : Program} {l : Launch} {e : Env} {R : Room} {s : State} {m : MethodId} {args : Array Value} {below : List Frame} {meth : Method} {c : Code} {T : State} {locs : List Loc} {cells slots : Nat} {Q : Option Value → Heap → List Loc → Prop} {Fe : Outcome → State → Prop} {kc ks pc : Nat} {Ls : Array Slot} {S : List Value} {Z : State} {a0 : Array Value} {h : Heap}
theorem Wk.step {T' : State} {g g' : JFrame} (h : Wk p e below Fe T' g') (st : ∀ t, Steps p.tables e below (T'.setTop g') t → Steps p.tables e below (T.setTop g) t) : Wk p e below Fe T g := by
  obtain ⟨s₂, o, h1, h2⟩ := h
  exact ⟨s₂, o, st _ h1, h2⟩
theorem Wk.come {T' : State} {g g' : JFrame} (h : Wk p e below Fe T' g') (st : Steps p.tables e below (T.setTop g) (T'.setTop g')) : Wk p e below Fe T g := h.step fun _ k => st.trans k
theorem w_iload (X : Stand p l e R s m args below meth c T locs cells slots) (hx : p.tables.exec = Jvm.exec) {k : Nat} (v : Int32) (hd : decode c.code pc = .ok (.iload k, 2)) (pc' : Nat) (hp : pc + 2 = pc') (hl : Ls[k]? = some (.val (.int v))) (h : Wk p e below Fe T (mkF m pc' Ls (.int v :: S))) : Wk p e below Fe T (mkF m pc Ls S) := by
  subst hp; exact h.step fun _ k => XS.iload X.here hx rfl hd hl k
theorem w_iloadN (X : Stand p l e R s m args below meth c T locs cells slots) (hx : p.tables.exec = Jvm.exec) {k : Fin 4} (v : Int32) (hd : decode c.code pc = .ok (.iload_n k, 1)) (pc' : Nat) (hp : pc + 1 = pc') (hl : Ls[k.val]? = some (.val (.int v))) (h : Wk p e below Fe T (mkF m pc' Ls (.int v :: S))) : Wk p e below Fe T (mkF m pc Ls S) := by
  subst hp; exact h.step fun _ k => XS.iloadN X.here hx rfl hd hl k
theorem w_aload (X : Stand p l e R s m args below meth c T locs cells slots) (hx : p.tables.exec = Jvm.exec) {k : Nat} (v : Value) (hd : decode c.code pc = .ok (.aload k, 2)) (pc' : Nat) (hp : pc + 2 = pc') (hl : Ls[k]? = some (.val v)) (hv : v.isRef = true) (h : Wk p e below Fe T (mkF m pc' Ls (v :: S))) : Wk p e below Fe T (mkF m pc Ls S) := by
  subst hp; exact h.step fun _ k => XS.aload X.here hx rfl hd hl hv k
theorem w_istore (X : Stand p l e R s m args below meth c T locs cells slots) (hx : p.tables.exec = Jvm.exec) {k : Nat} {x : Int32} (hd : decode c.code pc = .ok (.istore k, 2)) (pc' : Nat) (hp : pc + 2 = pc') (l' : Array Slot) (hl : storeLocals Ls k (.int x) = some l') (h : Wk p e below Fe T (mkF m pc' l' S)) : Wk p e below Fe T (mkF m pc Ls (.int x :: S)) := by
  subst hp; exact h.step fun _ k => XS.istore X.here hx rfl hd rfl hl k
theorem w_astore (X : Stand p l e R s m args below meth c T locs cells slots) (hx : p.tables.exec = Jvm.exec) {k : Nat} {x : Value} (hd : decode c.code pc = .ok (.astore k, 2)) (pc' : Nat) (hp : pc + 2 = pc') (hv : x.isRef = true) (l' : Array Slot) (hl : storeLocals Ls k x = some l') (h : Wk p e below Fe T (mkF m pc' l' S)) : Wk p e below Fe T (mkF m pc Ls (x :: S)) := by
  subst hp; exact h.step fun _ k => XS.astore X.here hx rfl hd rfl hv hl k
theorem w_iconst (X : Stand p l e R s m args below meth c T locs cells slots) (hx : p.tables.exec = Jvm.exec) {i : Int} (hd : decode c.code pc = .ok (.iconst i, 1)) (pc' : Nat) (hp : pc + 1 = pc') (z : Int32) (hz : Int32.ofInt i = z) (h : Wk p e below Fe T (mkF m pc' Ls (.int z :: S))) : Wk p e below Fe T (mkF m pc Ls S) := by
  subst hp hz; exact h.step fun _ k => XS.iconst X.here hx rfl hd k
theorem w_bipush (X : Stand p l e R s m args below meth c T locs cells slots) (hx : p.tables.exec = Jvm.exec) {i : Int} (hd : decode c.code pc = .ok (.bipush i, 2)) (pc' : Nat) (hp : pc + 2 = pc') (z : Int32) (hz : (Int8.ofInt i).toInt32 = z) (h : Wk p e below Fe T (mkF m pc' Ls (.int z :: S))) : Wk p e below Fe T (mkF m pc Ls S) := by
  subst hp hz; exact h.step fun _ k => XS.bipush X.here hx rfl hd k
theorem w_sipush (X : Stand p l e R s m args below meth c T locs cells slots) (hx : p.tables.exec = Jvm.exec) {i : Int} (hd : decode c.code pc = .ok (.sipush i, 3)) (pc' : Nat) (hp : pc + 3 = pc') (z : Int32) (hz : (Int16.ofInt i).toInt32 = z) (h : Wk p e below Fe T (mkF m pc' Ls (.int z :: S))) : Wk p e below Fe T (mkF m pc Ls S) := by
  subst hp hz; exact h.step fun _ k => XS.sipush X.here hx rfl hd k
theorem w_ldc (X : Stand p l e R s m args below meth c T locs cells slots) (hx : p.tables.exec = Jvm.exec) (hZ : Z.Warmed39 s.vm) {own : String} {index : Nat} {v : Int32} (hown : s.vm.findClass own = some m.cls) (w : (Cond.constant own index v).before a0 Z = true) (hd : decode c.code pc = .ok (.ldc index, 2)) (pc' : Nat) (hp : pc + 2 = pc') (h : Wk p e below Fe T (mkF m pc' Ls (.int v :: S))) : Wk p e below Fe T (mkF m pc Ls S) := by
  subst hp; exact h.step fun _ k => X.ldcInt hx hown (mvT hZ w) (g := mkF m pc Ls S) rfl hd _ k
theorem w_iadd (X : Stand p l e R s m args below meth c T locs cells slots) (hx : p.tables.exec = Jvm.exec) {x y : Int32} (hd : decode c.code pc = .ok (.iadd, 1)) (pc' : Nat) (hp : pc + 1 = pc') {z : Int32} (hz : z = x + y) (h : Wk p e below Fe T (mkF m pc' Ls (.int z :: S))) : Wk p e below Fe T (mkF m pc Ls (.int y :: .int x :: S)) := by
  subst hp hz; exact h.step fun _ k => XS.iadd X.here hx rfl hd rfl k
theorem w_isub (X : Stand p l e R s m args below meth c T locs cells slots) (hx : p.tables.exec = Jvm.exec) {x y : Int32} (hd : decode c.code pc = .ok (.isub, 1)) (pc' : Nat) (hp : pc + 1 = pc') {z : Int32} (hz : z = x - y) (h : Wk p e below Fe T (mkF m pc' Ls (.int z :: S))) : Wk p e below Fe T (mkF m pc Ls (.int y :: .int x :: S)) := by
  subst hp hz; exact h.step fun _ k => XS.isub X.here hx rfl hd rfl k
theorem w_iand (X : Stand p l e R s m args below meth c T locs cells slots) (hx : p.tables.exec = Jvm.exec) {x y : Int32} (hd : decode c.code pc = .ok (.iand, 1)) (pc' : Nat) (hp : pc + 1 = pc') {z : Int32} (hz : z = x &&& y) (h : Wk p e below Fe T (mkF m pc' Ls (.int z :: S))) : Wk p e below Fe T (mkF m pc Ls (.int y :: .int x :: S)) := by
  subst hp hz; exact h.step fun _ k => XS.iand X.here hx rfl hd rfl k
theorem w_iushr (X : Stand p l e R s m args below meth c T locs cells slots) (hx : p.tables.exec = Jvm.exec) {x y : Int32} (hd : decode c.code pc = .ok (.iushr, 1)) (pc' : Nat) (hp : pc + 1 = pc') {z : Int32} (hz : z = (x.toUInt32 >>> (y &&& 31).toUInt32).toInt32) (h : Wk p e below Fe T (mkF m pc' Ls (.int z :: S))) : Wk p e below Fe T (mkF m pc Ls (.int y :: .int x :: S)) := by
  subst hp hz; exact h.step fun _ k => XS.iushr X.here hx rfl hd rfl k
theorem w_irem (X : Stand p l e R s m args below meth c T locs cells slots) (hx : p.tables.exec = Jvm.exec) {x y : Int32} (hd : decode c.code pc = .ok (.irem, 1)) (pc' : Nat) (hp : pc + 1 = pc') (hy : y ≠ 0) {z : Int32} (hz : z = x % y) (h : Wk p e below Fe T (mkF m pc' Ls (.int z :: S))) : Wk p e below Fe T (mkF m pc Ls (.int y :: .int x :: S)) := by
  subst hp hz; exact h.step fun _ k => iremM (g := mkF m pc Ls (.int y :: .int x :: S)) X hx rfl hd rfl hy k
theorem w_dup (X : Stand p l e R s m args below meth c T locs cells slots) (hx : p.tables.exec = Jvm.exec) {x : Value} (hd : decode c.code pc = .ok (.dup, 1)) (pc' : Nat) (hp : pc + 1 = pc') (hc : x.category = 1) (h : Wk p e below Fe T (mkF m pc' Ls (x :: x :: S))) : Wk p e below Fe T (mkF m pc Ls (x :: S)) := by
  subst hp; exact h.step fun _ k => XS.dup X.here hx rfl hd rfl hc k
theorem w_goto (X : Stand p l e R s m args below meth c T locs cells slots) (hx : p.tables.exec = Jvm.exec) {o : Int} (hd : decode c.code pc = .ok (.goto o, 3)) (pc' : Nat) (h : Wk p e below Fe T (mkF m pc' Ls S)) (ho : 0 ≤ (pc : Int) + o := by decide) (hp : ((pc : Int) + o).toNat = pc' := by decide) : Wk p e below Fe T (mkF m pc Ls S) := by
  exact h.step fun _ k => XS.goto X.here hx rfl rfl hd ho hp k
theorem holds_eq {x y : Int32} {A B : Int} (ha : x.toInt = A) (hb : y.toInt = B) : ((A = B) → if_icmp.holds .eq x y = true) ∧ ((¬ A = B) → if_icmp.holds .eq x y = false) := by
  subst ha hb
  constructor
  · intro q
    first
    | exact (tlt (x := x) (y := y) (Int32.lt_iff_toInt_lt.mpr (by omega))).1
    | exact (flt (x := x) (y := y) (fun r => by have := Int32.lt_iff_toInt_lt.mp r; omega)).2.1
    | exact (tlt (x := y) (y := x) (Int32.lt_iff_toInt_lt.mpr (by omega))).2.2.1
    | exact (flt (x := y) (y := x) (fun r => by have := Int32.lt_iff_toInt_lt.mp r; omega)).2.2.2
    | exact (teq (x := x) (y := y) (Int32.toInt_inj.mp (by omega))).1
    | exact (feq (x := x) (y := y) (fun r => q (by rw [r]))).2
  · intro q
    first
    | exact (flt (x := x) (y := y) (fun r => by have := Int32.lt_iff_toInt_lt.mp r; omega)).1
    | exact (tlt (x := x) (y := y) (Int32.lt_iff_toInt_lt.mpr (by omega))).2.1
    | exact (flt (x := y) (y := x) (fun r => by have := Int32.lt_iff_toInt_lt.mp r; omega)).2.2.1
    | exact (tlt (x := y) (y := x) (Int32.lt_iff_toInt_lt.mpr (by omega))).2.2.2
    | exact (feq (x := x) (y := y) (fun r => q (by rw [r]))).1
    | exact (teq (x := x) (y := y) (Int32.toInt_inj.mp (by omega))).2
theorem w_icmp_eq (X : Stand p l e R s m args below meth c T locs cells slots) (hx : p.tables.exec = Jvm.exec) {x y : Int32} {o : Int} (A B : Int) (ha : x.toInt = A) (hb : y.toInt = B) (hd : decode c.code pc = .ok (.if_icmp .eq o, 3)) (pt pn : Nat) (h1 : A = B → Wk p e below Fe T (mkF m pt Ls S)) (h2 : ¬ A = B → Wk p e below Fe T (mkF m pn Ls S)) (ho : 0 ≤ (pc : Int) + o := by decide) (hp : ((pc : Int) + o).toNat = pt := by decide) (hn : pc + 3 = pn := by rfl) : Wk p e below Fe T (mkF m pc Ls (.int y :: .int x :: S)) := by
  subst hn
  by_cases q : A = B
  · exact (h1 q).step fun _ k => XS.icmpYes X.here hx rfl rfl hd rfl ((holds_eq ha hb).1 q) ho hp k
  · have q' : ¬ A = B := by omega
    exact (h2 q').step fun _ k => XS.icmpNo X.here hx rfl hd rfl ((holds_eq ha hb).2 q') k
theorem w_if_eq (X : Stand p l e R s m args below meth c T locs cells slots) (hx : p.tables.exec = Jvm.exec) {x : Int32} {o : Int} (A : Int) (ha : x.toInt = A) (hd : decode c.code pc = .ok (.ifCond .eq o, 3)) (pt pn : Nat) (h1 : A = 0 → Wk p e below Fe T (mkF m pt Ls S)) (h2 : ¬ A = 0 → Wk p e below Fe T (mkF m pn Ls S)) (ho : 0 ≤ (pc : Int) + o := by decide) (hp : ((pc : Int) + o).toNat = pt := by decide) (hn : pc + 3 = pn := by rfl) : Wk p e below Fe T (mkF m pc Ls (.int x :: S)) := by
  subst hn
  have hb : (0 : Int32).toInt = 0 := rfl
  by_cases q : A = 0
  · exact (h1 q).step fun _ k => XS.ifYes X.here hx rfl rfl hd rfl ((if0 _ _).trans ((holds_eq ha hb).1 q)) ho hp k
  · have q' : ¬ A = 0 := by omega
    exact (h2 q').step fun _ k => XS.ifNo X.here hx rfl hd rfl ((if0 _ _).trans ((holds_eq ha hb).2 q')) k
theorem holds_ne {x y : Int32} {A B : Int} (ha : x.toInt = A) (hb : y.toInt = B) : ((¬ A = B) → if_icmp.holds .ne x y = true) ∧ ((A = B) → if_icmp.holds .ne x y = false) := by
  subst ha hb
  constructor
  · intro q
    first
    | exact (tlt (x := x) (y := y) (Int32.lt_iff_toInt_lt.mpr (by omega))).1
    | exact (flt (x := x) (y := y) (fun r => by have := Int32.lt_iff_toInt_lt.mp r; omega)).2.1
    | exact (tlt (x := y) (y := x) (Int32.lt_iff_toInt_lt.mpr (by omega))).2.2.1
    | exact (flt (x := y) (y := x) (fun r => by have := Int32.lt_iff_toInt_lt.mp r; omega)).2.2.2
    | exact (teq (x := x) (y := y) (Int32.toInt_inj.mp (by omega))).1
    | exact (feq (x := x) (y := y) (fun r => q (by rw [r]))).2
  · intro q
    first
    | exact (flt (x := x) (y := y) (fun r => by have := Int32.lt_iff_toInt_lt.mp r; omega)).1
    | exact (tlt (x := x) (y := y) (Int32.lt_iff_toInt_lt.mpr (by omega))).2.1
    | exact (flt (x := y) (y := x) (fun r => by have := Int32.lt_iff_toInt_lt.mp r; omega)).2.2.1
    | exact (tlt (x := y) (y := x) (Int32.lt_iff_toInt_lt.mpr (by omega))).2.2.2
    | exact (feq (x := x) (y := y) (fun r => q (by rw [r]))).1
    | exact (teq (x := x) (y := y) (Int32.toInt_inj.mp (by omega))).2
theorem w_icmp_ne (X : Stand p l e R s m args below meth c T locs cells slots) (hx : p.tables.exec = Jvm.exec) {x y : Int32} {o : Int} (A B : Int) (ha : x.toInt = A) (hb : y.toInt = B) (hd : decode c.code pc = .ok (.if_icmp .ne o, 3)) (pt pn : Nat) (h1 : ¬ A = B → Wk p e below Fe T (mkF m pt Ls S)) (h2 : A = B → Wk p e below Fe T (mkF m pn Ls S)) (ho : 0 ≤ (pc : Int) + o := by decide) (hp : ((pc : Int) + o).toNat = pt := by decide) (hn : pc + 3 = pn := by rfl) : Wk p e below Fe T (mkF m pc Ls (.int y :: .int x :: S)) := by
  subst hn
  by_cases q : ¬ A = B
  · exact (h1 q).step fun _ k => XS.icmpYes X.here hx rfl rfl hd rfl ((holds_ne ha hb).1 q) ho hp k
  · have q' : A = B := by omega
    exact (h2 q').step fun _ k => XS.icmpNo X.here hx rfl hd rfl ((holds_ne ha hb).2 q') k
theorem holds_lt {x y : Int32} {A B : Int} (ha : x.toInt = A) (hb : y.toInt = B) : ((A < B) → if_icmp.holds .lt x y = true) ∧ ((B ≤ A) → if_icmp.holds .lt x y = false) := by
  subst ha hb
  constructor
  · intro q
    first
    | exact (tlt (x := x) (y := y) (Int32.lt_iff_toInt_lt.mpr (by omega))).1
    | exact (flt (x := x) (y := y) (fun r => by have := Int32.lt_iff_toInt_lt.mp r; omega)).2.1
    | exact (tlt (x := y) (y := x) (Int32.lt_iff_toInt_lt.mpr (by omega))).2.2.1
    | exact (flt (x := y) (y := x) (fun r => by have := Int32.lt_iff_toInt_lt.mp r; omega)).2.2.2
    | exact (teq (x := x) (y := y) (Int32.toInt_inj.mp (by omega))).1
    | exact (feq (x := x) (y := y) (fun r => q (by rw [r]))).2
  · intro q
    first
    | exact (flt (x := x) (y := y) (fun r => by have := Int32.lt_iff_toInt_lt.mp r; omega)).1
    | exact (tlt (x := x) (y := y) (Int32.lt_iff_toInt_lt.mpr (by omega))).2.1
    | exact (flt (x := y) (y := x) (fun r => by have := Int32.lt_iff_toInt_lt.mp r; omega)).2.2.1
    | exact (tlt (x := y) (y := x) (Int32.lt_iff_toInt_lt.mpr (by omega))).2.2.2
    | exact (feq (x := x) (y := y) (fun r => q (by rw [r]))).1
    | exact (teq (x := x) (y := y) (Int32.toInt_inj.mp (by omega))).2
theorem w_icmp_lt (X : Stand p l e R s m args below meth c T locs cells slots) (hx : p.tables.exec = Jvm.exec) {x y : Int32} {o : Int} (A B : Int) (ha : x.toInt = A) (hb : y.toInt = B) (hd : decode c.code pc = .ok (.if_icmp .lt o, 3)) (pt pn : Nat) (h1 : A < B → Wk p e below Fe T (mkF m pt Ls S)) (h2 : B ≤ A → Wk p e below Fe T (mkF m pn Ls S)) (ho : 0 ≤ (pc : Int) + o := by decide) (hp : ((pc : Int) + o).toNat = pt := by decide) (hn : pc + 3 = pn := by rfl) : Wk p e below Fe T (mkF m pc Ls (.int y :: .int x :: S)) := by
  subst hn
  by_cases q : A < B
  · exact (h1 q).step fun _ k => XS.icmpYes X.here hx rfl rfl hd rfl ((holds_lt ha hb).1 q) ho hp k
  · have q' : B ≤ A := by omega
    exact (h2 q').step fun _ k => XS.icmpNo X.here hx rfl hd rfl ((holds_lt ha hb).2 q') k
theorem w_if_lt (X : Stand p l e R s m args below meth c T locs cells slots) (hx : p.tables.exec = Jvm.exec) {x : Int32} {o : Int} (A : Int) (ha : x.toInt = A) (hd : decode c.code pc = .ok (.ifCond .lt o, 3)) (pt pn : Nat) (h1 : A < 0 → Wk p e below Fe T (mkF m pt Ls S)) (h2 : 0 ≤ A → Wk p e below Fe T (mkF m pn Ls S)) (ho : 0 ≤ (pc : Int) + o := by decide) (hp : ((pc : Int) + o).toNat = pt := by decide) (hn : pc + 3 = pn := by rfl) : Wk p e below Fe T (mkF m pc Ls (.int x :: S)) := by
  subst hn
  have hb : (0 : Int32).toInt = 0 := rfl
  by_cases q : A < 0
  · exact (h1 q).step fun _ k => XS.ifYes X.here hx rfl rfl hd rfl ((if0 _ _).trans ((holds_lt ha hb).1 q)) ho hp k
  · have q' : 0 ≤ A := by omega
    exact (h2 q').step fun _ k => XS.ifNo X.here hx rfl hd rfl ((if0 _ _).trans ((holds_lt ha hb).2 q')) k
theorem holds_ge {x y : Int32} {A B : Int} (ha : x.toInt = A) (hb : y.toInt = B) : ((B ≤ A) → if_icmp.holds .ge x y = true) ∧ ((A < B) → if_icmp.holds .ge x y = false) := by
  subst ha hb
  constructor
  · intro q
    first
    | exact (tlt (x := x) (y := y) (Int32.lt_iff_toInt_lt.mpr (by omega))).1
    | exact (flt (x := x) (y := y) (fun r => by have := Int32.lt_iff_toInt_lt.mp r; omega)).2.1
    | exact (tlt (x := y) (y := x) (Int32.lt_iff_toInt_lt.mpr (by omega))).2.2.1
    | exact (flt (x := y) (y := x) (fun r => by have := Int32.lt_iff_toInt_lt.mp r; omega)).2.2.2
    | exact (teq (x := x) (y := y) (Int32.toInt_inj.mp (by omega))).1
    | exact (feq (x := x) (y := y) (fun r => q (by rw [r]))).2
  · intro q
    first
    | exact (flt (x := x) (y := y) (fun r => by have := Int32.lt_iff_toInt_lt.mp r; omega)).1
    | exact (tlt (x := x) (y := y) (Int32.lt_iff_toInt_lt.mpr (by omega))).2.1
    | exact (flt (x := y) (y := x) (fun r => by have := Int32.lt_iff_toInt_lt.mp r; omega)).2.2.1
    | exact (tlt (x := y) (y := x) (Int32.lt_iff_toInt_lt.mpr (by omega))).2.2.2
    | exact (feq (x := x) (y := y) (fun r => q (by rw [r]))).1
    | exact (teq (x := x) (y := y) (Int32.toInt_inj.mp (by omega))).2
theorem w_icmp_ge (X : Stand p l e R s m args below meth c T locs cells slots) (hx : p.tables.exec = Jvm.exec) {x y : Int32} {o : Int} (A B : Int) (ha : x.toInt = A) (hb : y.toInt = B) (hd : decode c.code pc = .ok (.if_icmp .ge o, 3)) (pt pn : Nat) (h1 : B ≤ A → Wk p e below Fe T (mkF m pt Ls S)) (h2 : A < B → Wk p e below Fe T (mkF m pn Ls S)) (ho : 0 ≤ (pc : Int) + o := by decide) (hp : ((pc : Int) + o).toNat = pt := by decide) (hn : pc + 3 = pn := by rfl) : Wk p e below Fe T (mkF m pc Ls (.int y :: .int x :: S)) := by
  subst hn
  by_cases q : B ≤ A
  · exact (h1 q).step fun _ k => XS.icmpYes X.here hx rfl rfl hd rfl ((holds_ge ha hb).1 q) ho hp k
  · have q' : A < B := by omega
    exact (h2 q').step fun _ k => XS.icmpNo X.here hx rfl hd rfl ((holds_ge ha hb).2 q') k
theorem holds_gt {x y : Int32} {A B : Int} (ha : x.toInt = A) (hb : y.toInt = B) : ((B < A) → if_icmp.holds .gt x y = true) ∧ ((A ≤ B) → if_icmp.holds .gt x y = false) := by
  subst ha hb
  constructor
  · intro q
    first
    | exact (tlt (x := x) (y := y) (Int32.lt_iff_toInt_lt.mpr (by omega))).1
    | exact (flt (x := x) (y := y) (fun r => by have := Int32.lt_iff_toInt_lt.mp r; omega)).2.1
    | exact (tlt (x := y) (y := x) (Int32.lt_iff_toInt_lt.mpr (by omega))).2.2.1
    | exact (flt (x := y) (y := x) (fun r => by have := Int32.lt_iff_toInt_lt.mp r; omega)).2.2.2
    | exact (teq (x := x) (y := y) (Int32.toInt_inj.mp (by omega))).1
    | exact (feq (x := x) (y := y) (fun r => q (by rw [r]))).2
  · intro q
    first
    | exact (flt (x := x) (y := y) (fun r => by have := Int32.lt_iff_toInt_lt.mp r; omega)).1
    | exact (tlt (x := x) (y := y) (Int32.lt_iff_toInt_lt.mpr (by omega))).2.1
    | exact (flt (x := y) (y := x) (fun r => by have := Int32.lt_iff_toInt_lt.mp r; omega)).2.2.1
    | exact (tlt (x := y) (y := x) (Int32.lt_iff_toInt_lt.mpr (by omega))).2.2.2
    | exact (feq (x := x) (y := y) (fun r => q (by rw [r]))).1
    | exact (teq (x := x) (y := y) (Int32.toInt_inj.mp (by omega))).2
theorem w_icmp_gt (X : Stand p l e R s m args below meth c T locs cells slots) (hx : p.tables.exec = Jvm.exec) {x y : Int32} {o : Int} (A B : Int) (ha : x.toInt = A) (hb : y.toInt = B) (hd : decode c.code pc = .ok (.if_icmp .gt o, 3)) (pt pn : Nat) (h1 : B < A → Wk p e below Fe T (mkF m pt Ls S)) (h2 : A ≤ B → Wk p e below Fe T (mkF m pn Ls S)) (ho : 0 ≤ (pc : Int) + o := by decide) (hp : ((pc : Int) + o).toNat = pt := by decide) (hn : pc + 3 = pn := by rfl) : Wk p e below Fe T (mkF m pc Ls (.int y :: .int x :: S)) := by
  subst hn
  by_cases q : B < A
  · exact (h1 q).step fun _ k => XS.icmpYes X.here hx rfl rfl hd rfl ((holds_gt ha hb).1 q) ho hp k
  · have q' : A ≤ B := by omega
    exact (h2 q').step fun _ k => XS.icmpNo X.here hx rfl hd rfl ((holds_gt ha hb).2 q') k
theorem holds_le {x y : Int32} {A B : Int} (ha : x.toInt = A) (hb : y.toInt = B) : ((A ≤ B) → if_icmp.holds .le x y = true) ∧ ((B < A) → if_icmp.holds .le x y = false) := by
  subst ha hb
  constructor
  · intro q
    first
    | exact (tlt (x := x) (y := y) (Int32.lt_iff_toInt_lt.mpr (by omega))).1
    | exact (flt (x := x) (y := y) (fun r => by have := Int32.lt_iff_toInt_lt.mp r; omega)).2.1
    | exact (tlt (x := y) (y := x) (Int32.lt_iff_toInt_lt.mpr (by omega))).2.2.1
    | exact (flt (x := y) (y := x) (fun r => by have := Int32.lt_iff_toInt_lt.mp r; omega)).2.2.2
    | exact (teq (x := x) (y := y) (Int32.toInt_inj.mp (by omega))).1
    | exact (feq (x := x) (y := y) (fun r => q (by rw [r]))).2
  · intro q
    first
    | exact (flt (x := x) (y := y) (fun r => by have := Int32.lt_iff_toInt_lt.mp r; omega)).1
    | exact (tlt (x := x) (y := y) (Int32.lt_iff_toInt_lt.mpr (by omega))).2.1
    | exact (flt (x := y) (y := x) (fun r => by have := Int32.lt_iff_toInt_lt.mp r; omega)).2.2.1
    | exact (tlt (x := y) (y := x) (Int32.lt_iff_toInt_lt.mpr (by omega))).2.2.2
    | exact (feq (x := x) (y := y) (fun r => q (by rw [r]))).1
    | exact (teq (x := x) (y := y) (Int32.toInt_inj.mp (by omega))).2
theorem w_icmp_le (X : Stand p l e R s m args below meth c T locs cells slots) (hx : p.tables.exec = Jvm.exec) {x y : Int32} {o : Int} (A B : Int) (ha : x.toInt = A) (hb : y.toInt = B) (hd : decode c.code pc = .ok (.if_icmp .le o, 3)) (pt pn : Nat) (h1 : A ≤ B → Wk p e below Fe T (mkF m pt Ls S)) (h2 : B < A → Wk p e below Fe T (mkF m pn Ls S)) (ho : 0 ≤ (pc : Int) + o := by decide) (hp : ((pc : Int) + o).toNat = pt := by decide) (hn : pc + 3 = pn := by rfl) : Wk p e below Fe T (mkF m pc Ls (.int y :: .int x :: S)) := by
  subst hn
  by_cases q : A ≤ B
  · exact (h1 q).step fun _ k => XS.icmpYes X.here hx rfl rfl hd rfl ((holds_le ha hb).1 q) ho hp k
  · have q' : B < A := by omega
    exact (h2 q').step fun _ k => XS.icmpNo X.here hx rfl hd rfl ((holds_le ha hb).2 q') k
theorem w_retN (X : Stand p l e R s m args below meth c T locs cells slots) (hx : p.tables.exec = Jvm.exec) (hlocks : meth.locks = false) {t : FieldType} {z : Int32} (hret : meth.sig.returnType = some t) (ht : t = .boolean ∨ t = .byte ∨ t = .char ∨ t = .short) (hd : decode c.code pc = .ok (.ireturn, 1)) (hc : cells ≤ kc) (hs : slots ≤ ks) (hQ : Q (some (.int (nar t z))) T.heap locs) : Wk p e below (FN s Q kc ks) T (mkF m pc Ls (.int z :: S)) := by
  obtain ⟨fs, hr, hrun, hended, hW, hsame⟩ := X.leave (v := some (.int (nar t z))) (fun h => by rw [hret] at h; cases h) hlocks
  exact ⟨_, _, retN X hx hret ht hd hr, hrun, hended, _, _, rfl, hQ, ⟨_, rfl⟩, hW, hsame.mono hc hs⟩
theorem w_callS (X : Stand p l e R s m args below meth c T locs cells slots) (hx : p.tables.exec = Jvm.exec) (hZ : Z.Warmed39 s.vm) {own : String} {index : Nat} {y : MethodName} {bytes : ByteArray} {maxL : Nat} {ret : Option FieldType} {rm : Room} {as' : Array Value} {Qc : Option Value → Heap → List Loc → Prop} (hown : s.vm.findClass own = some m.cls) (eT : T.heap = h)
    (hM : MetFree l y (head1 [Cond.code y bytes maxL ret] rm) (fun a U => a = as' ∧ Z.Warmed39 U.vm ∧ U.heap = h) (fun _ _ _ _ _ => True) (fun _ U o U' => ∃ v L, o = .returned v ∧ Qc v U'.heap L ∧ FrameEnd U o U' L rm.cells rm.slots))
    (w1 : (Cond.methodLink own index y).before a0 Z = true) (w2 : (Cond.static y).before a0 Z = true) (w3 : (Cond.initialized y.cls).before a0 Z = true) (w4 : (Cond.code y bytes maxL ret).before a0 Z = true) (hy : y.cls ≠ "java/lang/invoke/MethodHandle" ∧ y.cls ≠ "java/lang/invoke/VarHandle")
    (hsize : Ls.size = c.maxLocals) (argsL rest : List Value) (hlen : ∀ sig, parseMethodDescriptor y.desc = some sig → argsL.length = sig.parameters.length) (hst : S = argsL.reverse ++ rest) (has : argsL.toArray = as')
    (hf : rm.frames + 1 ≤ R.frames) (W : Nat) (hW : (rest.map fun v => v.category).sum = W) (hl : W + (maxL + 11) + rm.locals ≤ R.locals) (hc : cells + rm.cells ≤ R.cells) (hs : slots + rm.slots ≤ R.slots) (hd : decode c.code pc = .ok (.invokestatic index, 3)) (pc' : Nat) (hp : pc + 3 = pc')
    (k : ∀ (v : Option Value) (T' : State) (L : List Loc), Stand p l e R s m args below meth c T' (locs ++ L) (cells + rm.cells) (slots + rm.slots) → Qc v T'.heap L → Wk p e below Fe T' (mkF m pc' Ls (v.toList ++ rest))) : Wk p e below Fe T (mkF m pc Ls S) := by
  subst hp hst has hW
  obtain ⟨v, _, ⟨T', L', k', n'⟩, -, X', ⟨Lc, q1, q2, q3, q4⟩, st⟩ := Jvm.LawKit.callS X hx hown (mvT hZ w1) (mvT hZ w2) (mvT hZ w3) (mvT hZ w4) hy (backOf hM hZ w4 w3 hf hl) (g := mkF m pc Ls (argsL.reverse ++ rest)) rfl hsize hlen rfl (by show 2 * 0 + _ ≤ _; rw [Nat.mul_zero, Nat.zero_add]; exact Nat.le_refl _) hd (fun _ _ => ⟨rfl, eT, hc, hs⟩)
  dsimp only [Pt.U, Pt.locs, Pt.cells, Pt.slots] at X' q2 q3 q4 st q1
  subst q2 q3 q4
  exact (k v T' Lc X' q1).step st
theorem w_newP (X : Stand p l e R s m args below meth c T locs cells slots) (hx : p.tables.exec = Jvm.exec) (hZ : Z.Warmed39 s.vm) (eT : T.heap = h) {aty : ArrayType} (w : (Cond.arrayClass (newarray.typeOf aty)).before a0 Z = true) {n : Int32} (hn : ¬ n < 0) (cap : Nat) (hcap : n.toNatClampNeg ≤ cap) (hb : cap * 8 ≤ 536870912) (hc : cells + 1 ≤ R.cells) (hl : slots + cap ≤ R.slots) (hd : decode c.code pc = .ok (.newarray aty, 2)) (pc' : Nat) (hp : pc + 2 = pc')
    (k : ∀ (T' : State) (h' : Heap) (a : Addr) (cA : ClassId), Stand p l e R s m args below meth c T' locs (cells + 1) (slots + cap) → T'.heap = h' → a = h.size → Ext h h' → Arv Z h' a cA (newarray.typeOf aty) n [] (defaultValue (newarray.typeOf aty)) → Wk p e below Fe T' (mkF m pc' Ls (.ref a :: S))) : Wk p e below Fe T (mkF m pc Ls (.int n :: S)) := by
  subst hp
  obtain ⟨T', h', cA, X', e', E', A', st⟩ := newP X hx hZ w eT (g := mkF m pc Ls (.int n :: S)) rfl hd rfl hn hcap hb hc hl
  exact (k T' h' _ cA X' e' rfl E' (Arv.new A' hn)).step st
theorem w_length (X : Stand p l e R s m args below meth c T locs cells slots) (hx : p.tables.exec = Jvm.exec) (hZ : Z.Warmed39 s.vm) (eT : T.heap = h) {a : Addr} {kA : ClassId} {ty : FieldType} {z : Int32} {vs : List Value} {dv : Value} (A : Arv Z h a kA ty z vs dv) (hd : decode c.code pc = .ok (.arraylength, 1)) (pc' : Nat) (hp : pc + 1 = pc')
    (k : Wk p e below Fe T (mkF m pc' Ls (.int z :: S))) : Wk p e below Fe T (mkF m pc Ls (.ref a :: S)) := by
  subst hp
  obtain ⟨cl, Ar, -, Sz, Nz, -, -⟩ := A
  refine k.step fun t q => X.arraylength hx (by rw [eT]; exact Ar.1) (State.isArrayOf_alike hZ.alike Ar.2.1) (g := mkF m pc Ls (.ref a :: S)) rfl rfl hd t ?_
  rw [len_of Sz Nz]; exact q
theorem w_iastore (X : Stand p l e R s m args below meth c T locs cells slots) (hx : p.tables.exec = Jvm.exec) (hZ : Z.Warmed39 s.vm) (eT : T.heap = h) {a : Addr} {kA : ClassId} {z : Int32} {vs : List Value} {dv : Value} (A : Arv Z h a kA .int z vs dv) {j x : Int32} (hj : 0 ≤ j.toInt ∧ j.toInt < z.toInt) (i : Nat) (hi : j.toNatClampNeg = i) (hv : i < vs.length) (hd : decode c.code pc = .ok (.iastore, 1)) (pc' : Nat) (hp : pc + 1 = pc')
    (k : ∀ (T' : State) (h' : Heap), Stand p l e R s m args below meth c T' (locs ++ [⟨a, j.toNatClampNeg⟩]) cells slots → T'.heap = h' → Wr h h' a j.toNatClampNeg (.int x) → Arv Z h' a kA .int z (vs.set i (.int x)) dv → Wk p e below Fe T' (mkF m pc' Ls S)) : Wk p e below Fe T (mkF m pc Ls (.int x :: .int j :: .ref a :: S)) := by
  subst hp
  obtain ⟨cl, Ar, q, Sz, Nz, H, G⟩ := A
  have hin : ¬ (j < 0 ∨ cl.slots.size ≤ j.toNatClampNeg) := inb_of Sz ⟨fun r => by have := Int32.lt_iff_toInt_lt.mp r; have h0 : (0 : Int32).toInt = 0 := rfl; omega, Int32.lt_iff_toInt_lt.mpr hj.2⟩
  obtain ⟨T', h', X', e', W', st⟩ := stI X hx hZ eT Ar hin (g := mkF m pc Ls (.int x :: .int j :: .ref a :: S)) rfl rfl hd
  exact (k T' h' X' e' W' (Arv.set Ar q Sz Nz H G rfl W' i hi hv)).step st
theorem w_iaload (X : Stand p l e R s m args below meth c T locs cells slots) (hx : p.tables.exec = Jvm.exec) (hZ : Z.Warmed39 s.vm) (eT : T.heap = h) {a : Addr} {kA : ClassId} {z : Int32} {vs : List Value} {dv : Value} (A : Arv Z h a kA .int z vs dv) {j : Int32} (hj : 0 ≤ j.toInt ∧ j.toInt < z.toInt) {v : Value} (hv : vs.getD j.toNatClampNeg dv = v) (hd : decode c.code pc = .ok (.iaload, 1)) (pc' : Nat) (hp : pc + 1 = pc')
    (k : Wk p e below Fe T (mkF m pc' Ls (v :: S))) : Wk p e below Fe T (mkF m pc Ls (.int j :: .ref a :: S)) := by
  subst hp
  obtain ⟨cl, Ar, q, Sz, Nz, H, G⟩ := A
  have hin : ¬ (j < 0 ∨ cl.slots.size ≤ j.toNatClampNeg) := inb_of Sz ⟨fun r => by have := Int32.lt_iff_toInt_lt.mp r; have h0 : (0 : Int32).toInt = 0 := rfl; omega, Int32.lt_iff_toInt_lt.mpr hj.2⟩
  exact k.step fun t r => X.iaload hx (by rw [eT]; exact Ar.1) (State.isArrayOf_alike hZ.alike Ar.2.1) Ar.2.2 hin (Has.at H hin hv) (g := mkF m pc Ls (.int j :: .ref a :: S)) rfl rfl hd t r
abbrev CT (l : Launch) (y : MethodName) (bytes : ByteArray) (maxL : Nat) (ret : Option FieldType) (ws : List Cond) (rm : Room) (as' : Array Value) (Z : State) (h0 : Heap) (Q : Option Value → Heap → List Loc → Prop) : Prop :=
  MetFree l y (head1 (Cond.code y bytes maxL ret :: ws) rm) (fun a U => a = as' ∧ Z.Warmed39 U.vm ∧ U.heap = h0) (fun _ _ _ _ _ => True) (fun _ U o U' => ∃ v L, o = .returned v ∧ Q v U'.heap L ∧ FrameEnd U o U' L rm.cells rm.slots)
theorem body_of {y : MethodName} {bytes : ByteArray} {maxL : Nat} {ret : Option FieldType} {ws : List Cond} {rm : Room} {as' : Array Value} {h0 : Heap} (hpl : plainFor y = true)
    (k : ∀ (p : Program) (e : Env) (s : State) (m : MethodId) (below : List Frame) (meth : Method) (c : Code) (s₁ : State), p.tables.exec = Jvm.exec → (∀ {pc : Nat} {r : Except DecodeError (Instr × Nat)}, decode bytes pc = r → decode c.code pc = r) → meth.sig.returnType = ret → meth.locks = false → c.maxLocals = maxL → s.vm.findClass y.cls = some m.cls → meth.name = y.name → Stand p l e rm s m as' below meth c s₁ [] 0 0 → s₁.heap = h0 → Z.Warmed39 s.vm → Wk p e below (FN s Q kc ks) s₁ (entryFrame m as' maxL)) :
    MetFree l y (head1 (Cond.code y bytes maxL ret :: ws) rm) (fun a U => a = as' ∧ Z.Warmed39 U.vm ∧ U.heap = h0) (fun _ _ _ _ _ => True) (fun _ U o U' => ∃ v L, o = .returned v ∧ Q v U'.heap L ∧ FrameEnd U o U' L kc ks) := by
  refine MetFree.of_bodySF hpl hisR ?_
  intro p e s m args below meth c s₁ Bd hml0 hP hK
  obtain ⟨rfl, hZ, hh⟩ := hP
  obtain ⟨s₂, o, h1, h2⟩ := k p e s m below meth c s₁ Bd.exec (fun q => hb Bd.bytes q) Bd.returns Bd.notSynchronized hml0 (findClass_of_methodNamed Bd.named) (name_of_methodNamed Bd.named Bd.method).1 (Stand.of_body Bd) (by rw [← hh, Bd.state]; rfl) hZ
  exact ⟨s₂, o, h1, h2⟩
end Walk
/-! plain facts on Int32 and Int64, in Ints -/
def own_b (P : Prop) [Decidable P] : Int := if P then 1 else 0
theorem own_b_pos {P : Prop} [Decidable P] (h : P) : own_b P = 1 := if_pos h
theorem own_b_neg {P : Prop} [Decidable P] (h : ¬ P) : own_b P = 0 := if_neg h
theorem subX {x y : Int32} {A B : Int} (ha : x.toInt = A) (hb : y.toInt = B) (h1 : -2147483648 ≤ A - B) (h2 : A - B < 2147483648) : (x - y).toInt = A - B := by
  have := c_isub x y; have := rng32 (x - y); omega
theorem maskX {x m : Int32} {A : Int} (k : Nat) (ha : x.toInt = A) (hk : k ≤ 31) (hm : m.toBitVec.toNat = 2 ^ k - 1) : (x &&& m).toInt = A % (2 ^ k : Nat) := by subst ha; exact c_mask x m k hk hm
theorem iushrX {x q : Int32} {A : Int} (k : Nat) (ha : x.toInt = A) (hk : q.toBitVec.toNat % 32 = k) (h0 : 0 < k) : ((x.toUInt32 >>> (q &&& 31).toUInt32).toInt32).toInt = (A % 4294967296) / (2 ^ k : Nat) := by subst ha; exact c_iushr x q k hk h0
theorem iremX {x y : Int32} {A d : Int} (ha : x.toInt = A) (hy : y.toInt = d) (h0 : 0 ≤ A) : (x % y).toInt = A % d := by subst ha; exact (c_irem x y d hy).1 h0
theorem addM {x y : Int32} {A B : Int} (ha : x.toInt = A) (hb : y.toInt = B) : ((x + y).toInt - (A + B)) % 4294967296 = 0 := by subst ha hb; exact c_iadd x y
theorem getD_int (xs : List Int32) (k : Nat) : (xs.map Value.int).getD k (.int 0) = .int (xs.getD k 0) := by
  simp only [List.getD_eq_getElem?_getD, List.getElem?_map]
  cases xs[k]? <;> rfl
end Jvm.Own
namespace Jvm.Pilot.@@N@@
open Jvm Jvm.ClassFile Sem Op Lib Jvm.Free Jvm.Stand Jvm.LawKit Jvm.RoadKit Bundle Jvm.Own Jvm.Pilot.@@N@@.Jvm.D
abbrev cN_0 : String := "com/example/coralline/coralline/xml/XmlChars"
abbrev cN_1 : String := "com/example/coralline/coralline/xml/XmlCharsIsNameStartCharPinLaw"
theorem tw_0 {Z : State} {a0 : Array Value} (hw : ∀ d ∈ tables_1, d.before a0 Z = true) : (Jvm.Cond.arrayClass Jvm.ClassFile.FieldType.int).before a0 Z = true := hw _ (List.mem_of_getElem? (i := 0) rfl)
theorem tw_1 {Z : State} {a0 : Array Value} (hw : ∀ d ∈ tables_1, d.before a0 Z = true) : (Jvm.Cond.constant "com/example/coralline/coralline/xml/XmlCharsIsNameStartCharPinLaw" (25 : Nat) (55295 : Int32)).before a0 Z = true := hw _ (List.mem_of_getElem? (i := 1) rfl)
theorem tw_2 {Z : State} {a0 : Array Value} (hw : ∀ d ∈ tables_1, d.before a0 Z = true) : (Jvm.Cond.constant "com/example/coralline/coralline/xml/XmlCharsIsNameStartCharPinLaw" (26 : Nat) (63744 : Int32)).before a0 Z = true := hw _ (List.mem_of_getElem? (i := 2) rfl)
theorem tw_3 {Z : State} {a0 : Array Value} (hw : ∀ d ∈ tables_1, d.before a0 Z = true) : (Jvm.Cond.constant "com/example/coralline/coralline/xml/XmlCharsIsNameStartCharPinLaw" (27 : Nat) (64975 : Int32)).before a0 Z = true := hw _ (List.mem_of_getElem? (i := 3) rfl)
theorem tw_4 {Z : State} {a0 : Array Value} (hw : ∀ d ∈ tables_1, d.before a0 Z = true) : (Jvm.Cond.constant "com/example/coralline/coralline/xml/XmlCharsIsNameStartCharPinLaw" (28 : Nat) (65008 : Int32)).before a0 Z = true := hw _ (List.mem_of_getElem? (i := 4) rfl)
theorem tw_5 {Z : State} {a0 : Array Value} (hw : ∀ d ∈ tables_1, d.before a0 Z = true) : (Jvm.Cond.constant "com/example/coralline/coralline/xml/XmlCharsIsNameStartCharPinLaw" (29 : Nat) (65533 : Int32)).before a0 Z = true := hw _ (List.mem_of_getElem? (i := 5) rfl)
theorem tw_6 {Z : State} {a0 : Array Value} (hw : ∀ d ∈ tables_1, d.before a0 Z = true) : (Jvm.Cond.constant "com/example/coralline/coralline/xml/XmlCharsIsNameStartCharPinLaw" (30 : Nat) (65536 : Int32)).before a0 Z = true := hw _ (List.mem_of_getElem? (i := 6) rfl)
theorem tw_7 {Z : State} {a0 : Array Value} (hw : ∀ d ∈ tables_1, d.before a0 Z = true) : (Jvm.Cond.constant "com/example/coralline/coralline/xml/XmlCharsIsNameStartCharPinLaw" (7 : Nat) (983039 : Int32)).before a0 Z = true := hw _ (List.mem_of_getElem? (i := 7) rfl)
theorem tw_8 {Z : State} {a0 : Array Value} (hw : ∀ d ∈ tables_1, d.before a0 Z = true) : (Jvm.Cond.constant "com/example/coralline/coralline/xml/XmlCharsIsNameStartCharPinLaw" (31 : Nat) (1114111 : Int32)).before a0 Z = true := hw _ (List.mem_of_getElem? (i := 8) rfl)
theorem tw_9 {Z : State} {a0 : Array Value} (hw : ∀ d ∈ tables_1, d.before a0 Z = true) : (Jvm.Cond.constant "com/example/coralline/coralline/xml/XmlCharsIsNameStartCharPinLaw" (32 : Nat) (2147483647 : Int32)).before a0 Z = true := hw _ (List.mem_of_getElem? (i := 9) rfl)
theorem tw_10 {Z : State} {a0 : Array Value} (hw : ∀ d ∈ tables_1, d.before a0 Z = true) : (Jvm.Cond.constant "com/example/coralline/coralline/xml/XmlCharsIsNameStartCharPinLaw" (13 : Nat) (65535 : Int32)).before a0 Z = true := hw _ (List.mem_of_getElem? (i := 10) rfl)
theorem tw_11 {Z : State} {a0 : Array Value} (hw : ∀ d ∈ tables_1, d.before a0 Z = true) : (Jvm.Cond.constant "com/example/coralline/coralline/xml/XmlCharsIsNameStartCharPinLaw" (33 : Nat) (1048575 : Int32)).before a0 Z = true := hw _ (List.mem_of_getElem? (i := 11) rfl)
theorem tw_12 {Z : State} {a0 : Array Value} (hw : ∀ d ∈ tables_1, d.before a0 Z = true) : (Jvm.Cond.methodLink "com/example/coralline/coralline/xml/XmlCharsIsNameStartCharPinLaw" (34 : Nat) ({ cls := "com/example/coralline/coralline/xml/XmlCharsIsNameStartCharPinLaw", name := "same", desc := "(I)Z" } : Jvm.MethodName)).before a0 Z = true := hw _ (List.mem_of_getElem? (i := 12) rfl)
theorem tw_13 {Z : State} {a0 : Array Value} (hw : ∀ d ∈ tables_1, d.before a0 Z = true) : (Jvm.Cond.static ({ cls := "com/example/coralline/coralline/xml/XmlCharsIsNameStartCharPinLaw", name := "same", desc := "(I)Z" } : Jvm.MethodName)).before a0 Z = true := hw _ (List.mem_of_getElem? (i := 13) rfl)
theorem tw_14 {Z : State} {a0 : Array Value} (hw : ∀ d ∈ tables_1, d.before a0 Z = true) : (Jvm.Cond.initialized "com/example/coralline/coralline/xml/XmlCharsIsNameStartCharPinLaw").before a0 Z = true := hw _ (List.mem_of_getElem? (i := 14) rfl)
theorem tw_15 {Z : State} {a0 : Array Value} (hw : ∀ d ∈ tables_1, d.before a0 Z = true) : (Jvm.Cond.code ({ cls := "com/example/coralline/coralline/xml/XmlCharsIsNameStartCharPinLaw", name := "same", desc := "(I)Z" } : Jvm.MethodName) method_3_code (1 : Nat) (Option.some Jvm.ClassFile.FieldType.boolean)).before a0 Z = true := hw _ (List.mem_of_getElem? (i := 15) rfl)
theorem tw_16 {Z : State} {a0 : Array Value} (hw : ∀ d ∈ tables_1, d.before a0 Z = true) : (Jvm.Cond.methodLink "com/example/coralline/coralline/xml/XmlCharsIsNameStartCharPinLaw" (14 : Nat) ({ cls := "com/example/coralline/coralline/xml/XmlChars", name := "isNameStartChar", desc := "(I)Z" } : Jvm.MethodName)).before a0 Z = true := hw _ (List.mem_of_getElem? (i := 16) rfl)
theorem tw_17 {Z : State} {a0 : Array Value} (hw : ∀ d ∈ tables_1, d.before a0 Z = true) : (Jvm.Cond.static ({ cls := "com/example/coralline/coralline/xml/XmlChars", name := "isNameStartChar", desc := "(I)Z" } : Jvm.MethodName)).before a0 Z = true := hw _ (List.mem_of_getElem? (i := 17) rfl)
theorem tw_18 {Z : State} {a0 : Array Value} (hw : ∀ d ∈ tables_1, d.before a0 Z = true) : (Jvm.Cond.initialized "com/example/coralline/coralline/xml/XmlChars").before a0 Z = true := hw _ (List.mem_of_getElem? (i := 18) rfl)
theorem tw_19 {Z : State} {a0 : Array Value} (hw : ∀ d ∈ tables_1, d.before a0 Z = true) : (Jvm.Cond.code ({ cls := "com/example/coralline/coralline/xml/XmlChars", name := "isNameStartChar", desc := "(I)Z" } : Jvm.MethodName) prog_131_method_4_code (1 : Nat) (Option.some Jvm.ClassFile.FieldType.boolean)).before a0 Z = true := hw _ (List.mem_of_getElem? (i := 19) rfl)
theorem tw_20 {Z : State} {a0 : Array Value} (hw : ∀ d ∈ tables_1, d.before a0 Z = true) : (Jvm.Cond.methodLink "com/example/coralline/coralline/xml/XmlCharsIsNameStartCharPinLaw" (20 : Nat) ({ cls := "com/example/coralline/coralline/xml/XmlCharsIsNameStartCharPinLaw", name := "ref", desc := "(I)Z" } : Jvm.MethodName)).before a0 Z = true := hw _ (List.mem_of_getElem? (i := 20) rfl)
theorem tw_21 {Z : State} {a0 : Array Value} (hw : ∀ d ∈ tables_1, d.before a0 Z = true) : (Jvm.Cond.static ({ cls := "com/example/coralline/coralline/xml/XmlCharsIsNameStartCharPinLaw", name := "ref", desc := "(I)Z" } : Jvm.MethodName)).before a0 Z = true := hw _ (List.mem_of_getElem? (i := 21) rfl)
theorem tw_22 {Z : State} {a0 : Array Value} (hw : ∀ d ∈ tables_1, d.before a0 Z = true) : (Jvm.Cond.code ({ cls := "com/example/coralline/coralline/xml/XmlCharsIsNameStartCharPinLaw", name := "ref", desc := "(I)Z" } : Jvm.MethodName) method_2_code (1 : Nat) (Option.some Jvm.ClassFile.FieldType.boolean)).before a0 Z = true := hw _ (List.mem_of_getElem? (i := 22) rfl)
theorem tw_23 {Z : State} {a0 : Array Value} (hw : ∀ d ∈ tables_1, d.before a0 Z = true) : (Jvm.Cond.constant "com/example/coralline/coralline/xml/XmlCharsIsNameStartCharPinLaw" (8 : Nat) (55296 : Int32)).before a0 Z = true := hw _ (List.mem_of_getElem? (i := 23) rfl)
theorem tw_24 {Z : State} {a0 : Array Value} (hw : ∀ d ∈ tables_1, d.before a0 Z = true) : (Jvm.Cond.constant "com/example/coralline/coralline/xml/XmlCharsIsNameStartCharPinLaw" (10 : Nat) (64976 : Int32)).before a0 Z = true := hw _ (List.mem_of_getElem? (i := 24) rfl)
theorem tw_25 {Z : State} {a0 : Array Value} (hw : ∀ d ∈ tables_1, d.before a0 Z = true) : (Jvm.Cond.constant "com/example/coralline/coralline/xml/XmlCharsIsNameStartCharPinLaw" (12 : Nat) (65534 : Int32)).before a0 Z = true := hw _ (List.mem_of_getElem? (i := 25) rfl)
theorem tw_26 {Z : State} {a0 : Array Value} (hw : ∀ d ∈ tables_1, d.before a0 Z = true) : (Jvm.Cond.constant "com/example/coralline/coralline/xml/XmlChars" (7 : Nat) (55295 : Int32)).before a0 Z = true := hw _ (List.mem_of_getElem? (i := 26) rfl)
theorem tw_27 {Z : State} {a0 : Array Value} (hw : ∀ d ∈ tables_1, d.before a0 Z = true) : (Jvm.Cond.constant "com/example/coralline/coralline/xml/XmlChars" (12 : Nat) (63744 : Int32)).before a0 Z = true := hw _ (List.mem_of_getElem? (i := 27) rfl)
theorem tw_28 {Z : State} {a0 : Array Value} (hw : ∀ d ∈ tables_1, d.before a0 Z = true) : (Jvm.Cond.constant "com/example/coralline/coralline/xml/XmlChars" (13 : Nat) (64975 : Int32)).before a0 Z = true := hw _ (List.mem_of_getElem? (i := 28) rfl)
theorem tw_29 {Z : State} {a0 : Array Value} (hw : ∀ d ∈ tables_1, d.before a0 Z = true) : (Jvm.Cond.constant "com/example/coralline/coralline/xml/XmlChars" (14 : Nat) (65008 : Int32)).before a0 Z = true := hw _ (List.mem_of_getElem? (i := 29) rfl)
theorem tw_30 {Z : State} {a0 : Array Value} (hw : ∀ d ∈ tables_1, d.before a0 Z = true) : (Jvm.Cond.constant "com/example/coralline/coralline/xml/XmlChars" (9 : Nat) (65533 : Int32)).before a0 Z = true := hw _ (List.mem_of_getElem? (i := 30) rfl)
theorem tw_31 {Z : State} {a0 : Array Value} (hw : ∀ d ∈ tables_1, d.before a0 Z = true) : (Jvm.Cond.constant "com/example/coralline/coralline/xml/XmlChars" (10 : Nat) (65536 : Int32)).before a0 Z = true := hw _ (List.mem_of_getElem? (i := 31) rfl)
theorem tw_32 {Z : State} {a0 : Array Value} (hw : ∀ d ∈ tables_1, d.before a0 Z = true) : (Jvm.Cond.constant "com/example/coralline/coralline/xml/XmlChars" (15 : Nat) (983039 : Int32)).before a0 Z = true := hw _ (List.mem_of_getElem? (i := 32) rfl)
theorem tw_33 {Z : State} {a0 : Array Value} (hw : ∀ d ∈ tables_1, d.before a0 Z = true) : (Jvm.Cond.constant "com/example/coralline/coralline/xml/XmlCharsIsNameStartCharPinLaw" (9 : Nat) (63743 : Int32)).before a0 Z = true := hw _ (List.mem_of_getElem? (i := 33) rfl)
theorem tw_34 {Z : State} {a0 : Array Value} (hw : ∀ d ∈ tables_1, d.before a0 Z = true) : (Jvm.Cond.constant "com/example/coralline/coralline/xml/XmlCharsIsNameStartCharPinLaw" (11 : Nat) (65007 : Int32)).before a0 Z = true := hw _ (List.mem_of_getElem? (i := 34) rfl)
theorem d2_0 : decode prog_131_method_4_code 0 = .ok (.iload_n 0, 1) := by decide +kernel
theorem d2_1 : decode prog_131_method_4_code 1 = .ok (.sipush 128, 3) := by decide +kernel
theorem d2_4 : decode prog_131_method_4_code 4 = .ok (.if_icmp .ge 45, 3) := by decide +kernel
theorem d2_7 : decode prog_131_method_4_code 7 = .ok (.iload_n 0, 1) := by decide +kernel
theorem d2_8 : decode prog_131_method_4_code 8 = .ok (.bipush 97, 2) := by decide +kernel
theorem d2_10 : decode prog_131_method_4_code 10 = .ok (.if_icmp .lt 9, 3) := by decide +kernel
theorem d2_13 : decode prog_131_method_4_code 13 = .ok (.iload_n 0, 1) := by decide +kernel
theorem d2_14 : decode prog_131_method_4_code 14 = .ok (.bipush 122, 2) := by decide +kernel
theorem d2_16 : decode prog_131_method_4_code 16 = .ok (.if_icmp .le 27, 3) := by decide +kernel
theorem d2_19 : decode prog_131_method_4_code 19 = .ok (.iload_n 0, 1) := by decide +kernel
theorem d2_20 : decode prog_131_method_4_code 20 = .ok (.bipush 65, 2) := by decide +kernel
theorem d2_22 : decode prog_131_method_4_code 22 = .ok (.if_icmp .lt 9, 3) := by decide +kernel
theorem d2_25 : decode prog_131_method_4_code 25 = .ok (.iload_n 0, 1) := by decide +kernel
theorem d2_26 : decode prog_131_method_4_code 26 = .ok (.bipush 90, 2) := by decide +kernel
theorem d2_28 : decode prog_131_method_4_code 28 = .ok (.if_icmp .le 15, 3) := by decide +kernel
theorem d2_31 : decode prog_131_method_4_code 31 = .ok (.iload_n 0, 1) := by decide +kernel
theorem d2_32 : decode prog_131_method_4_code 32 = .ok (.bipush 95, 2) := by decide +kernel
theorem d2_34 : decode prog_131_method_4_code 34 = .ok (.if_icmp .eq 9, 3) := by decide +kernel
theorem d2_37 : decode prog_131_method_4_code 37 = .ok (.iload_n 0, 1) := by decide +kernel
theorem d2_38 : decode prog_131_method_4_code 38 = .ok (.bipush 58, 2) := by decide +kernel
theorem d2_40 : decode prog_131_method_4_code 40 = .ok (.if_icmp .ne 7, 3) := by decide +kernel
theorem d2_43 : decode prog_131_method_4_code 43 = .ok (.iconst 1, 1) := by decide +kernel
theorem d2_44 : decode prog_131_method_4_code 44 = .ok (.goto 4, 3) := by decide +kernel
theorem d2_47 : decode prog_131_method_4_code 47 = .ok (.iconst 0, 1) := by decide +kernel
theorem d2_48 : decode prog_131_method_4_code 48 = .ok (.ireturn, 1) := by decide +kernel
theorem d2_49 : decode prog_131_method_4_code 49 = .ok (.iload_n 0, 1) := by decide +kernel
theorem d2_50 : decode prog_131_method_4_code 50 = .ok (.sipush 192, 3) := by decide +kernel
theorem d2_53 : decode prog_131_method_4_code 53 = .ok (.if_icmp .lt 10, 3) := by decide +kernel
theorem d2_56 : decode prog_131_method_4_code 56 = .ok (.iload_n 0, 1) := by decide +kernel
theorem d2_57 : decode prog_131_method_4_code 57 = .ok (.sipush 214, 3) := by decide +kernel
theorem d2_60 : decode prog_131_method_4_code 60 = .ok (.if_icmp .le 150, 3) := by decide +kernel
theorem d2_63 : decode prog_131_method_4_code 63 = .ok (.iload_n 0, 1) := by decide +kernel
theorem d2_64 : decode prog_131_method_4_code 64 = .ok (.sipush 216, 3) := by decide +kernel
theorem d2_67 : decode prog_131_method_4_code 67 = .ok (.if_icmp .lt 10, 3) := by decide +kernel
theorem d2_70 : decode prog_131_method_4_code 70 = .ok (.iload_n 0, 1) := by decide +kernel
theorem d2_71 : decode prog_131_method_4_code 71 = .ok (.sipush 246, 3) := by decide +kernel
theorem d2_74 : decode prog_131_method_4_code 74 = .ok (.if_icmp .le 136, 3) := by decide +kernel
theorem d2_77 : decode prog_131_method_4_code 77 = .ok (.iload_n 0, 1) := by decide +kernel
theorem d2_78 : decode prog_131_method_4_code 78 = .ok (.sipush 248, 3) := by decide +kernel
theorem d2_81 : decode prog_131_method_4_code 81 = .ok (.if_icmp .lt 10, 3) := by decide +kernel
theorem d2_84 : decode prog_131_method_4_code 84 = .ok (.iload_n 0, 1) := by decide +kernel
theorem d2_85 : decode prog_131_method_4_code 85 = .ok (.sipush 767, 3) := by decide +kernel
theorem d2_88 : decode prog_131_method_4_code 88 = .ok (.if_icmp .le 122, 3) := by decide +kernel
theorem d2_91 : decode prog_131_method_4_code 91 = .ok (.iload_n 0, 1) := by decide +kernel
theorem d2_92 : decode prog_131_method_4_code 92 = .ok (.sipush 880, 3) := by decide +kernel
theorem d2_95 : decode prog_131_method_4_code 95 = .ok (.if_icmp .lt 10, 3) := by decide +kernel
theorem d2_98 : decode prog_131_method_4_code 98 = .ok (.iload_n 0, 1) := by decide +kernel
theorem d2_99 : decode prog_131_method_4_code 99 = .ok (.sipush 893, 3) := by decide +kernel
theorem d2_102 : decode prog_131_method_4_code 102 = .ok (.if_icmp .le 108, 3) := by decide +kernel
theorem d2_105 : decode prog_131_method_4_code 105 = .ok (.iload_n 0, 1) := by decide +kernel
theorem d2_106 : decode prog_131_method_4_code 106 = .ok (.sipush 895, 3) := by decide +kernel
theorem d2_109 : decode prog_131_method_4_code 109 = .ok (.if_icmp .lt 10, 3) := by decide +kernel
theorem d2_112 : decode prog_131_method_4_code 112 = .ok (.iload_n 0, 1) := by decide +kernel
theorem d2_113 : decode prog_131_method_4_code 113 = .ok (.sipush 8191, 3) := by decide +kernel
theorem d2_116 : decode prog_131_method_4_code 116 = .ok (.if_icmp .le 94, 3) := by decide +kernel
theorem d2_119 : decode prog_131_method_4_code 119 = .ok (.iload_n 0, 1) := by decide +kernel
theorem d2_120 : decode prog_131_method_4_code 120 = .ok (.sipush 8204, 3) := by decide +kernel
theorem d2_123 : decode prog_131_method_4_code 123 = .ok (.if_icmp .eq 87, 3) := by decide +kernel
theorem d2_126 : decode prog_131_method_4_code 126 = .ok (.iload_n 0, 1) := by decide +kernel
theorem d2_127 : decode prog_131_method_4_code 127 = .ok (.sipush 8205, 3) := by decide +kernel
theorem d2_130 : decode prog_131_method_4_code 130 = .ok (.if_icmp .eq 80, 3) := by decide +kernel
theorem d2_133 : decode prog_131_method_4_code 133 = .ok (.iload_n 0, 1) := by decide +kernel
theorem d2_134 : decode prog_131_method_4_code 134 = .ok (.sipush 8304, 3) := by decide +kernel
theorem d2_137 : decode prog_131_method_4_code 137 = .ok (.if_icmp .lt 10, 3) := by decide +kernel
theorem d2_140 : decode prog_131_method_4_code 140 = .ok (.iload_n 0, 1) := by decide +kernel
theorem d2_141 : decode prog_131_method_4_code 141 = .ok (.sipush 8591, 3) := by decide +kernel
theorem d2_144 : decode prog_131_method_4_code 144 = .ok (.if_icmp .le 66, 3) := by decide +kernel
theorem d2_147 : decode prog_131_method_4_code 147 = .ok (.iload_n 0, 1) := by decide +kernel
theorem d2_148 : decode prog_131_method_4_code 148 = .ok (.sipush 11264, 3) := by decide +kernel
theorem d2_151 : decode prog_131_method_4_code 151 = .ok (.if_icmp .lt 10, 3) := by decide +kernel
theorem d2_154 : decode prog_131_method_4_code 154 = .ok (.iload_n 0, 1) := by decide +kernel
theorem d2_155 : decode prog_131_method_4_code 155 = .ok (.sipush 12271, 3) := by decide +kernel
theorem d2_158 : decode prog_131_method_4_code 158 = .ok (.if_icmp .le 52, 3) := by decide +kernel
theorem d2_161 : decode prog_131_method_4_code 161 = .ok (.iload_n 0, 1) := by decide +kernel
theorem d2_162 : decode prog_131_method_4_code 162 = .ok (.sipush 12289, 3) := by decide +kernel
theorem d2_165 : decode prog_131_method_4_code 165 = .ok (.if_icmp .lt 9, 3) := by decide +kernel
theorem d2_168 : decode prog_131_method_4_code 168 = .ok (.iload_n 0, 1) := by decide +kernel
theorem d2_169 : decode prog_131_method_4_code 169 = .ok (.ldc 7, 2) := by decide +kernel
theorem d2_171 : decode prog_131_method_4_code 171 = .ok (.if_icmp .le 39, 3) := by decide +kernel
theorem d2_174 : decode prog_131_method_4_code 174 = .ok (.iload_n 0, 1) := by decide +kernel
theorem d2_175 : decode prog_131_method_4_code 175 = .ok (.ldc 12, 2) := by decide +kernel
theorem d2_177 : decode prog_131_method_4_code 177 = .ok (.if_icmp .lt 9, 3) := by decide +kernel
theorem d2_180 : decode prog_131_method_4_code 180 = .ok (.iload_n 0, 1) := by decide +kernel
theorem d2_181 : decode prog_131_method_4_code 181 = .ok (.ldc 13, 2) := by decide +kernel
theorem d2_183 : decode prog_131_method_4_code 183 = .ok (.if_icmp .le 27, 3) := by decide +kernel
theorem d2_186 : decode prog_131_method_4_code 186 = .ok (.iload_n 0, 1) := by decide +kernel
theorem d2_187 : decode prog_131_method_4_code 187 = .ok (.ldc 14, 2) := by decide +kernel
theorem d2_189 : decode prog_131_method_4_code 189 = .ok (.if_icmp .lt 9, 3) := by decide +kernel
theorem d2_192 : decode prog_131_method_4_code 192 = .ok (.iload_n 0, 1) := by decide +kernel
theorem d2_193 : decode prog_131_method_4_code 193 = .ok (.ldc 9, 2) := by decide +kernel
theorem d2_195 : decode prog_131_method_4_code 195 = .ok (.if_icmp .le 15, 3) := by decide +kernel
theorem d2_198 : decode prog_131_method_4_code 198 = .ok (.iload_n 0, 1) := by decide +kernel
theorem d2_199 : decode prog_131_method_4_code 199 = .ok (.ldc 10, 2) := by decide +kernel
theorem d2_201 : decode prog_131_method_4_code 201 = .ok (.if_icmp .lt 13, 3) := by decide +kernel
theorem d2_204 : decode prog_131_method_4_code 204 = .ok (.iload_n 0, 1) := by decide +kernel
theorem d2_205 : decode prog_131_method_4_code 205 = .ok (.ldc 15, 2) := by decide +kernel
theorem d2_207 : decode prog_131_method_4_code 207 = .ok (.if_icmp .gt 7, 3) := by decide +kernel
theorem d2_210 : decode prog_131_method_4_code 210 = .ok (.iconst 1, 1) := by decide +kernel
theorem d2_211 : decode prog_131_method_4_code 211 = .ok (.goto 4, 3) := by decide +kernel
theorem d2_214 : decode prog_131_method_4_code 214 = .ok (.iconst 0, 1) := by decide +kernel
theorem d2_215 : decode prog_131_method_4_code 215 = .ok (.ireturn, 1) := by decide +kernel
theorem pn_0 : plainName "com/example/coralline/coralline/xml/XmlChars" = true := by first | (simp [plainName, overriddenIn]; done) | decide +kernel
abbrev mN_2 : MethodName := ⟨"com/example/coralline/coralline/xml/XmlChars", "isNameStartChar", "(I)Z"⟩
theorem d3_0 : decode method_2_code 0 = .ok (.iload_n 0, 1) := by decide +kernel
theorem d3_1 : decode method_2_code 1 = .ok (.ifCond .lt 9, 3) := by decide +kernel
theorem d3_4 : decode method_2_code 4 = .ok (.iload_n 0, 1) := by decide +kernel
theorem d3_5 : decode method_2_code 5 = .ok (.ldc 7, 2) := by decide +kernel
theorem d3_7 : decode method_2_code 7 = .ok (.if_icmp .le 5, 3) := by decide +kernel
theorem d3_10 : decode method_2_code 10 = .ok (.iconst 0, 1) := by decide +kernel
theorem d3_11 : decode method_2_code 11 = .ok (.ireturn, 1) := by decide +kernel
theorem d3_12 : decode method_2_code 12 = .ok (.iload_n 0, 1) := by decide +kernel
theorem d3_13 : decode method_2_code 13 = .ok (.bipush 57, 2) := by decide +kernel
theorem d3_15 : decode method_2_code 15 = .ok (.if_icmp .gt 5, 3) := by decide +kernel
theorem d3_18 : decode method_2_code 18 = .ok (.iconst 0, 1) := by decide +kernel
theorem d3_19 : decode method_2_code 19 = .ok (.ireturn, 1) := by decide +kernel
theorem d3_20 : decode method_2_code 20 = .ok (.iload_n 0, 1) := by decide +kernel
theorem d3_21 : decode method_2_code 21 = .ok (.bipush 59, 2) := by decide +kernel
theorem d3_23 : decode method_2_code 23 = .ok (.if_icmp .lt 11, 3) := by decide +kernel
theorem d3_26 : decode method_2_code 26 = .ok (.iload_n 0, 1) := by decide +kernel
theorem d3_27 : decode method_2_code 27 = .ok (.bipush 64, 2) := by decide +kernel
theorem d3_29 : decode method_2_code 29 = .ok (.if_icmp .gt 5, 3) := by decide +kernel
theorem d3_32 : decode method_2_code 32 = .ok (.iconst 0, 1) := by decide +kernel
theorem d3_33 : decode method_2_code 33 = .ok (.ireturn, 1) := by decide +kernel
theorem d3_34 : decode method_2_code 34 = .ok (.iload_n 0, 1) := by decide +kernel
theorem d3_35 : decode method_2_code 35 = .ok (.bipush 91, 2) := by decide +kernel
theorem d3_37 : decode method_2_code 37 = .ok (.if_icmp .lt 11, 3) := by decide +kernel
theorem d3_40 : decode method_2_code 40 = .ok (.iload_n 0, 1) := by decide +kernel
theorem d3_41 : decode method_2_code 41 = .ok (.bipush 94, 2) := by decide +kernel
theorem d3_43 : decode method_2_code 43 = .ok (.if_icmp .gt 5, 3) := by decide +kernel
theorem d3_46 : decode method_2_code 46 = .ok (.iconst 0, 1) := by decide +kernel
theorem d3_47 : decode method_2_code 47 = .ok (.ireturn, 1) := by decide +kernel
theorem d3_48 : decode method_2_code 48 = .ok (.iload_n 0, 1) := by decide +kernel
theorem d3_49 : decode method_2_code 49 = .ok (.bipush 96, 2) := by decide +kernel
theorem d3_51 : decode method_2_code 51 = .ok (.if_icmp .ne 5, 3) := by decide +kernel
theorem d3_54 : decode method_2_code 54 = .ok (.iconst 0, 1) := by decide +kernel
theorem d3_55 : decode method_2_code 55 = .ok (.ireturn, 1) := by decide +kernel
theorem d3_56 : decode method_2_code 56 = .ok (.iload_n 0, 1) := by decide +kernel
theorem d3_57 : decode method_2_code 57 = .ok (.bipush 123, 2) := by decide +kernel
theorem d3_59 : decode method_2_code 59 = .ok (.if_icmp .lt 12, 3) := by decide +kernel
theorem d3_62 : decode method_2_code 62 = .ok (.iload_n 0, 1) := by decide +kernel
theorem d3_63 : decode method_2_code 63 = .ok (.sipush 191, 3) := by decide +kernel
theorem d3_66 : decode method_2_code 66 = .ok (.if_icmp .gt 5, 3) := by decide +kernel
theorem d3_69 : decode method_2_code 69 = .ok (.iconst 0, 1) := by decide +kernel
theorem d3_70 : decode method_2_code 70 = .ok (.ireturn, 1) := by decide +kernel
theorem d3_71 : decode method_2_code 71 = .ok (.iload_n 0, 1) := by decide +kernel
theorem d3_72 : decode method_2_code 72 = .ok (.sipush 215, 3) := by decide +kernel
theorem d3_75 : decode method_2_code 75 = .ok (.if_icmp .eq 10, 3) := by decide +kernel
theorem d3_78 : decode method_2_code 78 = .ok (.iload_n 0, 1) := by decide +kernel
theorem d3_79 : decode method_2_code 79 = .ok (.sipush 247, 3) := by decide +kernel
theorem d3_82 : decode method_2_code 82 = .ok (.if_icmp .ne 5, 3) := by decide +kernel
theorem d3_85 : decode method_2_code 85 = .ok (.iconst 0, 1) := by decide +kernel
theorem d3_86 : decode method_2_code 86 = .ok (.ireturn, 1) := by decide +kernel
theorem d3_87 : decode method_2_code 87 = .ok (.iload_n 0, 1) := by decide +kernel
theorem d3_88 : decode method_2_code 88 = .ok (.sipush 768, 3) := by decide +kernel
theorem d3_91 : decode method_2_code 91 = .ok (.if_icmp .lt 12, 3) := by decide +kernel
theorem d3_94 : decode method_2_code 94 = .ok (.iload_n 0, 1) := by decide +kernel
theorem d3_95 : decode method_2_code 95 = .ok (.sipush 879, 3) := by decide +kernel
theorem d3_98 : decode method_2_code 98 = .ok (.if_icmp .gt 5, 3) := by decide +kernel
theorem d3_101 : decode method_2_code 101 = .ok (.iconst 0, 1) := by decide +kernel
theorem d3_102 : decode method_2_code 102 = .ok (.ireturn, 1) := by decide +kernel
theorem d3_103 : decode method_2_code 103 = .ok (.iload_n 0, 1) := by decide +kernel
theorem d3_104 : decode method_2_code 104 = .ok (.sipush 894, 3) := by decide +kernel
theorem d3_107 : decode method_2_code 107 = .ok (.if_icmp .ne 5, 3) := by decide +kernel
theorem d3_110 : decode method_2_code 110 = .ok (.iconst 0, 1) := by decide +kernel
theorem d3_111 : decode method_2_code 111 = .ok (.ireturn, 1) := by decide +kernel
theorem d3_112 : decode method_2_code 112 = .ok (.iload_n 0, 1) := by decide +kernel
theorem d3_113 : decode method_2_code 113 = .ok (.sipush 8192, 3) := by decide +kernel
theorem d3_116 : decode method_2_code 116 = .ok (.if_icmp .lt 12, 3) := by decide +kernel
theorem d3_119 : decode method_2_code 119 = .ok (.iload_n 0, 1) := by decide +kernel
theorem d3_120 : decode method_2_code 120 = .ok (.sipush 8203, 3) := by decide +kernel
theorem d3_123 : decode method_2_code 123 = .ok (.if_icmp .gt 5, 3) := by decide +kernel
theorem d3_126 : decode method_2_code 126 = .ok (.iconst 0, 1) := by decide +kernel
theorem d3_127 : decode method_2_code 127 = .ok (.ireturn, 1) := by decide +kernel
theorem d3_128 : decode method_2_code 128 = .ok (.iload_n 0, 1) := by decide +kernel
theorem d3_129 : decode method_2_code 129 = .ok (.sipush 8206, 3) := by decide +kernel
theorem d3_132 : decode method_2_code 132 = .ok (.if_icmp .lt 12, 3) := by decide +kernel
theorem d3_135 : decode method_2_code 135 = .ok (.iload_n 0, 1) := by decide +kernel
theorem d3_136 : decode method_2_code 136 = .ok (.sipush 8303, 3) := by decide +kernel
theorem d3_139 : decode method_2_code 139 = .ok (.if_icmp .gt 5, 3) := by decide +kernel
theorem d3_142 : decode method_2_code 142 = .ok (.iconst 0, 1) := by decide +kernel
theorem d3_143 : decode method_2_code 143 = .ok (.ireturn, 1) := by decide +kernel
theorem d3_144 : decode method_2_code 144 = .ok (.iload_n 0, 1) := by decide +kernel
theorem d3_145 : decode method_2_code 145 = .ok (.sipush 8592, 3) := by decide +kernel
theorem d3_148 : decode method_2_code 148 = .ok (.if_icmp .lt 12, 3) := by decide +kernel
theorem d3_151 : decode method_2_code 151 = .ok (.iload_n 0, 1) := by decide +kernel
theorem d3_152 : decode method_2_code 152 = .ok (.sipush 11263, 3) := by decide +kernel
theorem d3_155 : decode method_2_code 155 = .ok (.if_icmp .gt 5, 3) := by decide +kernel
theorem d3_158 : decode method_2_code 158 = .ok (.iconst 0, 1) := by decide +kernel
theorem d3_159 : decode method_2_code 159 = .ok (.ireturn, 1) := by decide +kernel
theorem d3_160 : decode method_2_code 160 = .ok (.iload_n 0, 1) := by decide +kernel
theorem d3_161 : decode method_2_code 161 = .ok (.sipush 12272, 3) := by decide +kernel
theorem d3_164 : decode method_2_code 164 = .ok (.if_icmp .lt 12, 3) := by decide +kernel
theorem d3_167 : decode method_2_code 167 = .ok (.iload_n 0, 1) := by decide +kernel
theorem d3_168 : decode method_2_code 168 = .ok (.sipush 12288, 3) := by decide +kernel
theorem d3_171 : decode method_2_code 171 = .ok (.if_icmp .gt 5, 3) := by decide +kernel
theorem d3_174 : decode method_2_code 174 = .ok (.iconst 0, 1) := by decide +kernel
theorem d3_175 : decode method_2_code 175 = .ok (.ireturn, 1) := by decide +kernel
theorem d3_176 : decode method_2_code 176 = .ok (.iload_n 0, 1) := by decide +kernel
theorem d3_177 : decode method_2_code 177 = .ok (.ldc 8, 2) := by decide +kernel
theorem d3_179 : decode method_2_code 179 = .ok (.if_icmp .lt 11, 3) := by decide +kernel
theorem d3_182 : decode method_2_code 182 = .ok (.iload_n 0, 1) := by decide +kernel
theorem d3_183 : decode method_2_code 183 = .ok (.ldc 9, 2) := by decide +kernel
theorem d3_185 : decode method_2_code 185 = .ok (.if_icmp .gt 5, 3) := by decide +kernel
theorem d3_188 : decode method_2_code 188 = .ok (.iconst 0, 1) := by decide +kernel
theorem d3_189 : decode method_2_code 189 = .ok (.ireturn, 1) := by decide +kernel
theorem d3_190 : decode method_2_code 190 = .ok (.iload_n 0, 1) := by decide +kernel
theorem d3_191 : decode method_2_code 191 = .ok (.ldc 10, 2) := by decide +kernel
theorem d3_193 : decode method_2_code 193 = .ok (.if_icmp .lt 11, 3) := by decide +kernel
theorem d3_196 : decode method_2_code 196 = .ok (.iload_n 0, 1) := by decide +kernel
theorem d3_197 : decode method_2_code 197 = .ok (.ldc 11, 2) := by decide +kernel
theorem d3_199 : decode method_2_code 199 = .ok (.if_icmp .gt 5, 3) := by decide +kernel
theorem d3_202 : decode method_2_code 202 = .ok (.iconst 0, 1) := by decide +kernel
theorem d3_203 : decode method_2_code 203 = .ok (.ireturn, 1) := by decide +kernel
theorem d3_204 : decode method_2_code 204 = .ok (.iload_n 0, 1) := by decide +kernel
theorem d3_205 : decode method_2_code 205 = .ok (.ldc 12, 2) := by decide +kernel
theorem d3_207 : decode method_2_code 207 = .ok (.if_icmp .lt 11, 3) := by decide +kernel
theorem d3_210 : decode method_2_code 210 = .ok (.iload_n 0, 1) := by decide +kernel
theorem d3_211 : decode method_2_code 211 = .ok (.ldc 13, 2) := by decide +kernel
theorem d3_213 : decode method_2_code 213 = .ok (.if_icmp .gt 5, 3) := by decide +kernel
theorem d3_216 : decode method_2_code 216 = .ok (.iconst 0, 1) := by decide +kernel
theorem d3_217 : decode method_2_code 217 = .ok (.ireturn, 1) := by decide +kernel
theorem d3_218 : decode method_2_code 218 = .ok (.iconst 1, 1) := by decide +kernel
theorem d3_219 : decode method_2_code 219 = .ok (.ireturn, 1) := by decide +kernel
theorem pn_1 : plainName "com/example/coralline/coralline/xml/XmlCharsIsNameStartCharPinLaw" = true := by first | (simp [plainName, overriddenIn]; done) | decide +kernel
abbrev mN_3 : MethodName := ⟨"com/example/coralline/coralline/xml/XmlCharsIsNameStartCharPinLaw", "ref", "(I)Z"⟩
theorem pd_0 : parseMethodDescriptor "(I)Z" = some ⟨[.int], some .boolean⟩ := by decide +kernel
theorem d1_0 : decode method_3_code 0 = .ok (.iload_n 0, 1) := by decide +kernel
theorem d1_1 : decode method_3_code 1 = .ok (.invokestatic 14, 3) := by decide +kernel
theorem d1_4 : decode method_3_code 4 = .ok (.iload_n 0, 1) := by decide +kernel
theorem d1_5 : decode method_3_code 5 = .ok (.invokestatic 20, 3) := by decide +kernel
theorem d1_8 : decode method_3_code 8 = .ok (.if_icmp .ne 7, 3) := by decide +kernel
theorem d1_11 : decode method_3_code 11 = .ok (.iconst 1, 1) := by decide +kernel
theorem d1_12 : decode method_3_code 12 = .ok (.goto 4, 3) := by decide +kernel
theorem d1_16 : decode method_3_code 16 = .ok (.ireturn, 1) := by decide +kernel
abbrev mN_1 : MethodName := ⟨"com/example/coralline/coralline/xml/XmlCharsIsNameStartCharPinLaw", "same", "(I)Z"⟩
theorem ef_2 (m : MethodId) (x0 : Int32) : entryFrame m #[(.int x0)] 1 = mkF m 0 #[.val (.int x0)] [] := by first | (simp [entryFrame, mkF, argsToLocals, Value.category]; done) | rfl
def Q2 (Z : State) (x : Int32) (h0 : Heap) (n0 : Nat) (v : Option Value) (h : Heap) (L : List Loc) : Prop := ∃ z : Int32, v = some (.int z) ∧ (z.toInt = own_b ((97 ≤ x.toInt ∧ x.toInt ≤ 122) ∨ (65 ≤ x.toInt ∧ x.toInt ≤ 90) ∨ (95 ≤ x.toInt ∧ x.toInt ≤ 95) ∨ (58 ≤ x.toInt ∧ x.toInt ≤ 58) ∨ (192 ≤ x.toInt ∧ x.toInt ≤ 214) ∨ (216 ≤ x.toInt ∧ x.toInt ≤ 246) ∨ (248 ≤ x.toInt ∧ x.toInt ≤ 767) ∨ (880 ≤ x.toInt ∧ x.toInt ≤ 893) ∨ (895 ≤ x.toInt ∧ x.toInt ≤ 8191) ∨ (8204 ≤ x.toInt ∧ x.toInt ≤ 8205) ∨ (8304 ≤ x.toInt ∧ x.toInt ≤ 8591) ∨ (11264 ≤ x.toInt ∧ x.toInt ≤ 12271) ∨ (12289 ≤ x.toInt ∧ x.toInt ≤ 55295) ∨ (63744 ≤ x.toInt ∧ x.toInt ≤ 64975) ∨ (65008 ≤ x.toInt ∧ x.toInt ≤ 65533) ∨ (65536 ≤ x.toInt ∧ x.toInt ≤ 983039)) ∧ 0 ≤ z.toInt ∧ z.toInt ≤ 1) ∧ Fr n0 L ∧ h = h0
set_option maxRecDepth 65536 in
set_option maxHeartbeats 40000000 in
theorem rm2 (l : Launch) (Z : State) (a0 : Array Value) (hw : ∀ d ∈ tables_1, d.before a0 Z = true) (ws : List Jvm.Cond) (x : Int32) (h0 : Heap) (n0 : Nat) (Z0 : n0 ≤ h0.size) :
    CT l mN_2 prog_131_method_4_code 1 (some .boolean) ws ({ frames := 0, cells := 0, slots := 0, locals := 0 } : Room) #[(.int x)] Z h0 (Q2 Z x h0 n0) := by
  refine body_of (plainFor_of_name pn_0) ?_
  intro p e s m below meth c s₁ hx dB hret hlk hml hown0 hnm X0 e0 hZ
  have hown : s.vm.findClass cN_0 = some m.cls := hown0
  have N0 := Fr.nil n0
  rw [ef_2]
  show Wk p e below (FN s (Q2 Z x h0 n0) 0 0) s₁ (mkF m 0 #[.val (.int x)] [])
  have r_x := rng32 x
  refine w_iloadN X0 hx x (dB d2_0) 1 rfl rfl ?_
  refine w_sipush X0 hx (dB d2_1) 4 rfl (128 : Int32) (by decide) ?_
  refine w_icmp_ge X0 hx x.toInt 128 rfl (by decide) (dB d2_4) 49 7 (fun c1 => ?_) (fun c1 => ?_)
  ·refine w_iloadN X0 hx x (dB d2_49) 50 rfl rfl ?_
   refine w_sipush X0 hx (dB d2_50) 53 rfl (192 : Int32) (by decide) ?_
   refine w_icmp_lt X0 hx x.toInt 192 rfl (by decide) (dB d2_53) 63 56 (fun c2 => ?_) (fun c2 => ?_)
   ·refine w_iloadN X0 hx x (dB d2_63) 64 rfl rfl ?_
    refine w_sipush X0 hx (dB d2_64) 67 rfl (216 : Int32) (by decide) ?_
    refine w_icmp_lt X0 hx x.toInt 216 rfl (by decide) (dB d2_67) 77 70 (fun c3 => ?_) (fun c3 => ?_)
    ·refine w_iloadN X0 hx x (dB d2_77) 78 rfl rfl ?_
     refine w_sipush X0 hx (dB d2_78) 81 rfl (248 : Int32) (by decide) ?_
     refine w_icmp_lt X0 hx x.toInt 248 rfl (by decide) (dB d2_81) 91 84 (fun c4 => ?_) (fun c4 => ?_)
     ·refine w_iloadN X0 hx x (dB d2_91) 92 rfl rfl ?_
      refine w_sipush X0 hx (dB d2_92) 95 rfl (880 : Int32) (by decide) ?_
      refine w_icmp_lt X0 hx x.toInt 880 rfl (by decide) (dB d2_95) 105 98 (fun c5 => ?_) (fun c5 => ?_)
      ·refine w_iloadN X0 hx x (dB d2_105) 106 rfl rfl ?_
       refine w_sipush X0 hx (dB d2_106) 109 rfl (895 : Int32) (by decide) ?_
       refine w_icmp_lt X0 hx x.toInt 895 rfl (by decide) (dB d2_109) 119 112 (fun c6 => ?_) (fun c6 => ?_)
       ·refine w_iloadN X0 hx x (dB d2_119) 120 rfl rfl ?_
        refine w_sipush X0 hx (dB d2_120) 123 rfl (8204 : Int32) (by decide) ?_
        refine w_icmp_eq X0 hx x.toInt 8204 rfl (by decide) (dB d2_123) 210 126 (fun c7 => ?_) (fun c7 => ?_)
        ·exfalso; omega
        ·refine w_iloadN X0 hx x (dB d2_126) 127 rfl rfl ?_
         refine w_sipush X0 hx (dB d2_127) 130 rfl (8205 : Int32) (by decide) ?_
         refine w_icmp_eq X0 hx x.toInt 8205 rfl (by decide) (dB d2_130) 210 133 (fun c8 => ?_) (fun c8 => ?_)
         ·exfalso; omega
         ·refine w_iloadN X0 hx x (dB d2_133) 134 rfl rfl ?_
          refine w_sipush X0 hx (dB d2_134) 137 rfl (8304 : Int32) (by decide) ?_
          refine w_icmp_lt X0 hx x.toInt 8304 rfl (by decide) (dB d2_137) 147 140 (fun c9 => ?_) (fun c9 => ?_)
          ·refine w_iloadN X0 hx x (dB d2_147) 148 rfl rfl ?_
           refine w_sipush X0 hx (dB d2_148) 151 rfl (11264 : Int32) (by decide) ?_
           refine w_icmp_lt X0 hx x.toInt 11264 rfl (by decide) (dB d2_151) 161 154 (fun c10 => ?_) (fun c10 => ?_)
           ·refine w_iloadN X0 hx x (dB d2_161) 162 rfl rfl ?_
            refine w_sipush X0 hx (dB d2_162) 165 rfl (12289 : Int32) (by decide) ?_
            refine w_icmp_lt X0 hx x.toInt 12289 rfl (by decide) (dB d2_165) 174 168 (fun c11 => ?_) (fun c11 => ?_)
            ·refine w_iloadN X0 hx x (dB d2_174) 175 rfl rfl ?_
             refine w_ldc X0 hx hZ hown (tw_27 hw) (dB d2_175) 177 rfl ?_
             refine w_icmp_lt X0 hx x.toInt 63744 rfl (by decide) (dB d2_177) 186 180 (fun c12 => ?_) (fun c12 => ?_)
             ·refine w_iloadN X0 hx x (dB d2_186) 187 rfl rfl ?_
              refine w_ldc X0 hx hZ hown (tw_29 hw) (dB d2_187) 189 rfl ?_
              refine w_icmp_lt X0 hx x.toInt 65008 rfl (by decide) (dB d2_189) 198 192 (fun c13 => ?_) (fun c13 => ?_)
              ·refine w_iloadN X0 hx x (dB d2_198) 199 rfl rfl ?_
               refine w_ldc X0 hx hZ hown (tw_31 hw) (dB d2_199) 201 rfl ?_
               refine w_icmp_lt X0 hx x.toInt 65536 rfl (by decide) (dB d2_201) 214 204 (fun c14 => ?_) (fun c14 => ?_)
               ·refine w_iconst X0 hx (dB d2_214) 215 rfl (0 : Int32) (by decide) ?_
                refine w_retN X0 hx hlk (t := .boolean) hret (by simp) (dB d2_215) (by decide) (by decide) ?_
                rw [e0]
                exact ⟨(0 : Int32), rfl, by have hz : (0 : Int32).toInt = 0 := (by decide); have q : own_b ((97 ≤ x.toInt ∧ x.toInt ≤ 122) ∨ (65 ≤ x.toInt ∧ x.toInt ≤ 90) ∨ (95 ≤ x.toInt ∧ x.toInt ≤ 95) ∨ (58 ≤ x.toInt ∧ x.toInt ≤ 58) ∨ (192 ≤ x.toInt ∧ x.toInt ≤ 214) ∨ (216 ≤ x.toInt ∧ x.toInt ≤ 246) ∨ (248 ≤ x.toInt ∧ x.toInt ≤ 767) ∨ (880 ≤ x.toInt ∧ x.toInt ≤ 893) ∨ (895 ≤ x.toInt ∧ x.toInt ≤ 8191) ∨ (8204 ≤ x.toInt ∧ x.toInt ≤ 8205) ∨ (8304 ≤ x.toInt ∧ x.toInt ≤ 8591) ∨ (11264 ≤ x.toInt ∧ x.toInt ≤ 12271) ∨ (12289 ≤ x.toInt ∧ x.toInt ≤ 55295) ∨ (63744 ≤ x.toInt ∧ x.toInt ≤ 64975) ∨ (65008 ≤ x.toInt ∧ x.toInt ≤ 65533) ∨ (65536 ≤ x.toInt ∧ x.toInt ≤ 983039)) = 0 := own_b_neg (by omega); refine ⟨?_, ?_, ?_⟩ <;> omega, N0, rfl⟩
               ·exfalso; omega
              ·exfalso; omega
             ·exfalso; omega
            ·exfalso; omega
           ·exfalso; omega
          ·exfalso; omega
       ·exfalso; omega
      ·exfalso; omega
     ·exfalso; omega
    ·exfalso; omega
   ·refine w_iloadN X0 hx x (dB d2_56) 57 rfl rfl ?_
    refine w_sipush X0 hx (dB d2_57) 60 rfl (214 : Int32) (by decide) ?_
    refine w_icmp_le X0 hx x.toInt 214 rfl (by decide) (dB d2_60) 210 63 (fun c15 => ?_) (fun c15 => ?_)
    ·refine w_iconst X0 hx (dB d2_210) 211 rfl (1 : Int32) (by decide) ?_
     refine w_goto X0 hx (dB d2_211) 215 ?_
     refine w_retN X0 hx hlk (t := .boolean) hret (by simp) (dB d2_215) (by decide) (by decide) ?_
     rw [e0]
     exact ⟨(1 : Int32), rfl, by have hz : (1 : Int32).toInt = 1 := (by decide); have q : own_b ((97 ≤ x.toInt ∧ x.toInt ≤ 122) ∨ (65 ≤ x.toInt ∧ x.toInt ≤ 90) ∨ (95 ≤ x.toInt ∧ x.toInt ≤ 95) ∨ (58 ≤ x.toInt ∧ x.toInt ≤ 58) ∨ (192 ≤ x.toInt ∧ x.toInt ≤ 214) ∨ (216 ≤ x.toInt ∧ x.toInt ≤ 246) ∨ (248 ≤ x.toInt ∧ x.toInt ≤ 767) ∨ (880 ≤ x.toInt ∧ x.toInt ≤ 893) ∨ (895 ≤ x.toInt ∧ x.toInt ≤ 8191) ∨ (8204 ≤ x.toInt ∧ x.toInt ≤ 8205) ∨ (8304 ≤ x.toInt ∧ x.toInt ≤ 8591) ∨ (11264 ≤ x.toInt ∧ x.toInt ≤ 12271) ∨ (12289 ≤ x.toInt ∧ x.toInt ≤ 55295) ∨ (63744 ≤ x.toInt ∧ x.toInt ≤ 64975) ∨ (65008 ≤ x.toInt ∧ x.toInt ≤ 65533) ∨ (65536 ≤ x.toInt ∧ x.toInt ≤ 983039)) = 1 := own_b_pos (by omega); refine ⟨?_, ?_, ?_⟩ <;> omega, N0, rfl⟩
    ·refine w_iloadN X0 hx x (dB d2_63) 64 rfl rfl ?_
     refine w_sipush X0 hx (dB d2_64) 67 rfl (216 : Int32) (by decide) ?_
     refine w_icmp_lt X0 hx x.toInt 216 rfl (by decide) (dB d2_67) 77 70 (fun c16 => ?_) (fun c16 => ?_)
     ·refine w_iloadN X0 hx x (dB d2_77) 78 rfl rfl ?_
      refine w_sipush X0 hx (dB d2_78) 81 rfl (248 : Int32) (by decide) ?_
      refine w_icmp_lt X0 hx x.toInt 248 rfl (by decide) (dB d2_81) 91 84 (fun c17 => ?_) (fun c17 => ?_)
      ·refine w_iloadN X0 hx x (dB d2_91) 92 rfl rfl ?_
       refine w_sipush X0 hx (dB d2_92) 95 rfl (880 : Int32) (by decide) ?_
       refine w_icmp_lt X0 hx x.toInt 880 rfl (by decide) (dB d2_95) 105 98 (fun c18 => ?_) (fun c18 => ?_)
       ·refine w_iloadN X0 hx x (dB d2_105) 106 rfl rfl ?_
        refine w_sipush X0 hx (dB d2_106) 109 rfl (895 : Int32) (by decide) ?_
        refine w_icmp_lt X0 hx x.toInt 895 rfl (by decide) (dB d2_109) 119 112 (fun c19 => ?_) (fun c19 => ?_)
        ·refine w_iloadN X0 hx x (dB d2_119) 120 rfl rfl ?_
         refine w_sipush X0 hx (dB d2_120) 123 rfl (8204 : Int32) (by decide) ?_
         refine w_icmp_eq X0 hx x.toInt 8204 rfl (by decide) (dB d2_123) 210 126 (fun c20 => ?_) (fun c20 => ?_)
         ·exfalso; omega
         ·refine w_iloadN X0 hx x (dB d2_126) 127 rfl rfl ?_
          refine w_sipush X0 hx (dB d2_127) 130 rfl (8205 : Int32) (by decide) ?_
          refine w_icmp_eq X0 hx x.toInt 8205 rfl (by decide) (dB d2_130) 210 133 (fun c21 => ?_) (fun c21 => ?_)
          ·exfalso; omega
          ·refine w_iloadN X0 hx x (dB d2_133) 134 rfl rfl ?_
           refine w_sipush X0 hx (dB d2_134) 137 rfl (8304 : Int32) (by decide) ?_
           refine w_icmp_lt X0 hx x.toInt 8304 rfl (by decide) (dB d2_137) 147 140 (fun c22 => ?_) (fun c22 => ?_)
           ·refine w_iloadN X0 hx x (dB d2_147) 148 rfl rfl ?_
            refine w_sipush X0 hx (dB d2_148) 151 rfl (11264 : Int32) (by decide) ?_
            refine w_icmp_lt X0 hx x.toInt 11264 rfl (by decide) (dB d2_151) 161 154 (fun c23 => ?_) (fun c23 => ?_)
            ·refine w_iloadN X0 hx x (dB d2_161) 162 rfl rfl ?_
             refine w_sipush X0 hx (dB d2_162) 165 rfl (12289 : Int32) (by decide) ?_
             refine w_icmp_lt X0 hx x.toInt 12289 rfl (by decide) (dB d2_165) 174 168 (fun c24 => ?_) (fun c24 => ?_)
             ·refine w_iloadN X0 hx x (dB d2_174) 175 rfl rfl ?_
              refine w_ldc X0 hx hZ hown (tw_27 hw) (dB d2_175) 177 rfl ?_
              refine w_icmp_lt X0 hx x.toInt 63744 rfl (by decide) (dB d2_177) 186 180 (fun c25 => ?_) (fun c25 => ?_)
              ·refine w_iloadN X0 hx x (dB d2_186) 187 rfl rfl ?_
               refine w_ldc X0 hx hZ hown (tw_29 hw) (dB d2_187) 189 rfl ?_
               refine w_icmp_lt X0 hx x.toInt 65008 rfl (by decide) (dB d2_189) 198 192 (fun c26 => ?_) (fun c26 => ?_)
               ·refine w_iloadN X0 hx x (dB d2_198) 199 rfl rfl ?_
                refine w_ldc X0 hx hZ hown (tw_31 hw) (dB d2_199) 201 rfl ?_
                refine w_icmp_lt X0 hx x.toInt 65536 rfl (by decide) (dB d2_201) 214 204 (fun c27 => ?_) (fun c27 => ?_)
                ·refine w_iconst X0 hx (dB d2_214) 215 rfl (0 : Int32) (by decide) ?_
                 refine w_retN X0 hx hlk (t := .boolean) hret (by simp) (dB d2_215) (by decide) (by decide) ?_
                 rw [e0]
                 exact ⟨(0 : Int32), rfl, by have hz : (0 : Int32).toInt = 0 := (by decide); have q : own_b ((97 ≤ x.toInt ∧ x.toInt ≤ 122) ∨ (65 ≤ x.toInt ∧ x.toInt ≤ 90) ∨ (95 ≤ x.toInt ∧ x.toInt ≤ 95) ∨ (58 ≤ x.toInt ∧ x.toInt ≤ 58) ∨ (192 ≤ x.toInt ∧ x.toInt ≤ 214) ∨ (216 ≤ x.toInt ∧ x.toInt ≤ 246) ∨ (248 ≤ x.toInt ∧ x.toInt ≤ 767) ∨ (880 ≤ x.toInt ∧ x.toInt ≤ 893) ∨ (895 ≤ x.toInt ∧ x.toInt ≤ 8191) ∨ (8204 ≤ x.toInt ∧ x.toInt ≤ 8205) ∨ (8304 ≤ x.toInt ∧ x.toInt ≤ 8591) ∨ (11264 ≤ x.toInt ∧ x.toInt ≤ 12271) ∨ (12289 ≤ x.toInt ∧ x.toInt ≤ 55295) ∨ (63744 ≤ x.toInt ∧ x.toInt ≤ 64975) ∨ (65008 ≤ x.toInt ∧ x.toInt ≤ 65533) ∨ (65536 ≤ x.toInt ∧ x.toInt ≤ 983039)) = 0 := own_b_neg (by omega); refine ⟨?_, ?_, ?_⟩ <;> omega, N0, rfl⟩
                ·exfalso; omega
               ·exfalso; omega
              ·exfalso; omega
             ·exfalso; omega
            ·exfalso; omega
           ·exfalso; omega
        ·exfalso; omega
       ·exfalso; omega
      ·exfalso; omega
     ·refine w_iloadN X0 hx x (dB d2_70) 71 rfl rfl ?_
      refine w_sipush X0 hx (dB d2_71) 74 rfl (246 : Int32) (by decide) ?_
      refine w_icmp_le X0 hx x.toInt 246 rfl (by decide) (dB d2_74) 210 77 (fun c28 => ?_) (fun c28 => ?_)
      ·refine w_iconst X0 hx (dB d2_210) 211 rfl (1 : Int32) (by decide) ?_
       refine w_goto X0 hx (dB d2_211) 215 ?_
       refine w_retN X0 hx hlk (t := .boolean) hret (by simp) (dB d2_215) (by decide) (by decide) ?_
       rw [e0]
       exact ⟨(1 : Int32), rfl, by have hz : (1 : Int32).toInt = 1 := (by decide); have q : own_b ((97 ≤ x.toInt ∧ x.toInt ≤ 122) ∨ (65 ≤ x.toInt ∧ x.toInt ≤ 90) ∨ (95 ≤ x.toInt ∧ x.toInt ≤ 95) ∨ (58 ≤ x.toInt ∧ x.toInt ≤ 58) ∨ (192 ≤ x.toInt ∧ x.toInt ≤ 214) ∨ (216 ≤ x.toInt ∧ x.toInt ≤ 246) ∨ (248 ≤ x.toInt ∧ x.toInt ≤ 767) ∨ (880 ≤ x.toInt ∧ x.toInt ≤ 893) ∨ (895 ≤ x.toInt ∧ x.toInt ≤ 8191) ∨ (8204 ≤ x.toInt ∧ x.toInt ≤ 8205) ∨ (8304 ≤ x.toInt ∧ x.toInt ≤ 8591) ∨ (11264 ≤ x.toInt ∧ x.toInt ≤ 12271) ∨ (12289 ≤ x.toInt ∧ x.toInt ≤ 55295) ∨ (63744 ≤ x.toInt ∧ x.toInt ≤ 64975) ∨ (65008 ≤ x.toInt ∧ x.toInt ≤ 65533) ∨ (65536 ≤ x.toInt ∧ x.toInt ≤ 983039)) = 1 := own_b_pos (by omega); refine ⟨?_, ?_, ?_⟩ <;> omega, N0, rfl⟩
      ·refine w_iloadN X0 hx x (dB d2_77) 78 rfl rfl ?_
       refine w_sipush X0 hx (dB d2_78) 81 rfl (248 : Int32) (by decide) ?_
       refine w_icmp_lt X0 hx x.toInt 248 rfl (by decide) (dB d2_81) 91 84 (fun c29 => ?_) (fun c29 => ?_)
       ·refine w_iloadN X0 hx x (dB d2_91) 92 rfl rfl ?_
        refine w_sipush X0 hx (dB d2_92) 95 rfl (880 : Int32) (by decide) ?_
        refine w_icmp_lt X0 hx x.toInt 880 rfl (by decide) (dB d2_95) 105 98 (fun c30 => ?_) (fun c30 => ?_)
        ·refine w_iloadN X0 hx x (dB d2_105) 106 rfl rfl ?_
         refine w_sipush X0 hx (dB d2_106) 109 rfl (895 : Int32) (by decide) ?_
         refine w_icmp_lt X0 hx x.toInt 895 rfl (by decide) (dB d2_109) 119 112 (fun c31 => ?_) (fun c31 => ?_)
         ·refine w_iloadN X0 hx x (dB d2_119) 120 rfl rfl ?_
          refine w_sipush X0 hx (dB d2_120) 123 rfl (8204 : Int32) (by decide) ?_
          refine w_icmp_eq X0 hx x.toInt 8204 rfl (by decide) (dB d2_123) 210 126 (fun c32 => ?_) (fun c32 => ?_)
          ·exfalso; omega
          ·refine w_iloadN X0 hx x (dB d2_126) 127 rfl rfl ?_
           refine w_sipush X0 hx (dB d2_127) 130 rfl (8205 : Int32) (by decide) ?_
           refine w_icmp_eq X0 hx x.toInt 8205 rfl (by decide) (dB d2_130) 210 133 (fun c33 => ?_) (fun c33 => ?_)
           ·exfalso; omega
           ·refine w_iloadN X0 hx x (dB d2_133) 134 rfl rfl ?_
            refine w_sipush X0 hx (dB d2_134) 137 rfl (8304 : Int32) (by decide) ?_
            refine w_icmp_lt X0 hx x.toInt 8304 rfl (by decide) (dB d2_137) 147 140 (fun c34 => ?_) (fun c34 => ?_)
            ·refine w_iloadN X0 hx x (dB d2_147) 148 rfl rfl ?_
             refine w_sipush X0 hx (dB d2_148) 151 rfl (11264 : Int32) (by decide) ?_
             refine w_icmp_lt X0 hx x.toInt 11264 rfl (by decide) (dB d2_151) 161 154 (fun c35 => ?_) (fun c35 => ?_)
             ·refine w_iloadN X0 hx x (dB d2_161) 162 rfl rfl ?_
              refine w_sipush X0 hx (dB d2_162) 165 rfl (12289 : Int32) (by decide) ?_
              refine w_icmp_lt X0 hx x.toInt 12289 rfl (by decide) (dB d2_165) 174 168 (fun c36 => ?_) (fun c36 => ?_)
              ·refine w_iloadN X0 hx x (dB d2_174) 175 rfl rfl ?_
               refine w_ldc X0 hx hZ hown (tw_27 hw) (dB d2_175) 177 rfl ?_
               refine w_icmp_lt X0 hx x.toInt 63744 rfl (by decide) (dB d2_177) 186 180 (fun c37 => ?_) (fun c37 => ?_)
               ·refine w_iloadN X0 hx x (dB d2_186) 187 rfl rfl ?_
                refine w_ldc X0 hx hZ hown (tw_29 hw) (dB d2_187) 189 rfl ?_
                refine w_icmp_lt X0 hx x.toInt 65008 rfl (by decide) (dB d2_189) 198 192 (fun c38 => ?_) (fun c38 => ?_)
                ·refine w_iloadN X0 hx x (dB d2_198) 199 rfl rfl ?_
                 refine w_ldc X0 hx hZ hown (tw_31 hw) (dB d2_199) 201 rfl ?_
                 refine w_icmp_lt X0 hx x.toInt 65536 rfl (by decide) (dB d2_201) 214 204 (fun c39 => ?_) (fun c39 => ?_)
                 ·refine w_iconst X0 hx (dB d2_214) 215 rfl (0 : Int32) (by decide) ?_
                  refine w_retN X0 hx hlk (t := .boolean) hret (by simp) (dB d2_215) (by decide) (by decide) ?_
                  rw [e0]
                  exact ⟨(0 : Int32), rfl, by have hz : (0 : Int32).toInt = 0 := (by decide); have q : own_b ((97 ≤ x.toInt ∧ x.toInt ≤ 122) ∨ (65 ≤ x.toInt ∧ x.toInt ≤ 90) ∨ (95 ≤ x.toInt ∧ x.toInt ≤ 95) ∨ (58 ≤ x.toInt ∧ x.toInt ≤ 58) ∨ (192 ≤ x.toInt ∧ x.toInt ≤ 214) ∨ (216 ≤ x.toInt ∧ x.toInt ≤ 246) ∨ (248 ≤ x.toInt ∧ x.toInt ≤ 767) ∨ (880 ≤ x.toInt ∧ x.toInt ≤ 893) ∨ (895 ≤ x.toInt ∧ x.toInt ≤ 8191) ∨ (8204 ≤ x.toInt ∧ x.toInt ≤ 8205) ∨ (8304 ≤ x.toInt ∧ x.toInt ≤ 8591) ∨ (11264 ≤ x.toInt ∧ x.toInt ≤ 12271) ∨ (12289 ≤ x.toInt ∧ x.toInt ≤ 55295) ∨ (63744 ≤ x.toInt ∧ x.toInt ≤ 64975) ∨ (65008 ≤ x.toInt ∧ x.toInt ≤ 65533) ∨ (65536 ≤ x.toInt ∧ x.toInt ≤ 983039)) = 0 := own_b_neg (by omega); refine ⟨?_, ?_, ?_⟩ <;> omega, N0, rfl⟩
                 ·exfalso; omega
                ·exfalso; omega
               ·exfalso; omega
              ·exfalso; omega
             ·exfalso; omega
            ·exfalso; omega
         ·exfalso; omega
        ·exfalso; omega
       ·refine w_iloadN X0 hx x (dB d2_84) 85 rfl rfl ?_
        refine w_sipush X0 hx (dB d2_85) 88 rfl (767 : Int32) (by decide) ?_
        refine w_icmp_le X0 hx x.toInt 767 rfl (by decide) (dB d2_88) 210 91 (fun c40 => ?_) (fun c40 => ?_)
        ·refine w_iconst X0 hx (dB d2_210) 211 rfl (1 : Int32) (by decide) ?_
         refine w_goto X0 hx (dB d2_211) 215 ?_
         refine w_retN X0 hx hlk (t := .boolean) hret (by simp) (dB d2_215) (by decide) (by decide) ?_
         rw [e0]
         exact ⟨(1 : Int32), rfl, by have hz : (1 : Int32).toInt = 1 := (by decide); have q : own_b ((97 ≤ x.toInt ∧ x.toInt ≤ 122) ∨ (65 ≤ x.toInt ∧ x.toInt ≤ 90) ∨ (95 ≤ x.toInt ∧ x.toInt ≤ 95) ∨ (58 ≤ x.toInt ∧ x.toInt ≤ 58) ∨ (192 ≤ x.toInt ∧ x.toInt ≤ 214) ∨ (216 ≤ x.toInt ∧ x.toInt ≤ 246) ∨ (248 ≤ x.toInt ∧ x.toInt ≤ 767) ∨ (880 ≤ x.toInt ∧ x.toInt ≤ 893) ∨ (895 ≤ x.toInt ∧ x.toInt ≤ 8191) ∨ (8204 ≤ x.toInt ∧ x.toInt ≤ 8205) ∨ (8304 ≤ x.toInt ∧ x.toInt ≤ 8591) ∨ (11264 ≤ x.toInt ∧ x.toInt ≤ 12271) ∨ (12289 ≤ x.toInt ∧ x.toInt ≤ 55295) ∨ (63744 ≤ x.toInt ∧ x.toInt ≤ 64975) ∨ (65008 ≤ x.toInt ∧ x.toInt ≤ 65533) ∨ (65536 ≤ x.toInt ∧ x.toInt ≤ 983039)) = 1 := own_b_pos (by omega); refine ⟨?_, ?_, ?_⟩ <;> omega, N0, rfl⟩
        ·refine w_iloadN X0 hx x (dB d2_91) 92 rfl rfl ?_
         refine w_sipush X0 hx (dB d2_92) 95 rfl (880 : Int32) (by decide) ?_
         refine w_icmp_lt X0 hx x.toInt 880 rfl (by decide) (dB d2_95) 105 98 (fun c41 => ?_) (fun c41 => ?_)
         ·refine w_iloadN X0 hx x (dB d2_105) 106 rfl rfl ?_
          refine w_sipush X0 hx (dB d2_106) 109 rfl (895 : Int32) (by decide) ?_
          refine w_icmp_lt X0 hx x.toInt 895 rfl (by decide) (dB d2_109) 119 112 (fun c42 => ?_) (fun c42 => ?_)
          ·refine w_iloadN X0 hx x (dB d2_119) 120 rfl rfl ?_
           refine w_sipush X0 hx (dB d2_120) 123 rfl (8204 : Int32) (by decide) ?_
           refine w_icmp_eq X0 hx x.toInt 8204 rfl (by decide) (dB d2_123) 210 126 (fun c43 => ?_) (fun c43 => ?_)
           ·exfalso; omega
           ·refine w_iloadN X0 hx x (dB d2_126) 127 rfl rfl ?_
            refine w_sipush X0 hx (dB d2_127) 130 rfl (8205 : Int32) (by decide) ?_
            refine w_icmp_eq X0 hx x.toInt 8205 rfl (by decide) (dB d2_130) 210 133 (fun c44 => ?_) (fun c44 => ?_)
            ·exfalso; omega
            ·refine w_iloadN X0 hx x (dB d2_133) 134 rfl rfl ?_
             refine w_sipush X0 hx (dB d2_134) 137 rfl (8304 : Int32) (by decide) ?_
             refine w_icmp_lt X0 hx x.toInt 8304 rfl (by decide) (dB d2_137) 147 140 (fun c45 => ?_) (fun c45 => ?_)
             ·refine w_iloadN X0 hx x (dB d2_147) 148 rfl rfl ?_
              refine w_sipush X0 hx (dB d2_148) 151 rfl (11264 : Int32) (by decide) ?_
              refine w_icmp_lt X0 hx x.toInt 11264 rfl (by decide) (dB d2_151) 161 154 (fun c46 => ?_) (fun c46 => ?_)
              ·refine w_iloadN X0 hx x (dB d2_161) 162 rfl rfl ?_
               refine w_sipush X0 hx (dB d2_162) 165 rfl (12289 : Int32) (by decide) ?_
               refine w_icmp_lt X0 hx x.toInt 12289 rfl (by decide) (dB d2_165) 174 168 (fun c47 => ?_) (fun c47 => ?_)
               ·refine w_iloadN X0 hx x (dB d2_174) 175 rfl rfl ?_
                refine w_ldc X0 hx hZ hown (tw_27 hw) (dB d2_175) 177 rfl ?_
                refine w_icmp_lt X0 hx x.toInt 63744 rfl (by decide) (dB d2_177) 186 180 (fun c48 => ?_) (fun c48 => ?_)
                ·refine w_iloadN X0 hx x (dB d2_186) 187 rfl rfl ?_
                 refine w_ldc X0 hx hZ hown (tw_29 hw) (dB d2_187) 189 rfl ?_
                 refine w_icmp_lt X0 hx x.toInt 65008 rfl (by decide) (dB d2_189) 198 192 (fun c49 => ?_) (fun c49 => ?_)
                 ·refine w_iloadN X0 hx x (dB d2_198) 199 rfl rfl ?_
                  refine w_ldc X0 hx hZ hown (tw_31 hw) (dB d2_199) 201 rfl ?_
                  refine w_icmp_lt X0 hx x.toInt 65536 rfl (by decide) (dB d2_201) 214 204 (fun c50 => ?_) (fun c50 => ?_)
                  ·refine w_iconst X0 hx (dB d2_214) 215 rfl (0 : Int32) (by decide) ?_
                   refine w_retN X0 hx hlk (t := .boolean) hret (by simp) (dB d2_215) (by decide) (by decide) ?_
                   rw [e0]
                   exact ⟨(0 : Int32), rfl, by have hz : (0 : Int32).toInt = 0 := (by decide); have q : own_b ((97 ≤ x.toInt ∧ x.toInt ≤ 122) ∨ (65 ≤ x.toInt ∧ x.toInt ≤ 90) ∨ (95 ≤ x.toInt ∧ x.toInt ≤ 95) ∨ (58 ≤ x.toInt ∧ x.toInt ≤ 58) ∨ (192 ≤ x.toInt ∧ x.toInt ≤ 214) ∨ (216 ≤ x.toInt ∧ x.toInt ≤ 246) ∨ (248 ≤ x.toInt ∧ x.toInt ≤ 767) ∨ (880 ≤ x.toInt ∧ x.toInt ≤ 893) ∨ (895 ≤ x.toInt ∧ x.toInt ≤ 8191) ∨ (8204 ≤ x.toInt ∧ x.toInt ≤ 8205) ∨ (8304 ≤ x.toInt ∧ x.toInt ≤ 8591) ∨ (11264 ≤ x.toInt ∧ x.toInt ≤ 12271) ∨ (12289 ≤ x.toInt ∧ x.toInt ≤ 55295) ∨ (63744 ≤ x.toInt ∧ x.toInt ≤ 64975) ∨ (65008 ≤ x.toInt ∧ x.toInt ≤ 65533) ∨ (65536 ≤ x.toInt ∧ x.toInt ≤ 983039)) = 0 := own_b_neg (by omega); refine ⟨?_, ?_, ?_⟩ <;> omega, N0, rfl⟩
                  ·exfalso; omega
                 ·exfalso; omega
                ·exfalso; omega
               ·exfalso; omega
              ·exfalso; omega
             ·exfalso; omega
          ·exfalso; omega
         ·refine w_iloadN X0 hx x (dB d2_98) 99 rfl rfl ?_
          refine w_sipush X0 hx (dB d2_99) 102 rfl (893 : Int32) (by decide) ?_
          refine w_icmp_le X0 hx x.toInt 893 rfl (by decide) (dB d2_102) 210 105 (fun c51 => ?_) (fun c51 => ?_)
          ·refine w_iconst X0 hx (dB d2_210) 211 rfl (1 : Int32) (by decide) ?_
           refine w_goto X0 hx (dB d2_211) 215 ?_
           refine w_retN X0 hx hlk (t := .boolean) hret (by simp) (dB d2_215) (by decide) (by decide) ?_
           rw [e0]
           exact ⟨(1 : Int32), rfl, by have hz : (1 : Int32).toInt = 1 := (by decide); have q : own_b ((97 ≤ x.toInt ∧ x.toInt ≤ 122) ∨ (65 ≤ x.toInt ∧ x.toInt ≤ 90) ∨ (95 ≤ x.toInt ∧ x.toInt ≤ 95) ∨ (58 ≤ x.toInt ∧ x.toInt ≤ 58) ∨ (192 ≤ x.toInt ∧ x.toInt ≤ 214) ∨ (216 ≤ x.toInt ∧ x.toInt ≤ 246) ∨ (248 ≤ x.toInt ∧ x.toInt ≤ 767) ∨ (880 ≤ x.toInt ∧ x.toInt ≤ 893) ∨ (895 ≤ x.toInt ∧ x.toInt ≤ 8191) ∨ (8204 ≤ x.toInt ∧ x.toInt ≤ 8205) ∨ (8304 ≤ x.toInt ∧ x.toInt ≤ 8591) ∨ (11264 ≤ x.toInt ∧ x.toInt ≤ 12271) ∨ (12289 ≤ x.toInt ∧ x.toInt ≤ 55295) ∨ (63744 ≤ x.toInt ∧ x.toInt ≤ 64975) ∨ (65008 ≤ x.toInt ∧ x.toInt ≤ 65533) ∨ (65536 ≤ x.toInt ∧ x.toInt ≤ 983039)) = 1 := own_b_pos (by omega); refine ⟨?_, ?_, ?_⟩ <;> omega, N0, rfl⟩
          ·refine w_iloadN X0 hx x (dB d2_105) 106 rfl rfl ?_
           refine w_sipush X0 hx (dB d2_106) 109 rfl (895 : Int32) (by decide) ?_
           refine w_icmp_lt X0 hx x.toInt 895 rfl (by decide) (dB d2_109) 119 112 (fun c52 => ?_) (fun c52 => ?_)
           ·refine w_iloadN X0 hx x (dB d2_119) 120 rfl rfl ?_
            refine w_sipush X0 hx (dB d2_120) 123 rfl (8204 : Int32) (by decide) ?_
            refine w_icmp_eq X0 hx x.toInt 8204 rfl (by decide) (dB d2_123) 210 126 (fun c53 => ?_) (fun c53 => ?_)
            ·exfalso; omega
            ·refine w_iloadN X0 hx x (dB d2_126) 127 rfl rfl ?_
             refine w_sipush X0 hx (dB d2_127) 130 rfl (8205 : Int32) (by decide) ?_
             refine w_icmp_eq X0 hx x.toInt 8205 rfl (by decide) (dB d2_130) 210 133 (fun c54 => ?_) (fun c54 => ?_)
             ·exfalso; omega
             ·refine w_iloadN X0 hx x (dB d2_133) 134 rfl rfl ?_
              refine w_sipush X0 hx (dB d2_134) 137 rfl (8304 : Int32) (by decide) ?_
              refine w_icmp_lt X0 hx x.toInt 8304 rfl (by decide) (dB d2_137) 147 140 (fun c55 => ?_) (fun c55 => ?_)
              ·refine w_iloadN X0 hx x (dB d2_147) 148 rfl rfl ?_
               refine w_sipush X0 hx (dB d2_148) 151 rfl (11264 : Int32) (by decide) ?_
               refine w_icmp_lt X0 hx x.toInt 11264 rfl (by decide) (dB d2_151) 161 154 (fun c56 => ?_) (fun c56 => ?_)
               ·refine w_iloadN X0 hx x (dB d2_161) 162 rfl rfl ?_
                refine w_sipush X0 hx (dB d2_162) 165 rfl (12289 : Int32) (by decide) ?_
                refine w_icmp_lt X0 hx x.toInt 12289 rfl (by decide) (dB d2_165) 174 168 (fun c57 => ?_) (fun c57 => ?_)
                ·refine w_iloadN X0 hx x (dB d2_174) 175 rfl rfl ?_
                 refine w_ldc X0 hx hZ hown (tw_27 hw) (dB d2_175) 177 rfl ?_
                 refine w_icmp_lt X0 hx x.toInt 63744 rfl (by decide) (dB d2_177) 186 180 (fun c58 => ?_) (fun c58 => ?_)
                 ·refine w_iloadN X0 hx x (dB d2_186) 187 rfl rfl ?_
                  refine w_ldc X0 hx hZ hown (tw_29 hw) (dB d2_187) 189 rfl ?_
                  refine w_icmp_lt X0 hx x.toInt 65008 rfl (by decide) (dB d2_189) 198 192 (fun c59 => ?_) (fun c59 => ?_)
                  ·refine w_iloadN X0 hx x (dB d2_198) 199 rfl rfl ?_
                   refine w_ldc X0 hx hZ hown (tw_31 hw) (dB d2_199) 201 rfl ?_
                   refine w_icmp_lt X0 hx x.toInt 65536 rfl (by decide) (dB d2_201) 214 204 (fun c60 => ?_) (fun c60 => ?_)
                   ·refine w_iconst X0 hx (dB d2_214) 215 rfl (0 : Int32) (by decide) ?_
                    refine w_retN X0 hx hlk (t := .boolean) hret (by simp) (dB d2_215) (by decide) (by decide) ?_
                    rw [e0]
                    exact ⟨(0 : Int32), rfl, by have hz : (0 : Int32).toInt = 0 := (by decide); have q : own_b ((97 ≤ x.toInt ∧ x.toInt ≤ 122) ∨ (65 ≤ x.toInt ∧ x.toInt ≤ 90) ∨ (95 ≤ x.toInt ∧ x.toInt ≤ 95) ∨ (58 ≤ x.toInt ∧ x.toInt ≤ 58) ∨ (192 ≤ x.toInt ∧ x.toInt ≤ 214) ∨ (216 ≤ x.toInt ∧ x.toInt ≤ 246) ∨ (248 ≤ x.toInt ∧ x.toInt ≤ 767) ∨ (880 ≤ x.toInt ∧ x.toInt ≤ 893) ∨ (895 ≤ x.toInt ∧ x.toInt ≤ 8191) ∨ (8204 ≤ x.toInt ∧ x.toInt ≤ 8205) ∨ (8304 ≤ x.toInt ∧ x.toInt ≤ 8591) ∨ (11264 ≤ x.toInt ∧ x.toInt ≤ 12271) ∨ (12289 ≤ x.toInt ∧ x.toInt ≤ 55295) ∨ (63744 ≤ x.toInt ∧ x.toInt ≤ 64975) ∨ (65008 ≤ x.toInt ∧ x.toInt ≤ 65533) ∨ (65536 ≤ x.toInt ∧ x.toInt ≤ 983039)) = 0 := own_b_neg (by omega); refine ⟨?_, ?_, ?_⟩ <;> omega, N0, rfl⟩
                   ·exfalso; omega
                  ·exfalso; omega
                 ·exfalso; omega
                ·exfalso; omega
               ·exfalso; omega
              ·exfalso; omega
           ·refine w_iloadN X0 hx x (dB d2_112) 113 rfl rfl ?_
            refine w_sipush X0 hx (dB d2_113) 116 rfl (8191 : Int32) (by decide) ?_
            refine w_icmp_le X0 hx x.toInt 8191 rfl (by decide) (dB d2_116) 210 119 (fun c61 => ?_) (fun c61 => ?_)
            ·refine w_iconst X0 hx (dB d2_210) 211 rfl (1 : Int32) (by decide) ?_
             refine w_goto X0 hx (dB d2_211) 215 ?_
             refine w_retN X0 hx hlk (t := .boolean) hret (by simp) (dB d2_215) (by decide) (by decide) ?_
             rw [e0]
             exact ⟨(1 : Int32), rfl, by have hz : (1 : Int32).toInt = 1 := (by decide); have q : own_b ((97 ≤ x.toInt ∧ x.toInt ≤ 122) ∨ (65 ≤ x.toInt ∧ x.toInt ≤ 90) ∨ (95 ≤ x.toInt ∧ x.toInt ≤ 95) ∨ (58 ≤ x.toInt ∧ x.toInt ≤ 58) ∨ (192 ≤ x.toInt ∧ x.toInt ≤ 214) ∨ (216 ≤ x.toInt ∧ x.toInt ≤ 246) ∨ (248 ≤ x.toInt ∧ x.toInt ≤ 767) ∨ (880 ≤ x.toInt ∧ x.toInt ≤ 893) ∨ (895 ≤ x.toInt ∧ x.toInt ≤ 8191) ∨ (8204 ≤ x.toInt ∧ x.toInt ≤ 8205) ∨ (8304 ≤ x.toInt ∧ x.toInt ≤ 8591) ∨ (11264 ≤ x.toInt ∧ x.toInt ≤ 12271) ∨ (12289 ≤ x.toInt ∧ x.toInt ≤ 55295) ∨ (63744 ≤ x.toInt ∧ x.toInt ≤ 64975) ∨ (65008 ≤ x.toInt ∧ x.toInt ≤ 65533) ∨ (65536 ≤ x.toInt ∧ x.toInt ≤ 983039)) = 1 := own_b_pos (by omega); refine ⟨?_, ?_, ?_⟩ <;> omega, N0, rfl⟩
            ·refine w_iloadN X0 hx x (dB d2_119) 120 rfl rfl ?_
             refine w_sipush X0 hx (dB d2_120) 123 rfl (8204 : Int32) (by decide) ?_
             refine w_icmp_eq X0 hx x.toInt 8204 rfl (by decide) (dB d2_123) 210 126 (fun c62 => ?_) (fun c62 => ?_)
             ·refine w_iconst X0 hx (dB d2_210) 211 rfl (1 : Int32) (by decide) ?_
              refine w_goto X0 hx (dB d2_211) 215 ?_
              refine w_retN X0 hx hlk (t := .boolean) hret (by simp) (dB d2_215) (by decide) (by decide) ?_
              rw [e0]
              exact ⟨(1 : Int32), rfl, by have hz : (1 : Int32).toInt = 1 := (by decide); have q : own_b ((97 ≤ x.toInt ∧ x.toInt ≤ 122) ∨ (65 ≤ x.toInt ∧ x.toInt ≤ 90) ∨ (95 ≤ x.toInt ∧ x.toInt ≤ 95) ∨ (58 ≤ x.toInt ∧ x.toInt ≤ 58) ∨ (192 ≤ x.toInt ∧ x.toInt ≤ 214) ∨ (216 ≤ x.toInt ∧ x.toInt ≤ 246) ∨ (248 ≤ x.toInt ∧ x.toInt ≤ 767) ∨ (880 ≤ x.toInt ∧ x.toInt ≤ 893) ∨ (895 ≤ x.toInt ∧ x.toInt ≤ 8191) ∨ (8204 ≤ x.toInt ∧ x.toInt ≤ 8205) ∨ (8304 ≤ x.toInt ∧ x.toInt ≤ 8591) ∨ (11264 ≤ x.toInt ∧ x.toInt ≤ 12271) ∨ (12289 ≤ x.toInt ∧ x.toInt ≤ 55295) ∨ (63744 ≤ x.toInt ∧ x.toInt ≤ 64975) ∨ (65008 ≤ x.toInt ∧ x.toInt ≤ 65533) ∨ (65536 ≤ x.toInt ∧ x.toInt ≤ 983039)) = 1 := own_b_pos (by omega); refine ⟨?_, ?_, ?_⟩ <;> omega, N0, rfl⟩
             ·refine w_iloadN X0 hx x (dB d2_126) 127 rfl rfl ?_
              refine w_sipush X0 hx (dB d2_127) 130 rfl (8205 : Int32) (by decide) ?_
              refine w_icmp_eq X0 hx x.toInt 8205 rfl (by decide) (dB d2_130) 210 133 (fun c63 => ?_) (fun c63 => ?_)
              ·refine w_iconst X0 hx (dB d2_210) 211 rfl (1 : Int32) (by decide) ?_
               refine w_goto X0 hx (dB d2_211) 215 ?_
               refine w_retN X0 hx hlk (t := .boolean) hret (by simp) (dB d2_215) (by decide) (by decide) ?_
               rw [e0]
               exact ⟨(1 : Int32), rfl, by have hz : (1 : Int32).toInt = 1 := (by decide); have q : own_b ((97 ≤ x.toInt ∧ x.toInt ≤ 122) ∨ (65 ≤ x.toInt ∧ x.toInt ≤ 90) ∨ (95 ≤ x.toInt ∧ x.toInt ≤ 95) ∨ (58 ≤ x.toInt ∧ x.toInt ≤ 58) ∨ (192 ≤ x.toInt ∧ x.toInt ≤ 214) ∨ (216 ≤ x.toInt ∧ x.toInt ≤ 246) ∨ (248 ≤ x.toInt ∧ x.toInt ≤ 767) ∨ (880 ≤ x.toInt ∧ x.toInt ≤ 893) ∨ (895 ≤ x.toInt ∧ x.toInt ≤ 8191) ∨ (8204 ≤ x.toInt ∧ x.toInt ≤ 8205) ∨ (8304 ≤ x.toInt ∧ x.toInt ≤ 8591) ∨ (11264 ≤ x.toInt ∧ x.toInt ≤ 12271) ∨ (12289 ≤ x.toInt ∧ x.toInt ≤ 55295) ∨ (63744 ≤ x.toInt ∧ x.toInt ≤ 64975) ∨ (65008 ≤ x.toInt ∧ x.toInt ≤ 65533) ∨ (65536 ≤ x.toInt ∧ x.toInt ≤ 983039)) = 1 := own_b_pos (by omega); refine ⟨?_, ?_, ?_⟩ <;> omega, N0, rfl⟩
              ·refine w_iloadN X0 hx x (dB d2_133) 134 rfl rfl ?_
               refine w_sipush X0 hx (dB d2_134) 137 rfl (8304 : Int32) (by decide) ?_
               refine w_icmp_lt X0 hx x.toInt 8304 rfl (by decide) (dB d2_137) 147 140 (fun c64 => ?_) (fun c64 => ?_)
               ·refine w_iloadN X0 hx x (dB d2_147) 148 rfl rfl ?_
                refine w_sipush X0 hx (dB d2_148) 151 rfl (11264 : Int32) (by decide) ?_
                refine w_icmp_lt X0 hx x.toInt 11264 rfl (by decide) (dB d2_151) 161 154 (fun c65 => ?_) (fun c65 => ?_)
                ·refine w_iloadN X0 hx x (dB d2_161) 162 rfl rfl ?_
                 refine w_sipush X0 hx (dB d2_162) 165 rfl (12289 : Int32) (by decide) ?_
                 refine w_icmp_lt X0 hx x.toInt 12289 rfl (by decide) (dB d2_165) 174 168 (fun c66 => ?_) (fun c66 => ?_)
                 ·refine w_iloadN X0 hx x (dB d2_174) 175 rfl rfl ?_
                  refine w_ldc X0 hx hZ hown (tw_27 hw) (dB d2_175) 177 rfl ?_
                  refine w_icmp_lt X0 hx x.toInt 63744 rfl (by decide) (dB d2_177) 186 180 (fun c67 => ?_) (fun c67 => ?_)
                  ·refine w_iloadN X0 hx x (dB d2_186) 187 rfl rfl ?_
                   refine w_ldc X0 hx hZ hown (tw_29 hw) (dB d2_187) 189 rfl ?_
                   refine w_icmp_lt X0 hx x.toInt 65008 rfl (by decide) (dB d2_189) 198 192 (fun c68 => ?_) (fun c68 => ?_)
                   ·refine w_iloadN X0 hx x (dB d2_198) 199 rfl rfl ?_
                    refine w_ldc X0 hx hZ hown (tw_31 hw) (dB d2_199) 201 rfl ?_
                    refine w_icmp_lt X0 hx x.toInt 65536 rfl (by decide) (dB d2_201) 214 204 (fun c69 => ?_) (fun c69 => ?_)
                    ·refine w_iconst X0 hx (dB d2_214) 215 rfl (0 : Int32) (by decide) ?_
                     refine w_retN X0 hx hlk (t := .boolean) hret (by simp) (dB d2_215) (by decide) (by decide) ?_
                     rw [e0]
                     exact ⟨(0 : Int32), rfl, by have hz : (0 : Int32).toInt = 0 := (by decide); have q : own_b ((97 ≤ x.toInt ∧ x.toInt ≤ 122) ∨ (65 ≤ x.toInt ∧ x.toInt ≤ 90) ∨ (95 ≤ x.toInt ∧ x.toInt ≤ 95) ∨ (58 ≤ x.toInt ∧ x.toInt ≤ 58) ∨ (192 ≤ x.toInt ∧ x.toInt ≤ 214) ∨ (216 ≤ x.toInt ∧ x.toInt ≤ 246) ∨ (248 ≤ x.toInt ∧ x.toInt ≤ 767) ∨ (880 ≤ x.toInt ∧ x.toInt ≤ 893) ∨ (895 ≤ x.toInt ∧ x.toInt ≤ 8191) ∨ (8204 ≤ x.toInt ∧ x.toInt ≤ 8205) ∨ (8304 ≤ x.toInt ∧ x.toInt ≤ 8591) ∨ (11264 ≤ x.toInt ∧ x.toInt ≤ 12271) ∨ (12289 ≤ x.toInt ∧ x.toInt ≤ 55295) ∨ (63744 ≤ x.toInt ∧ x.toInt ≤ 64975) ∨ (65008 ≤ x.toInt ∧ x.toInt ≤ 65533) ∨ (65536 ≤ x.toInt ∧ x.toInt ≤ 983039)) = 0 := own_b_neg (by omega); refine ⟨?_, ?_, ?_⟩ <;> omega, N0, rfl⟩
                    ·exfalso; omega
                   ·exfalso; omega
                  ·exfalso; omega
                 ·exfalso; omega
                ·exfalso; omega
               ·refine w_iloadN X0 hx x (dB d2_140) 141 rfl rfl ?_
                refine w_sipush X0 hx (dB d2_141) 144 rfl (8591 : Int32) (by decide) ?_
                refine w_icmp_le X0 hx x.toInt 8591 rfl (by decide) (dB d2_144) 210 147 (fun c70 => ?_) (fun c70 => ?_)
                ·refine w_iconst X0 hx (dB d2_210) 211 rfl (1 : Int32) (by decide) ?_
                 refine w_goto X0 hx (dB d2_211) 215 ?_
                 refine w_retN X0 hx hlk (t := .boolean) hret (by simp) (dB d2_215) (by decide) (by decide) ?_
                 rw [e0]
                 exact ⟨(1 : Int32), rfl, by have hz : (1 : Int32).toInt = 1 := (by decide); have q : own_b ((97 ≤ x.toInt ∧ x.toInt ≤ 122) ∨ (65 ≤ x.toInt ∧ x.toInt ≤ 90) ∨ (95 ≤ x.toInt ∧ x.toInt ≤ 95) ∨ (58 ≤ x.toInt ∧ x.toInt ≤ 58) ∨ (192 ≤ x.toInt ∧ x.toInt ≤ 214) ∨ (216 ≤ x.toInt ∧ x.toInt ≤ 246) ∨ (248 ≤ x.toInt ∧ x.toInt ≤ 767) ∨ (880 ≤ x.toInt ∧ x.toInt ≤ 893) ∨ (895 ≤ x.toInt ∧ x.toInt ≤ 8191) ∨ (8204 ≤ x.toInt ∧ x.toInt ≤ 8205) ∨ (8304 ≤ x.toInt ∧ x.toInt ≤ 8591) ∨ (11264 ≤ x.toInt ∧ x.toInt ≤ 12271) ∨ (12289 ≤ x.toInt ∧ x.toInt ≤ 55295) ∨ (63744 ≤ x.toInt ∧ x.toInt ≤ 64975) ∨ (65008 ≤ x.toInt ∧ x.toInt ≤ 65533) ∨ (65536 ≤ x.toInt ∧ x.toInt ≤ 983039)) = 1 := own_b_pos (by omega); refine ⟨?_, ?_, ?_⟩ <;> omega, N0, rfl⟩
                ·refine w_iloadN X0 hx x (dB d2_147) 148 rfl rfl ?_
                 refine w_sipush X0 hx (dB d2_148) 151 rfl (11264 : Int32) (by decide) ?_
                 refine w_icmp_lt X0 hx x.toInt 11264 rfl (by decide) (dB d2_151) 161 154 (fun c71 => ?_) (fun c71 => ?_)
                 ·refine w_iloadN X0 hx x (dB d2_161) 162 rfl rfl ?_
                  refine w_sipush X0 hx (dB d2_162) 165 rfl (12289 : Int32) (by decide) ?_
                  refine w_icmp_lt X0 hx x.toInt 12289 rfl (by decide) (dB d2_165) 174 168 (fun c72 => ?_) (fun c72 => ?_)
                  ·refine w_iloadN X0 hx x (dB d2_174) 175 rfl rfl ?_
                   refine w_ldc X0 hx hZ hown (tw_27 hw) (dB d2_175) 177 rfl ?_
                   refine w_icmp_lt X0 hx x.toInt 63744 rfl (by decide) (dB d2_177) 186 180 (fun c73 => ?_) (fun c73 => ?_)
                   ·refine w_iloadN X0 hx x (dB d2_186) 187 rfl rfl ?_
                    refine w_ldc X0 hx hZ hown (tw_29 hw) (dB d2_187) 189 rfl ?_
                    refine w_icmp_lt X0 hx x.toInt 65008 rfl (by decide) (dB d2_189) 198 192 (fun c74 => ?_) (fun c74 => ?_)
                    ·refine w_iloadN X0 hx x (dB d2_198) 199 rfl rfl ?_
                     refine w_ldc X0 hx hZ hown (tw_31 hw) (dB d2_199) 201 rfl ?_
                     refine w_icmp_lt X0 hx x.toInt 65536 rfl (by decide) (dB d2_201) 214 204 (fun c75 => ?_) (fun c75 => ?_)
                     ·refine w_iconst X0 hx (dB d2_214) 215 rfl (0 : Int32) (by decide) ?_
                      refine w_retN X0 hx hlk (t := .boolean) hret (by simp) (dB d2_215) (by decide) (by decide) ?_
                      rw [e0]
                      exact ⟨(0 : Int32), rfl, by have hz : (0 : Int32).toInt = 0 := (by decide); have q : own_b ((97 ≤ x.toInt ∧ x.toInt ≤ 122) ∨ (65 ≤ x.toInt ∧ x.toInt ≤ 90) ∨ (95 ≤ x.toInt ∧ x.toInt ≤ 95) ∨ (58 ≤ x.toInt ∧ x.toInt ≤ 58) ∨ (192 ≤ x.toInt ∧ x.toInt ≤ 214) ∨ (216 ≤ x.toInt ∧ x.toInt ≤ 246) ∨ (248 ≤ x.toInt ∧ x.toInt ≤ 767) ∨ (880 ≤ x.toInt ∧ x.toInt ≤ 893) ∨ (895 ≤ x.toInt ∧ x.toInt ≤ 8191) ∨ (8204 ≤ x.toInt ∧ x.toInt ≤ 8205) ∨ (8304 ≤ x.toInt ∧ x.toInt ≤ 8591) ∨ (11264 ≤ x.toInt ∧ x.toInt ≤ 12271) ∨ (12289 ≤ x.toInt ∧ x.toInt ≤ 55295) ∨ (63744 ≤ x.toInt ∧ x.toInt ≤ 64975) ∨ (65008 ≤ x.toInt ∧ x.toInt ≤ 65533) ∨ (65536 ≤ x.toInt ∧ x.toInt ≤ 983039)) = 0 := own_b_neg (by omega); refine ⟨?_, ?_, ?_⟩ <;> omega, N0, rfl⟩
                     ·exfalso; omega
                    ·exfalso; omega
                   ·exfalso; omega
                  ·exfalso; omega
                 ·refine w_iloadN X0 hx x (dB d2_154) 155 rfl rfl ?_
                  refine w_sipush X0 hx (dB d2_155) 158 rfl (12271 : Int32) (by decide) ?_
                  refine w_icmp_le X0 hx x.toInt 12271 rfl (by decide) (dB d2_158) 210 161 (fun c76 => ?_) (fun c76 => ?_)
                  ·refine w_iconst X0 hx (dB d2_210) 211 rfl (1 : Int32) (by decide) ?_
                   refine w_goto X0 hx (dB d2_211) 215 ?_
                   refine w_retN X0 hx hlk (t := .boolean) hret (by simp) (dB d2_215) (by decide) (by decide) ?_
                   rw [e0]
                   exact ⟨(1 : Int32), rfl, by have hz : (1 : Int32).toInt = 1 := (by decide); have q : own_b ((97 ≤ x.toInt ∧ x.toInt ≤ 122) ∨ (65 ≤ x.toInt ∧ x.toInt ≤ 90) ∨ (95 ≤ x.toInt ∧ x.toInt ≤ 95) ∨ (58 ≤ x.toInt ∧ x.toInt ≤ 58) ∨ (192 ≤ x.toInt ∧ x.toInt ≤ 214) ∨ (216 ≤ x.toInt ∧ x.toInt ≤ 246) ∨ (248 ≤ x.toInt ∧ x.toInt ≤ 767) ∨ (880 ≤ x.toInt ∧ x.toInt ≤ 893) ∨ (895 ≤ x.toInt ∧ x.toInt ≤ 8191) ∨ (8204 ≤ x.toInt ∧ x.toInt ≤ 8205) ∨ (8304 ≤ x.toInt ∧ x.toInt ≤ 8591) ∨ (11264 ≤ x.toInt ∧ x.toInt ≤ 12271) ∨ (12289 ≤ x.toInt ∧ x.toInt ≤ 55295) ∨ (63744 ≤ x.toInt ∧ x.toInt ≤ 64975) ∨ (65008 ≤ x.toInt ∧ x.toInt ≤ 65533) ∨ (65536 ≤ x.toInt ∧ x.toInt ≤ 983039)) = 1 := own_b_pos (by omega); refine ⟨?_, ?_, ?_⟩ <;> omega, N0, rfl⟩
                  ·refine w_iloadN X0 hx x (dB d2_161) 162 rfl rfl ?_
                   refine w_sipush X0 hx (dB d2_162) 165 rfl (12289 : Int32) (by decide) ?_
                   refine w_icmp_lt X0 hx x.toInt 12289 rfl (by decide) (dB d2_165) 174 168 (fun c77 => ?_) (fun c77 => ?_)
                   ·refine w_iloadN X0 hx x (dB d2_174) 175 rfl rfl ?_
                    refine w_ldc X0 hx hZ hown (tw_27 hw) (dB d2_175) 177 rfl ?_
                    refine w_icmp_lt X0 hx x.toInt 63744 rfl (by decide) (dB d2_177) 186 180 (fun c78 => ?_) (fun c78 => ?_)
                    ·refine w_iloadN X0 hx x (dB d2_186) 187 rfl rfl ?_
                     refine w_ldc X0 hx hZ hown (tw_29 hw) (dB d2_187) 189 rfl ?_
                     refine w_icmp_lt X0 hx x.toInt 65008 rfl (by decide) (dB d2_189) 198 192 (fun c79 => ?_) (fun c79 => ?_)
                     ·refine w_iloadN X0 hx x (dB d2_198) 199 rfl rfl ?_
                      refine w_ldc X0 hx hZ hown (tw_31 hw) (dB d2_199) 201 rfl ?_
                      refine w_icmp_lt X0 hx x.toInt 65536 rfl (by decide) (dB d2_201) 214 204 (fun c80 => ?_) (fun c80 => ?_)
                      ·refine w_iconst X0 hx (dB d2_214) 215 rfl (0 : Int32) (by decide) ?_
                       refine w_retN X0 hx hlk (t := .boolean) hret (by simp) (dB d2_215) (by decide) (by decide) ?_
                       rw [e0]
                       exact ⟨(0 : Int32), rfl, by have hz : (0 : Int32).toInt = 0 := (by decide); have q : own_b ((97 ≤ x.toInt ∧ x.toInt ≤ 122) ∨ (65 ≤ x.toInt ∧ x.toInt ≤ 90) ∨ (95 ≤ x.toInt ∧ x.toInt ≤ 95) ∨ (58 ≤ x.toInt ∧ x.toInt ≤ 58) ∨ (192 ≤ x.toInt ∧ x.toInt ≤ 214) ∨ (216 ≤ x.toInt ∧ x.toInt ≤ 246) ∨ (248 ≤ x.toInt ∧ x.toInt ≤ 767) ∨ (880 ≤ x.toInt ∧ x.toInt ≤ 893) ∨ (895 ≤ x.toInt ∧ x.toInt ≤ 8191) ∨ (8204 ≤ x.toInt ∧ x.toInt ≤ 8205) ∨ (8304 ≤ x.toInt ∧ x.toInt ≤ 8591) ∨ (11264 ≤ x.toInt ∧ x.toInt ≤ 12271) ∨ (12289 ≤ x.toInt ∧ x.toInt ≤ 55295) ∨ (63744 ≤ x.toInt ∧ x.toInt ≤ 64975) ∨ (65008 ≤ x.toInt ∧ x.toInt ≤ 65533) ∨ (65536 ≤ x.toInt ∧ x.toInt ≤ 983039)) = 0 := own_b_neg (by omega); refine ⟨?_, ?_, ?_⟩ <;> omega, N0, rfl⟩
                      ·exfalso; omega
                     ·exfalso; omega
                    ·exfalso; omega
                   ·refine w_iloadN X0 hx x (dB d2_168) 169 rfl rfl ?_
                    refine w_ldc X0 hx hZ hown (tw_26 hw) (dB d2_169) 171 rfl ?_
                    refine w_icmp_le X0 hx x.toInt 55295 rfl (by decide) (dB d2_171) 210 174 (fun c81 => ?_) (fun c81 => ?_)
                    ·refine w_iconst X0 hx (dB d2_210) 211 rfl (1 : Int32) (by decide) ?_
                     refine w_goto X0 hx (dB d2_211) 215 ?_
                     refine w_retN X0 hx hlk (t := .boolean) hret (by simp) (dB d2_215) (by decide) (by decide) ?_
                     rw [e0]
                     exact ⟨(1 : Int32), rfl, by have hz : (1 : Int32).toInt = 1 := (by decide); have q : own_b ((97 ≤ x.toInt ∧ x.toInt ≤ 122) ∨ (65 ≤ x.toInt ∧ x.toInt ≤ 90) ∨ (95 ≤ x.toInt ∧ x.toInt ≤ 95) ∨ (58 ≤ x.toInt ∧ x.toInt ≤ 58) ∨ (192 ≤ x.toInt ∧ x.toInt ≤ 214) ∨ (216 ≤ x.toInt ∧ x.toInt ≤ 246) ∨ (248 ≤ x.toInt ∧ x.toInt ≤ 767) ∨ (880 ≤ x.toInt ∧ x.toInt ≤ 893) ∨ (895 ≤ x.toInt ∧ x.toInt ≤ 8191) ∨ (8204 ≤ x.toInt ∧ x.toInt ≤ 8205) ∨ (8304 ≤ x.toInt ∧ x.toInt ≤ 8591) ∨ (11264 ≤ x.toInt ∧ x.toInt ≤ 12271) ∨ (12289 ≤ x.toInt ∧ x.toInt ≤ 55295) ∨ (63744 ≤ x.toInt ∧ x.toInt ≤ 64975) ∨ (65008 ≤ x.toInt ∧ x.toInt ≤ 65533) ∨ (65536 ≤ x.toInt ∧ x.toInt ≤ 983039)) = 1 := own_b_pos (by omega); refine ⟨?_, ?_, ?_⟩ <;> omega, N0, rfl⟩
                    ·refine w_iloadN X0 hx x (dB d2_174) 175 rfl rfl ?_
                     refine w_ldc X0 hx hZ hown (tw_27 hw) (dB d2_175) 177 rfl ?_
                     refine w_icmp_lt X0 hx x.toInt 63744 rfl (by decide) (dB d2_177) 186 180 (fun c82 => ?_) (fun c82 => ?_)
                     ·refine w_iloadN X0 hx x (dB d2_186) 187 rfl rfl ?_
                      refine w_ldc X0 hx hZ hown (tw_29 hw) (dB d2_187) 189 rfl ?_
                      refine w_icmp_lt X0 hx x.toInt 65008 rfl (by decide) (dB d2_189) 198 192 (fun c83 => ?_) (fun c83 => ?_)
                      ·refine w_iloadN X0 hx x (dB d2_198) 199 rfl rfl ?_
                       refine w_ldc X0 hx hZ hown (tw_31 hw) (dB d2_199) 201 rfl ?_
                       refine w_icmp_lt X0 hx x.toInt 65536 rfl (by decide) (dB d2_201) 214 204 (fun c84 => ?_) (fun c84 => ?_)
                       ·refine w_iconst X0 hx (dB d2_214) 215 rfl (0 : Int32) (by decide) ?_
                        refine w_retN X0 hx hlk (t := .boolean) hret (by simp) (dB d2_215) (by decide) (by decide) ?_
                        rw [e0]
                        exact ⟨(0 : Int32), rfl, by have hz : (0 : Int32).toInt = 0 := (by decide); have q : own_b ((97 ≤ x.toInt ∧ x.toInt ≤ 122) ∨ (65 ≤ x.toInt ∧ x.toInt ≤ 90) ∨ (95 ≤ x.toInt ∧ x.toInt ≤ 95) ∨ (58 ≤ x.toInt ∧ x.toInt ≤ 58) ∨ (192 ≤ x.toInt ∧ x.toInt ≤ 214) ∨ (216 ≤ x.toInt ∧ x.toInt ≤ 246) ∨ (248 ≤ x.toInt ∧ x.toInt ≤ 767) ∨ (880 ≤ x.toInt ∧ x.toInt ≤ 893) ∨ (895 ≤ x.toInt ∧ x.toInt ≤ 8191) ∨ (8204 ≤ x.toInt ∧ x.toInt ≤ 8205) ∨ (8304 ≤ x.toInt ∧ x.toInt ≤ 8591) ∨ (11264 ≤ x.toInt ∧ x.toInt ≤ 12271) ∨ (12289 ≤ x.toInt ∧ x.toInt ≤ 55295) ∨ (63744 ≤ x.toInt ∧ x.toInt ≤ 64975) ∨ (65008 ≤ x.toInt ∧ x.toInt ≤ 65533) ∨ (65536 ≤ x.toInt ∧ x.toInt ≤ 983039)) = 0 := own_b_neg (by omega); refine ⟨?_, ?_, ?_⟩ <;> omega, N0, rfl⟩
                       ·exfalso; omega
                      ·exfalso; omega
                     ·refine w_iloadN X0 hx x (dB d2_180) 181 rfl rfl ?_
                      refine w_ldc X0 hx hZ hown (tw_28 hw) (dB d2_181) 183 rfl ?_
                      refine w_icmp_le X0 hx x.toInt 64975 rfl (by decide) (dB d2_183) 210 186 (fun c85 => ?_) (fun c85 => ?_)
                      ·refine w_iconst X0 hx (dB d2_210) 211 rfl (1 : Int32) (by decide) ?_
                       refine w_goto X0 hx (dB d2_211) 215 ?_
                       refine w_retN X0 hx hlk (t := .boolean) hret (by simp) (dB d2_215) (by decide) (by decide) ?_
                       rw [e0]
                       exact ⟨(1 : Int32), rfl, by have hz : (1 : Int32).toInt = 1 := (by decide); have q : own_b ((97 ≤ x.toInt ∧ x.toInt ≤ 122) ∨ (65 ≤ x.toInt ∧ x.toInt ≤ 90) ∨ (95 ≤ x.toInt ∧ x.toInt ≤ 95) ∨ (58 ≤ x.toInt ∧ x.toInt ≤ 58) ∨ (192 ≤ x.toInt ∧ x.toInt ≤ 214) ∨ (216 ≤ x.toInt ∧ x.toInt ≤ 246) ∨ (248 ≤ x.toInt ∧ x.toInt ≤ 767) ∨ (880 ≤ x.toInt ∧ x.toInt ≤ 893) ∨ (895 ≤ x.toInt ∧ x.toInt ≤ 8191) ∨ (8204 ≤ x.toInt ∧ x.toInt ≤ 8205) ∨ (8304 ≤ x.toInt ∧ x.toInt ≤ 8591) ∨ (11264 ≤ x.toInt ∧ x.toInt ≤ 12271) ∨ (12289 ≤ x.toInt ∧ x.toInt ≤ 55295) ∨ (63744 ≤ x.toInt ∧ x.toInt ≤ 64975) ∨ (65008 ≤ x.toInt ∧ x.toInt ≤ 65533) ∨ (65536 ≤ x.toInt ∧ x.toInt ≤ 983039)) = 1 := own_b_pos (by omega); refine ⟨?_, ?_, ?_⟩ <;> omega, N0, rfl⟩
                      ·refine w_iloadN X0 hx x (dB d2_186) 187 rfl rfl ?_
                       refine w_ldc X0 hx hZ hown (tw_29 hw) (dB d2_187) 189 rfl ?_
                       refine w_icmp_lt X0 hx x.toInt 65008 rfl (by decide) (dB d2_189) 198 192 (fun c86 => ?_) (fun c86 => ?_)
                       ·refine w_iloadN X0 hx x (dB d2_198) 199 rfl rfl ?_
                        refine w_ldc X0 hx hZ hown (tw_31 hw) (dB d2_199) 201 rfl ?_
                        refine w_icmp_lt X0 hx x.toInt 65536 rfl (by decide) (dB d2_201) 214 204 (fun c87 => ?_) (fun c87 => ?_)
                        ·refine w_iconst X0 hx (dB d2_214) 215 rfl (0 : Int32) (by decide) ?_
                         refine w_retN X0 hx hlk (t := .boolean) hret (by simp) (dB d2_215) (by decide) (by decide) ?_
                         rw [e0]
                         exact ⟨(0 : Int32), rfl, by have hz : (0 : Int32).toInt = 0 := (by decide); have q : own_b ((97 ≤ x.toInt ∧ x.toInt ≤ 122) ∨ (65 ≤ x.toInt ∧ x.toInt ≤ 90) ∨ (95 ≤ x.toInt ∧ x.toInt ≤ 95) ∨ (58 ≤ x.toInt ∧ x.toInt ≤ 58) ∨ (192 ≤ x.toInt ∧ x.toInt ≤ 214) ∨ (216 ≤ x.toInt ∧ x.toInt ≤ 246) ∨ (248 ≤ x.toInt ∧ x.toInt ≤ 767) ∨ (880 ≤ x.toInt ∧ x.toInt ≤ 893) ∨ (895 ≤ x.toInt ∧ x.toInt ≤ 8191) ∨ (8204 ≤ x.toInt ∧ x.toInt ≤ 8205) ∨ (8304 ≤ x.toInt ∧ x.toInt ≤ 8591) ∨ (11264 ≤ x.toInt ∧ x.toInt ≤ 12271) ∨ (12289 ≤ x.toInt ∧ x.toInt ≤ 55295) ∨ (63744 ≤ x.toInt ∧ x.toInt ≤ 64975) ∨ (65008 ≤ x.toInt ∧ x.toInt ≤ 65533) ∨ (65536 ≤ x.toInt ∧ x.toInt ≤ 983039)) = 0 := own_b_neg (by omega); refine ⟨?_, ?_, ?_⟩ <;> omega, N0, rfl⟩
                        ·exfalso; omega
                       ·refine w_iloadN X0 hx x (dB d2_192) 193 rfl rfl ?_
                        refine w_ldc X0 hx hZ hown (tw_30 hw) (dB d2_193) 195 rfl ?_
                        refine w_icmp_le X0 hx x.toInt 65533 rfl (by decide) (dB d2_195) 210 198 (fun c88 => ?_) (fun c88 => ?_)
                        ·refine w_iconst X0 hx (dB d2_210) 211 rfl (1 : Int32) (by decide) ?_
                         refine w_goto X0 hx (dB d2_211) 215 ?_
                         refine w_retN X0 hx hlk (t := .boolean) hret (by simp) (dB d2_215) (by decide) (by decide) ?_
                         rw [e0]
                         exact ⟨(1 : Int32), rfl, by have hz : (1 : Int32).toInt = 1 := (by decide); have q : own_b ((97 ≤ x.toInt ∧ x.toInt ≤ 122) ∨ (65 ≤ x.toInt ∧ x.toInt ≤ 90) ∨ (95 ≤ x.toInt ∧ x.toInt ≤ 95) ∨ (58 ≤ x.toInt ∧ x.toInt ≤ 58) ∨ (192 ≤ x.toInt ∧ x.toInt ≤ 214) ∨ (216 ≤ x.toInt ∧ x.toInt ≤ 246) ∨ (248 ≤ x.toInt ∧ x.toInt ≤ 767) ∨ (880 ≤ x.toInt ∧ x.toInt ≤ 893) ∨ (895 ≤ x.toInt ∧ x.toInt ≤ 8191) ∨ (8204 ≤ x.toInt ∧ x.toInt ≤ 8205) ∨ (8304 ≤ x.toInt ∧ x.toInt ≤ 8591) ∨ (11264 ≤ x.toInt ∧ x.toInt ≤ 12271) ∨ (12289 ≤ x.toInt ∧ x.toInt ≤ 55295) ∨ (63744 ≤ x.toInt ∧ x.toInt ≤ 64975) ∨ (65008 ≤ x.toInt ∧ x.toInt ≤ 65533) ∨ (65536 ≤ x.toInt ∧ x.toInt ≤ 983039)) = 1 := own_b_pos (by omega); refine ⟨?_, ?_, ?_⟩ <;> omega, N0, rfl⟩
                        ·refine w_iloadN X0 hx x (dB d2_198) 199 rfl rfl ?_
                         refine w_ldc X0 hx hZ hown (tw_31 hw) (dB d2_199) 201 rfl ?_
                         refine w_icmp_lt X0 hx x.toInt 65536 rfl (by decide) (dB d2_201) 214 204 (fun c89 => ?_) (fun c89 => ?_)
                         ·refine w_iconst X0 hx (dB d2_214) 215 rfl (0 : Int32) (by decide) ?_
                          refine w_retN X0 hx hlk (t := .boolean) hret (by simp) (dB d2_215) (by decide) (by decide) ?_
                          rw [e0]
                          exact ⟨(0 : Int32), rfl, by have hz : (0 : Int32).toInt = 0 := (by decide); have q : own_b ((97 ≤ x.toInt ∧ x.toInt ≤ 122) ∨ (65 ≤ x.toInt ∧ x.toInt ≤ 90) ∨ (95 ≤ x.toInt ∧ x.toInt ≤ 95) ∨ (58 ≤ x.toInt ∧ x.toInt ≤ 58) ∨ (192 ≤ x.toInt ∧ x.toInt ≤ 214) ∨ (216 ≤ x.toInt ∧ x.toInt ≤ 246) ∨ (248 ≤ x.toInt ∧ x.toInt ≤ 767) ∨ (880 ≤ x.toInt ∧ x.toInt ≤ 893) ∨ (895 ≤ x.toInt ∧ x.toInt ≤ 8191) ∨ (8204 ≤ x.toInt ∧ x.toInt ≤ 8205) ∨ (8304 ≤ x.toInt ∧ x.toInt ≤ 8591) ∨ (11264 ≤ x.toInt ∧ x.toInt ≤ 12271) ∨ (12289 ≤ x.toInt ∧ x.toInt ≤ 55295) ∨ (63744 ≤ x.toInt ∧ x.toInt ≤ 64975) ∨ (65008 ≤ x.toInt ∧ x.toInt ≤ 65533) ∨ (65536 ≤ x.toInt ∧ x.toInt ≤ 983039)) = 0 := own_b_neg (by omega); refine ⟨?_, ?_, ?_⟩ <;> omega, N0, rfl⟩
                         ·refine w_iloadN X0 hx x (dB d2_204) 205 rfl rfl ?_
                          refine w_ldc X0 hx hZ hown (tw_32 hw) (dB d2_205) 207 rfl ?_
                          refine w_icmp_gt X0 hx x.toInt 983039 rfl (by decide) (dB d2_207) 214 210 (fun c90 => ?_) (fun c90 => ?_)
                          ·refine w_iconst X0 hx (dB d2_214) 215 rfl (0 : Int32) (by decide) ?_
                           refine w_retN X0 hx hlk (t := .boolean) hret (by simp) (dB d2_215) (by decide) (by decide) ?_
                           rw [e0]
                           exact ⟨(0 : Int32), rfl, by have hz : (0 : Int32).toInt = 0 := (by decide); have q : own_b ((97 ≤ x.toInt ∧ x.toInt ≤ 122) ∨ (65 ≤ x.toInt ∧ x.toInt ≤ 90) ∨ (95 ≤ x.toInt ∧ x.toInt ≤ 95) ∨ (58 ≤ x.toInt ∧ x.toInt ≤ 58) ∨ (192 ≤ x.toInt ∧ x.toInt ≤ 214) ∨ (216 ≤ x.toInt ∧ x.toInt ≤ 246) ∨ (248 ≤ x.toInt ∧ x.toInt ≤ 767) ∨ (880 ≤ x.toInt ∧ x.toInt ≤ 893) ∨ (895 ≤ x.toInt ∧ x.toInt ≤ 8191) ∨ (8204 ≤ x.toInt ∧ x.toInt ≤ 8205) ∨ (8304 ≤ x.toInt ∧ x.toInt ≤ 8591) ∨ (11264 ≤ x.toInt ∧ x.toInt ≤ 12271) ∨ (12289 ≤ x.toInt ∧ x.toInt ≤ 55295) ∨ (63744 ≤ x.toInt ∧ x.toInt ≤ 64975) ∨ (65008 ≤ x.toInt ∧ x.toInt ≤ 65533) ∨ (65536 ≤ x.toInt ∧ x.toInt ≤ 983039)) = 0 := own_b_neg (by omega); refine ⟨?_, ?_, ?_⟩ <;> omega, N0, rfl⟩
                          ·refine w_iconst X0 hx (dB d2_210) 211 rfl (1 : Int32) (by decide) ?_
                           refine w_goto X0 hx (dB d2_211) 215 ?_
                           refine w_retN X0 hx hlk (t := .boolean) hret (by simp) (dB d2_215) (by decide) (by decide) ?_
                           rw [e0]
                           exact ⟨(1 : Int32), rfl, by have hz : (1 : Int32).toInt = 1 := (by decide); have q : own_b ((97 ≤ x.toInt ∧ x.toInt ≤ 122) ∨ (65 ≤ x.toInt ∧ x.toInt ≤ 90) ∨ (95 ≤ x.toInt ∧ x.toInt ≤ 95) ∨ (58 ≤ x.toInt ∧ x.toInt ≤ 58) ∨ (192 ≤ x.toInt ∧ x.toInt ≤ 214) ∨ (216 ≤ x.toInt ∧ x.toInt ≤ 246) ∨ (248 ≤ x.toInt ∧ x.toInt ≤ 767) ∨ (880 ≤ x.toInt ∧ x.toInt ≤ 893) ∨ (895 ≤ x.toInt ∧ x.toInt ≤ 8191) ∨ (8204 ≤ x.toInt ∧ x.toInt ≤ 8205) ∨ (8304 ≤ x.toInt ∧ x.toInt ≤ 8591) ∨ (11264 ≤ x.toInt ∧ x.toInt ≤ 12271) ∨ (12289 ≤ x.toInt ∧ x.toInt ≤ 55295) ∨ (63744 ≤ x.toInt ∧ x.toInt ≤ 64975) ∨ (65008 ≤ x.toInt ∧ x.toInt ≤ 65533) ∨ (65536 ≤ x.toInt ∧ x.toInt ≤ 983039)) = 1 := own_b_pos (by omega); refine ⟨?_, ?_, ?_⟩ <;> omega, N0, rfl⟩
  ·refine w_iloadN X0 hx x (dB d2_7) 8 rfl rfl ?_
   refine w_bipush X0 hx (dB d2_8) 10 rfl (97 : Int32) (by decide) ?_
   refine w_icmp_lt X0 hx x.toInt 97 rfl (by decide) (dB d2_10) 19 13 (fun c91 => ?_) (fun c91 => ?_)
   ·refine w_iloadN X0 hx x (dB d2_19) 20 rfl rfl ?_
    refine w_bipush X0 hx (dB d2_20) 22 rfl (65 : Int32) (by decide) ?_
    refine w_icmp_lt X0 hx x.toInt 65 rfl (by decide) (dB d2_22) 31 25 (fun c92 => ?_) (fun c92 => ?_)
    ·refine w_iloadN X0 hx x (dB d2_31) 32 rfl rfl ?_
     refine w_bipush X0 hx (dB d2_32) 34 rfl (95 : Int32) (by decide) ?_
     refine w_icmp_eq X0 hx x.toInt 95 rfl (by decide) (dB d2_34) 43 37 (fun c93 => ?_) (fun c93 => ?_)
     ·exfalso; omega
     ·refine w_iloadN X0 hx x (dB d2_37) 38 rfl rfl ?_
      refine w_bipush X0 hx (dB d2_38) 40 rfl (58 : Int32) (by decide) ?_
      refine w_icmp_ne X0 hx x.toInt 58 rfl (by decide) (dB d2_40) 47 43 (fun c94 => ?_) (fun c94 => ?_)
      ·refine w_iconst X0 hx (dB d2_47) 48 rfl (0 : Int32) (by decide) ?_
       refine w_retN X0 hx hlk (t := .boolean) hret (by simp) (dB d2_48) (by decide) (by decide) ?_
       rw [e0]
       exact ⟨(0 : Int32), rfl, by have hz : (0 : Int32).toInt = 0 := (by decide); have q : own_b ((97 ≤ x.toInt ∧ x.toInt ≤ 122) ∨ (65 ≤ x.toInt ∧ x.toInt ≤ 90) ∨ (95 ≤ x.toInt ∧ x.toInt ≤ 95) ∨ (58 ≤ x.toInt ∧ x.toInt ≤ 58) ∨ (192 ≤ x.toInt ∧ x.toInt ≤ 214) ∨ (216 ≤ x.toInt ∧ x.toInt ≤ 246) ∨ (248 ≤ x.toInt ∧ x.toInt ≤ 767) ∨ (880 ≤ x.toInt ∧ x.toInt ≤ 893) ∨ (895 ≤ x.toInt ∧ x.toInt ≤ 8191) ∨ (8204 ≤ x.toInt ∧ x.toInt ≤ 8205) ∨ (8304 ≤ x.toInt ∧ x.toInt ≤ 8591) ∨ (11264 ≤ x.toInt ∧ x.toInt ≤ 12271) ∨ (12289 ≤ x.toInt ∧ x.toInt ≤ 55295) ∨ (63744 ≤ x.toInt ∧ x.toInt ≤ 64975) ∨ (65008 ≤ x.toInt ∧ x.toInt ≤ 65533) ∨ (65536 ≤ x.toInt ∧ x.toInt ≤ 983039)) = 0 := own_b_neg (by omega); refine ⟨?_, ?_, ?_⟩ <;> omega, N0, rfl⟩
      ·refine w_iconst X0 hx (dB d2_43) 44 rfl (1 : Int32) (by decide) ?_
       refine w_goto X0 hx (dB d2_44) 48 ?_
       refine w_retN X0 hx hlk (t := .boolean) hret (by simp) (dB d2_48) (by decide) (by decide) ?_
       rw [e0]
       exact ⟨(1 : Int32), rfl, by have hz : (1 : Int32).toInt = 1 := (by decide); have q : own_b ((97 ≤ x.toInt ∧ x.toInt ≤ 122) ∨ (65 ≤ x.toInt ∧ x.toInt ≤ 90) ∨ (95 ≤ x.toInt ∧ x.toInt ≤ 95) ∨ (58 ≤ x.toInt ∧ x.toInt ≤ 58) ∨ (192 ≤ x.toInt ∧ x.toInt ≤ 214) ∨ (216 ≤ x.toInt ∧ x.toInt ≤ 246) ∨ (248 ≤ x.toInt ∧ x.toInt ≤ 767) ∨ (880 ≤ x.toInt ∧ x.toInt ≤ 893) ∨ (895 ≤ x.toInt ∧ x.toInt ≤ 8191) ∨ (8204 ≤ x.toInt ∧ x.toInt ≤ 8205) ∨ (8304 ≤ x.toInt ∧ x.toInt ≤ 8591) ∨ (11264 ≤ x.toInt ∧ x.toInt ≤ 12271) ∨ (12289 ≤ x.toInt ∧ x.toInt ≤ 55295) ∨ (63744 ≤ x.toInt ∧ x.toInt ≤ 64975) ∨ (65008 ≤ x.toInt ∧ x.toInt ≤ 65533) ∨ (65536 ≤ x.toInt ∧ x.toInt ≤ 983039)) = 1 := own_b_pos (by omega); refine ⟨?_, ?_, ?_⟩ <;> omega, N0, rfl⟩
    ·refine w_iloadN X0 hx x (dB d2_25) 26 rfl rfl ?_
     refine w_bipush X0 hx (dB d2_26) 28 rfl (90 : Int32) (by decide) ?_
     refine w_icmp_le X0 hx x.toInt 90 rfl (by decide) (dB d2_28) 43 31 (fun c95 => ?_) (fun c95 => ?_)
     ·refine w_iconst X0 hx (dB d2_43) 44 rfl (1 : Int32) (by decide) ?_
      refine w_goto X0 hx (dB d2_44) 48 ?_
      refine w_retN X0 hx hlk (t := .boolean) hret (by simp) (dB d2_48) (by decide) (by decide) ?_
      rw [e0]
      exact ⟨(1 : Int32), rfl, by have hz : (1 : Int32).toInt = 1 := (by decide); have q : own_b ((97 ≤ x.toInt ∧ x.toInt ≤ 122) ∨ (65 ≤ x.toInt ∧ x.toInt ≤ 90) ∨ (95 ≤ x.toInt ∧ x.toInt ≤ 95) ∨ (58 ≤ x.toInt ∧ x.toInt ≤ 58) ∨ (192 ≤ x.toInt ∧ x.toInt ≤ 214) ∨ (216 ≤ x.toInt ∧ x.toInt ≤ 246) ∨ (248 ≤ x.toInt ∧ x.toInt ≤ 767) ∨ (880 ≤ x.toInt ∧ x.toInt ≤ 893) ∨ (895 ≤ x.toInt ∧ x.toInt ≤ 8191) ∨ (8204 ≤ x.toInt ∧ x.toInt ≤ 8205) ∨ (8304 ≤ x.toInt ∧ x.toInt ≤ 8591) ∨ (11264 ≤ x.toInt ∧ x.toInt ≤ 12271) ∨ (12289 ≤ x.toInt ∧ x.toInt ≤ 55295) ∨ (63744 ≤ x.toInt ∧ x.toInt ≤ 64975) ∨ (65008 ≤ x.toInt ∧ x.toInt ≤ 65533) ∨ (65536 ≤ x.toInt ∧ x.toInt ≤ 983039)) = 1 := own_b_pos (by omega); refine ⟨?_, ?_, ?_⟩ <;> omega, N0, rfl⟩
     ·refine w_iloadN X0 hx x (dB d2_31) 32 rfl rfl ?_
      refine w_bipush X0 hx (dB d2_32) 34 rfl (95 : Int32) (by decide) ?_
      refine w_icmp_eq X0 hx x.toInt 95 rfl (by decide) (dB d2_34) 43 37 (fun c96 => ?_) (fun c96 => ?_)
      ·refine w_iconst X0 hx (dB d2_43) 44 rfl (1 : Int32) (by decide) ?_
       refine w_goto X0 hx (dB d2_44) 48 ?_
       refine w_retN X0 hx hlk (t := .boolean) hret (by simp) (dB d2_48) (by decide) (by decide) ?_
       rw [e0]
       exact ⟨(1 : Int32), rfl, by have hz : (1 : Int32).toInt = 1 := (by decide); have q : own_b ((97 ≤ x.toInt ∧ x.toInt ≤ 122) ∨ (65 ≤ x.toInt ∧ x.toInt ≤ 90) ∨ (95 ≤ x.toInt ∧ x.toInt ≤ 95) ∨ (58 ≤ x.toInt ∧ x.toInt ≤ 58) ∨ (192 ≤ x.toInt ∧ x.toInt ≤ 214) ∨ (216 ≤ x.toInt ∧ x.toInt ≤ 246) ∨ (248 ≤ x.toInt ∧ x.toInt ≤ 767) ∨ (880 ≤ x.toInt ∧ x.toInt ≤ 893) ∨ (895 ≤ x.toInt ∧ x.toInt ≤ 8191) ∨ (8204 ≤ x.toInt ∧ x.toInt ≤ 8205) ∨ (8304 ≤ x.toInt ∧ x.toInt ≤ 8591) ∨ (11264 ≤ x.toInt ∧ x.toInt ≤ 12271) ∨ (12289 ≤ x.toInt ∧ x.toInt ≤ 55295) ∨ (63744 ≤ x.toInt ∧ x.toInt ≤ 64975) ∨ (65008 ≤ x.toInt ∧ x.toInt ≤ 65533) ∨ (65536 ≤ x.toInt ∧ x.toInt ≤ 983039)) = 1 := own_b_pos (by omega); refine ⟨?_, ?_, ?_⟩ <;> omega, N0, rfl⟩
      ·refine w_iloadN X0 hx x (dB d2_37) 38 rfl rfl ?_
       refine w_bipush X0 hx (dB d2_38) 40 rfl (58 : Int32) (by decide) ?_
       refine w_icmp_ne X0 hx x.toInt 58 rfl (by decide) (dB d2_40) 47 43 (fun c97 => ?_) (fun c97 => ?_)
       ·refine w_iconst X0 hx (dB d2_47) 48 rfl (0 : Int32) (by decide) ?_
        refine w_retN X0 hx hlk (t := .boolean) hret (by simp) (dB d2_48) (by decide) (by decide) ?_
        rw [e0]
        exact ⟨(0 : Int32), rfl, by have hz : (0 : Int32).toInt = 0 := (by decide); have q : own_b ((97 ≤ x.toInt ∧ x.toInt ≤ 122) ∨ (65 ≤ x.toInt ∧ x.toInt ≤ 90) ∨ (95 ≤ x.toInt ∧ x.toInt ≤ 95) ∨ (58 ≤ x.toInt ∧ x.toInt ≤ 58) ∨ (192 ≤ x.toInt ∧ x.toInt ≤ 214) ∨ (216 ≤ x.toInt ∧ x.toInt ≤ 246) ∨ (248 ≤ x.toInt ∧ x.toInt ≤ 767) ∨ (880 ≤ x.toInt ∧ x.toInt ≤ 893) ∨ (895 ≤ x.toInt ∧ x.toInt ≤ 8191) ∨ (8204 ≤ x.toInt ∧ x.toInt ≤ 8205) ∨ (8304 ≤ x.toInt ∧ x.toInt ≤ 8591) ∨ (11264 ≤ x.toInt ∧ x.toInt ≤ 12271) ∨ (12289 ≤ x.toInt ∧ x.toInt ≤ 55295) ∨ (63744 ≤ x.toInt ∧ x.toInt ≤ 64975) ∨ (65008 ≤ x.toInt ∧ x.toInt ≤ 65533) ∨ (65536 ≤ x.toInt ∧ x.toInt ≤ 983039)) = 0 := own_b_neg (by omega); refine ⟨?_, ?_, ?_⟩ <;> omega, N0, rfl⟩
       ·exfalso; omega
   ·refine w_iloadN X0 hx x (dB d2_13) 14 rfl rfl ?_
    refine w_bipush X0 hx (dB d2_14) 16 rfl (122 : Int32) (by decide) ?_
    refine w_icmp_le X0 hx x.toInt 122 rfl (by decide) (dB d2_16) 43 19 (fun c98 => ?_) (fun c98 => ?_)
    ·refine w_iconst X0 hx (dB d2_43) 44 rfl (1 : Int32) (by decide) ?_
     refine w_goto X0 hx (dB d2_44) 48 ?_
     refine w_retN X0 hx hlk (t := .boolean) hret (by simp) (dB d2_48) (by decide) (by decide) ?_
     rw [e0]
     exact ⟨(1 : Int32), rfl, by have hz : (1 : Int32).toInt = 1 := (by decide); have q : own_b ((97 ≤ x.toInt ∧ x.toInt ≤ 122) ∨ (65 ≤ x.toInt ∧ x.toInt ≤ 90) ∨ (95 ≤ x.toInt ∧ x.toInt ≤ 95) ∨ (58 ≤ x.toInt ∧ x.toInt ≤ 58) ∨ (192 ≤ x.toInt ∧ x.toInt ≤ 214) ∨ (216 ≤ x.toInt ∧ x.toInt ≤ 246) ∨ (248 ≤ x.toInt ∧ x.toInt ≤ 767) ∨ (880 ≤ x.toInt ∧ x.toInt ≤ 893) ∨ (895 ≤ x.toInt ∧ x.toInt ≤ 8191) ∨ (8204 ≤ x.toInt ∧ x.toInt ≤ 8205) ∨ (8304 ≤ x.toInt ∧ x.toInt ≤ 8591) ∨ (11264 ≤ x.toInt ∧ x.toInt ≤ 12271) ∨ (12289 ≤ x.toInt ∧ x.toInt ≤ 55295) ∨ (63744 ≤ x.toInt ∧ x.toInt ≤ 64975) ∨ (65008 ≤ x.toInt ∧ x.toInt ≤ 65533) ∨ (65536 ≤ x.toInt ∧ x.toInt ≤ 983039)) = 1 := own_b_pos (by omega); refine ⟨?_, ?_, ?_⟩ <;> omega, N0, rfl⟩
    ·refine w_iloadN X0 hx x (dB d2_19) 20 rfl rfl ?_
     refine w_bipush X0 hx (dB d2_20) 22 rfl (65 : Int32) (by decide) ?_
     refine w_icmp_lt X0 hx x.toInt 65 rfl (by decide) (dB d2_22) 31 25 (fun c99 => ?_) (fun c99 => ?_)
     ·exfalso; omega
     ·refine w_iloadN X0 hx x (dB d2_25) 26 rfl rfl ?_
      refine w_bipush X0 hx (dB d2_26) 28 rfl (90 : Int32) (by decide) ?_
      refine w_icmp_le X0 hx x.toInt 90 rfl (by decide) (dB d2_28) 43 31 (fun c100 => ?_) (fun c100 => ?_)
      ·exfalso; omega
      ·refine w_iloadN X0 hx x (dB d2_31) 32 rfl rfl ?_
       refine w_bipush X0 hx (dB d2_32) 34 rfl (95 : Int32) (by decide) ?_
       refine w_icmp_eq X0 hx x.toInt 95 rfl (by decide) (dB d2_34) 43 37 (fun c101 => ?_) (fun c101 => ?_)
       ·exfalso; omega
       ·refine w_iloadN X0 hx x (dB d2_37) 38 rfl rfl ?_
        refine w_bipush X0 hx (dB d2_38) 40 rfl (58 : Int32) (by decide) ?_
        refine w_icmp_ne X0 hx x.toInt 58 rfl (by decide) (dB d2_40) 47 43 (fun c102 => ?_) (fun c102 => ?_)
        ·refine w_iconst X0 hx (dB d2_47) 48 rfl (0 : Int32) (by decide) ?_
         refine w_retN X0 hx hlk (t := .boolean) hret (by simp) (dB d2_48) (by decide) (by decide) ?_
         rw [e0]
         exact ⟨(0 : Int32), rfl, by have hz : (0 : Int32).toInt = 0 := (by decide); have q : own_b ((97 ≤ x.toInt ∧ x.toInt ≤ 122) ∨ (65 ≤ x.toInt ∧ x.toInt ≤ 90) ∨ (95 ≤ x.toInt ∧ x.toInt ≤ 95) ∨ (58 ≤ x.toInt ∧ x.toInt ≤ 58) ∨ (192 ≤ x.toInt ∧ x.toInt ≤ 214) ∨ (216 ≤ x.toInt ∧ x.toInt ≤ 246) ∨ (248 ≤ x.toInt ∧ x.toInt ≤ 767) ∨ (880 ≤ x.toInt ∧ x.toInt ≤ 893) ∨ (895 ≤ x.toInt ∧ x.toInt ≤ 8191) ∨ (8204 ≤ x.toInt ∧ x.toInt ≤ 8205) ∨ (8304 ≤ x.toInt ∧ x.toInt ≤ 8591) ∨ (11264 ≤ x.toInt ∧ x.toInt ≤ 12271) ∨ (12289 ≤ x.toInt ∧ x.toInt ≤ 55295) ∨ (63744 ≤ x.toInt ∧ x.toInt ≤ 64975) ∨ (65008 ≤ x.toInt ∧ x.toInt ≤ 65533) ∨ (65536 ≤ x.toInt ∧ x.toInt ≤ 983039)) = 0 := own_b_neg (by omega); refine ⟨?_, ?_, ?_⟩ <;> omega, N0, rfl⟩
        ·exfalso; omega
theorem ef_3 (m : MethodId) (x0 : Int32) : entryFrame m #[(.int x0)] 1 = mkF m 0 #[.val (.int x0)] [] := by first | (simp [entryFrame, mkF, argsToLocals, Value.category]; done) | rfl
def Q3 (Z : State) (x : Int32) (h0 : Heap) (n0 : Nat) (v : Option Value) (h : Heap) (L : List Loc) : Prop := ∃ z : Int32, v = some (.int z) ∧ (z.toInt = own_b ((97 ≤ x.toInt ∧ x.toInt ≤ 122) ∨ (65 ≤ x.toInt ∧ x.toInt ≤ 90) ∨ (95 ≤ x.toInt ∧ x.toInt ≤ 95) ∨ (58 ≤ x.toInt ∧ x.toInt ≤ 58) ∨ (192 ≤ x.toInt ∧ x.toInt ≤ 214) ∨ (216 ≤ x.toInt ∧ x.toInt ≤ 246) ∨ (248 ≤ x.toInt ∧ x.toInt ≤ 767) ∨ (880 ≤ x.toInt ∧ x.toInt ≤ 893) ∨ (895 ≤ x.toInt ∧ x.toInt ≤ 8191) ∨ (8204 ≤ x.toInt ∧ x.toInt ≤ 8205) ∨ (8304 ≤ x.toInt ∧ x.toInt ≤ 8591) ∨ (11264 ≤ x.toInt ∧ x.toInt ≤ 12271) ∨ (12289 ≤ x.toInt ∧ x.toInt ≤ 55295) ∨ (63744 ≤ x.toInt ∧ x.toInt ≤ 64975) ∨ (65008 ≤ x.toInt ∧ x.toInt ≤ 65533) ∨ (65536 ≤ x.toInt ∧ x.toInt ≤ 983039)) ∧ 0 ≤ z.toInt ∧ z.toInt ≤ 1) ∧ Fr n0 L ∧ h = h0
set_option maxRecDepth 65536 in
set_option maxHeartbeats 40000000 in
theorem rm3 (l : Launch) (Z : State) (a0 : Array Value) (hw : ∀ d ∈ tables_1, d.before a0 Z = true) (ws : List Jvm.Cond) (x : Int32) (h0 : Heap) (n0 : Nat) (Z0 : n0 ≤ h0.size) :
    CT l mN_3 method_2_code 1 (some .boolean) ws ({ frames := 0, cells := 0, slots := 0, locals := 0 } : Room) #[(.int x)] Z h0 (Q3 Z x h0 n0) := by
  refine body_of (plainFor_of_name pn_1) ?_
  intro p e s m below meth c s₁ hx dB hret hlk hml hown0 hnm X0 e0 hZ
  have hown : s.vm.findClass cN_1 = some m.cls := hown0
  have N0 := Fr.nil n0
  rw [ef_3]
  show Wk p e below (FN s (Q3 Z x h0 n0) 0 0) s₁ (mkF m 0 #[.val (.int x)] [])
  have r_x := rng32 x
  refine w_iloadN X0 hx x (dB d3_0) 1 rfl rfl ?_
  refine w_if_lt X0 hx x.toInt rfl (dB d3_1) 10 4 (fun c103 => ?_) (fun c103 => ?_)
  ·refine w_iconst X0 hx (dB d3_10) 11 rfl (0 : Int32) (by decide) ?_
   refine w_retN X0 hx hlk (t := .boolean) hret (by simp) (dB d3_11) (by decide) (by decide) ?_
   rw [e0]
   exact ⟨(0 : Int32), rfl, by have hz : (0 : Int32).toInt = 0 := (by decide); have q : own_b ((97 ≤ x.toInt ∧ x.toInt ≤ 122) ∨ (65 ≤ x.toInt ∧ x.toInt ≤ 90) ∨ (95 ≤ x.toInt ∧ x.toInt ≤ 95) ∨ (58 ≤ x.toInt ∧ x.toInt ≤ 58) ∨ (192 ≤ x.toInt ∧ x.toInt ≤ 214) ∨ (216 ≤ x.toInt ∧ x.toInt ≤ 246) ∨ (248 ≤ x.toInt ∧ x.toInt ≤ 767) ∨ (880 ≤ x.toInt ∧ x.toInt ≤ 893) ∨ (895 ≤ x.toInt ∧ x.toInt ≤ 8191) ∨ (8204 ≤ x.toInt ∧ x.toInt ≤ 8205) ∨ (8304 ≤ x.toInt ∧ x.toInt ≤ 8591) ∨ (11264 ≤ x.toInt ∧ x.toInt ≤ 12271) ∨ (12289 ≤ x.toInt ∧ x.toInt ≤ 55295) ∨ (63744 ≤ x.toInt ∧ x.toInt ≤ 64975) ∨ (65008 ≤ x.toInt ∧ x.toInt ≤ 65533) ∨ (65536 ≤ x.toInt ∧ x.toInt ≤ 983039)) = 0 := own_b_neg (by omega); refine ⟨?_, ?_, ?_⟩ <;> omega, N0, rfl⟩
  ·refine w_iloadN X0 hx x (dB d3_4) 5 rfl rfl ?_
   refine w_ldc X0 hx hZ hown (tw_7 hw) (dB d3_5) 7 rfl ?_
   refine w_icmp_le X0 hx x.toInt 983039 rfl (by decide) (dB d3_7) 12 10 (fun c104 => ?_) (fun c104 => ?_)
   ·refine w_iloadN X0 hx x (dB d3_12) 13 rfl rfl ?_
    refine w_bipush X0 hx (dB d3_13) 15 rfl (57 : Int32) (by decide) ?_
    refine w_icmp_gt X0 hx x.toInt 57 rfl (by decide) (dB d3_15) 20 18 (fun c105 => ?_) (fun c105 => ?_)
    ·refine w_iloadN X0 hx x (dB d3_20) 21 rfl rfl ?_
     refine w_bipush X0 hx (dB d3_21) 23 rfl (59 : Int32) (by decide) ?_
     refine w_icmp_lt X0 hx x.toInt 59 rfl (by decide) (dB d3_23) 34 26 (fun c106 => ?_) (fun c106 => ?_)
     ·refine w_iloadN X0 hx x (dB d3_34) 35 rfl rfl ?_
      refine w_bipush X0 hx (dB d3_35) 37 rfl (91 : Int32) (by decide) ?_
      refine w_icmp_lt X0 hx x.toInt 91 rfl (by decide) (dB d3_37) 48 40 (fun c107 => ?_) (fun c107 => ?_)
      ·refine w_iloadN X0 hx x (dB d3_48) 49 rfl rfl ?_
       refine w_bipush X0 hx (dB d3_49) 51 rfl (96 : Int32) (by decide) ?_
       refine w_icmp_ne X0 hx x.toInt 96 rfl (by decide) (dB d3_51) 56 54 (fun c108 => ?_) (fun c108 => ?_)
       ·refine w_iloadN X0 hx x (dB d3_56) 57 rfl rfl ?_
        refine w_bipush X0 hx (dB d3_57) 59 rfl (123 : Int32) (by decide) ?_
        refine w_icmp_lt X0 hx x.toInt 123 rfl (by decide) (dB d3_59) 71 62 (fun c109 => ?_) (fun c109 => ?_)
        ·refine w_iloadN X0 hx x (dB d3_71) 72 rfl rfl ?_
         refine w_sipush X0 hx (dB d3_72) 75 rfl (215 : Int32) (by decide) ?_
         refine w_icmp_eq X0 hx x.toInt 215 rfl (by decide) (dB d3_75) 85 78 (fun c110 => ?_) (fun c110 => ?_)
         ·exfalso; omega
         ·refine w_iloadN X0 hx x (dB d3_78) 79 rfl rfl ?_
          refine w_sipush X0 hx (dB d3_79) 82 rfl (247 : Int32) (by decide) ?_
          refine w_icmp_ne X0 hx x.toInt 247 rfl (by decide) (dB d3_82) 87 85 (fun c111 => ?_) (fun c111 => ?_)
          ·refine w_iloadN X0 hx x (dB d3_87) 88 rfl rfl ?_
           refine w_sipush X0 hx (dB d3_88) 91 rfl (768 : Int32) (by decide) ?_
           refine w_icmp_lt X0 hx x.toInt 768 rfl (by decide) (dB d3_91) 103 94 (fun c112 => ?_) (fun c112 => ?_)
           ·refine w_iloadN X0 hx x (dB d3_103) 104 rfl rfl ?_
            refine w_sipush X0 hx (dB d3_104) 107 rfl (894 : Int32) (by decide) ?_
            refine w_icmp_ne X0 hx x.toInt 894 rfl (by decide) (dB d3_107) 112 110 (fun c113 => ?_) (fun c113 => ?_)
            ·refine w_iloadN X0 hx x (dB d3_112) 113 rfl rfl ?_
             refine w_sipush X0 hx (dB d3_113) 116 rfl (8192 : Int32) (by decide) ?_
             refine w_icmp_lt X0 hx x.toInt 8192 rfl (by decide) (dB d3_116) 128 119 (fun c114 => ?_) (fun c114 => ?_)
             ·refine w_iloadN X0 hx x (dB d3_128) 129 rfl rfl ?_
              refine w_sipush X0 hx (dB d3_129) 132 rfl (8206 : Int32) (by decide) ?_
              refine w_icmp_lt X0 hx x.toInt 8206 rfl (by decide) (dB d3_132) 144 135 (fun c115 => ?_) (fun c115 => ?_)
              ·refine w_iloadN X0 hx x (dB d3_144) 145 rfl rfl ?_
               refine w_sipush X0 hx (dB d3_145) 148 rfl (8592 : Int32) (by decide) ?_
               refine w_icmp_lt X0 hx x.toInt 8592 rfl (by decide) (dB d3_148) 160 151 (fun c116 => ?_) (fun c116 => ?_)
               ·refine w_iloadN X0 hx x (dB d3_160) 161 rfl rfl ?_
                refine w_sipush X0 hx (dB d3_161) 164 rfl (12272 : Int32) (by decide) ?_
                refine w_icmp_lt X0 hx x.toInt 12272 rfl (by decide) (dB d3_164) 176 167 (fun c117 => ?_) (fun c117 => ?_)
                ·refine w_iloadN X0 hx x (dB d3_176) 177 rfl rfl ?_
                 refine w_ldc X0 hx hZ hown (tw_23 hw) (dB d3_177) 179 rfl ?_
                 refine w_icmp_lt X0 hx x.toInt 55296 rfl (by decide) (dB d3_179) 190 182 (fun c118 => ?_) (fun c118 => ?_)
                 ·refine w_iloadN X0 hx x (dB d3_190) 191 rfl rfl ?_
                  refine w_ldc X0 hx hZ hown (tw_24 hw) (dB d3_191) 193 rfl ?_
                  refine w_icmp_lt X0 hx x.toInt 64976 rfl (by decide) (dB d3_193) 204 196 (fun c119 => ?_) (fun c119 => ?_)
                  ·refine w_iloadN X0 hx x (dB d3_204) 205 rfl rfl ?_
                   refine w_ldc X0 hx hZ hown (tw_25 hw) (dB d3_205) 207 rfl ?_
                   refine w_icmp_lt X0 hx x.toInt 65534 rfl (by decide) (dB d3_207) 218 210 (fun c120 => ?_) (fun c120 => ?_)
                   ·refine w_iconst X0 hx (dB d3_218) 219 rfl (1 : Int32) (by decide) ?_
                    refine w_retN X0 hx hlk (t := .boolean) hret (by simp) (dB d3_219) (by decide) (by decide) ?_
                    rw [e0]
                    exact ⟨(1 : Int32), rfl, by have hz : (1 : Int32).toInt = 1 := (by decide); have q : own_b ((97 ≤ x.toInt ∧ x.toInt ≤ 122) ∨ (65 ≤ x.toInt ∧ x.toInt ≤ 90) ∨ (95 ≤ x.toInt ∧ x.toInt ≤ 95) ∨ (58 ≤ x.toInt ∧ x.toInt ≤ 58) ∨ (192 ≤ x.toInt ∧ x.toInt ≤ 214) ∨ (216 ≤ x.toInt ∧ x.toInt ≤ 246) ∨ (248 ≤ x.toInt ∧ x.toInt ≤ 767) ∨ (880 ≤ x.toInt ∧ x.toInt ≤ 893) ∨ (895 ≤ x.toInt ∧ x.toInt ≤ 8191) ∨ (8204 ≤ x.toInt ∧ x.toInt ≤ 8205) ∨ (8304 ≤ x.toInt ∧ x.toInt ≤ 8591) ∨ (11264 ≤ x.toInt ∧ x.toInt ≤ 12271) ∨ (12289 ≤ x.toInt ∧ x.toInt ≤ 55295) ∨ (63744 ≤ x.toInt ∧ x.toInt ≤ 64975) ∨ (65008 ≤ x.toInt ∧ x.toInt ≤ 65533) ∨ (65536 ≤ x.toInt ∧ x.toInt ≤ 983039)) = 1 := own_b_pos (by omega); refine ⟨?_, ?_, ?_⟩ <;> omega, N0, rfl⟩
                   ·exfalso; omega
                  ·exfalso; omega
                 ·exfalso; omega
                ·exfalso; omega
               ·exfalso; omega
              ·exfalso; omega
             ·exfalso; omega
            ·exfalso; omega
           ·exfalso; omega
          ·exfalso; omega
        ·exfalso; omega
       ·exfalso; omega
      ·exfalso; omega
     ·refine w_iloadN X0 hx x (dB d3_26) 27 rfl rfl ?_
      refine w_bipush X0 hx (dB d3_27) 29 rfl (64 : Int32) (by decide) ?_
      refine w_icmp_gt X0 hx x.toInt 64 rfl (by decide) (dB d3_29) 34 32 (fun c121 => ?_) (fun c121 => ?_)
      ·refine w_iloadN X0 hx x (dB d3_34) 35 rfl rfl ?_
       refine w_bipush X0 hx (dB d3_35) 37 rfl (91 : Int32) (by decide) ?_
       refine w_icmp_lt X0 hx x.toInt 91 rfl (by decide) (dB d3_37) 48 40 (fun c122 => ?_) (fun c122 => ?_)
       ·refine w_iloadN X0 hx x (dB d3_48) 49 rfl rfl ?_
        refine w_bipush X0 hx (dB d3_49) 51 rfl (96 : Int32) (by decide) ?_
        refine w_icmp_ne X0 hx x.toInt 96 rfl (by decide) (dB d3_51) 56 54 (fun c123 => ?_) (fun c123 => ?_)
        ·refine w_iloadN X0 hx x (dB d3_56) 57 rfl rfl ?_
         refine w_bipush X0 hx (dB d3_57) 59 rfl (123 : Int32) (by decide) ?_
         refine w_icmp_lt X0 hx x.toInt 123 rfl (by decide) (dB d3_59) 71 62 (fun c124 => ?_) (fun c124 => ?_)
         ·refine w_iloadN X0 hx x (dB d3_71) 72 rfl rfl ?_
          refine w_sipush X0 hx (dB d3_72) 75 rfl (215 : Int32) (by decide) ?_
          refine w_icmp_eq X0 hx x.toInt 215 rfl (by decide) (dB d3_75) 85 78 (fun c125 => ?_) (fun c125 => ?_)
          ·exfalso; omega
          ·refine w_iloadN X0 hx x (dB d3_78) 79 rfl rfl ?_
           refine w_sipush X0 hx (dB d3_79) 82 rfl (247 : Int32) (by decide) ?_
           refine w_icmp_ne X0 hx x.toInt 247 rfl (by decide) (dB d3_82) 87 85 (fun c126 => ?_) (fun c126 => ?_)
           ·refine w_iloadN X0 hx x (dB d3_87) 88 rfl rfl ?_
            refine w_sipush X0 hx (dB d3_88) 91 rfl (768 : Int32) (by decide) ?_
            refine w_icmp_lt X0 hx x.toInt 768 rfl (by decide) (dB d3_91) 103 94 (fun c127 => ?_) (fun c127 => ?_)
            ·refine w_iloadN X0 hx x (dB d3_103) 104 rfl rfl ?_
             refine w_sipush X0 hx (dB d3_104) 107 rfl (894 : Int32) (by decide) ?_
             refine w_icmp_ne X0 hx x.toInt 894 rfl (by decide) (dB d3_107) 112 110 (fun c128 => ?_) (fun c128 => ?_)
             ·refine w_iloadN X0 hx x (dB d3_112) 113 rfl rfl ?_
              refine w_sipush X0 hx (dB d3_113) 116 rfl (8192 : Int32) (by decide) ?_
              refine w_icmp_lt X0 hx x.toInt 8192 rfl (by decide) (dB d3_116) 128 119 (fun c129 => ?_) (fun c129 => ?_)
              ·refine w_iloadN X0 hx x (dB d3_128) 129 rfl rfl ?_
               refine w_sipush X0 hx (dB d3_129) 132 rfl (8206 : Int32) (by decide) ?_
               refine w_icmp_lt X0 hx x.toInt 8206 rfl (by decide) (dB d3_132) 144 135 (fun c130 => ?_) (fun c130 => ?_)
               ·refine w_iloadN X0 hx x (dB d3_144) 145 rfl rfl ?_
                refine w_sipush X0 hx (dB d3_145) 148 rfl (8592 : Int32) (by decide) ?_
                refine w_icmp_lt X0 hx x.toInt 8592 rfl (by decide) (dB d3_148) 160 151 (fun c131 => ?_) (fun c131 => ?_)
                ·refine w_iloadN X0 hx x (dB d3_160) 161 rfl rfl ?_
                 refine w_sipush X0 hx (dB d3_161) 164 rfl (12272 : Int32) (by decide) ?_
                 refine w_icmp_lt X0 hx x.toInt 12272 rfl (by decide) (dB d3_164) 176 167 (fun c132 => ?_) (fun c132 => ?_)
                 ·refine w_iloadN X0 hx x (dB d3_176) 177 rfl rfl ?_
                  refine w_ldc X0 hx hZ hown (tw_23 hw) (dB d3_177) 179 rfl ?_
                  refine w_icmp_lt X0 hx x.toInt 55296 rfl (by decide) (dB d3_179) 190 182 (fun c133 => ?_) (fun c133 => ?_)
                  ·refine w_iloadN X0 hx x (dB d3_190) 191 rfl rfl ?_
                   refine w_ldc X0 hx hZ hown (tw_24 hw) (dB d3_191) 193 rfl ?_
                   refine w_icmp_lt X0 hx x.toInt 64976 rfl (by decide) (dB d3_193) 204 196 (fun c134 => ?_) (fun c134 => ?_)
                   ·refine w_iloadN X0 hx x (dB d3_204) 205 rfl rfl ?_
                    refine w_ldc X0 hx hZ hown (tw_25 hw) (dB d3_205) 207 rfl ?_
                    refine w_icmp_lt X0 hx x.toInt 65534 rfl (by decide) (dB d3_207) 218 210 (fun c135 => ?_) (fun c135 => ?_)
                    ·refine w_iconst X0 hx (dB d3_218) 219 rfl (1 : Int32) (by decide) ?_
                     refine w_retN X0 hx hlk (t := .boolean) hret (by simp) (dB d3_219) (by decide) (by decide) ?_
                     rw [e0]
                     exact ⟨(1 : Int32), rfl, by have hz : (1 : Int32).toInt = 1 := (by decide); have q : own_b ((97 ≤ x.toInt ∧ x.toInt ≤ 122) ∨ (65 ≤ x.toInt ∧ x.toInt ≤ 90) ∨ (95 ≤ x.toInt ∧ x.toInt ≤ 95) ∨ (58 ≤ x.toInt ∧ x.toInt ≤ 58) ∨ (192 ≤ x.toInt ∧ x.toInt ≤ 214) ∨ (216 ≤ x.toInt ∧ x.toInt ≤ 246) ∨ (248 ≤ x.toInt ∧ x.toInt ≤ 767) ∨ (880 ≤ x.toInt ∧ x.toInt ≤ 893) ∨ (895 ≤ x.toInt ∧ x.toInt ≤ 8191) ∨ (8204 ≤ x.toInt ∧ x.toInt ≤ 8205) ∨ (8304 ≤ x.toInt ∧ x.toInt ≤ 8591) ∨ (11264 ≤ x.toInt ∧ x.toInt ≤ 12271) ∨ (12289 ≤ x.toInt ∧ x.toInt ≤ 55295) ∨ (63744 ≤ x.toInt ∧ x.toInt ≤ 64975) ∨ (65008 ≤ x.toInt ∧ x.toInt ≤ 65533) ∨ (65536 ≤ x.toInt ∧ x.toInt ≤ 983039)) = 1 := own_b_pos (by omega); refine ⟨?_, ?_, ?_⟩ <;> omega, N0, rfl⟩
                    ·exfalso; omega
                   ·exfalso; omega
                  ·exfalso; omega
                 ·exfalso; omega
                ·exfalso; omega
               ·exfalso; omega
              ·exfalso; omega
             ·exfalso; omega
            ·exfalso; omega
           ·exfalso; omega
         ·exfalso; omega
        ·exfalso; omega
       ·refine w_iloadN X0 hx x (dB d3_40) 41 rfl rfl ?_
        refine w_bipush X0 hx (dB d3_41) 43 rfl (94 : Int32) (by decide) ?_
        refine w_icmp_gt X0 hx x.toInt 94 rfl (by decide) (dB d3_43) 48 46 (fun c136 => ?_) (fun c136 => ?_)
        ·refine w_iloadN X0 hx x (dB d3_48) 49 rfl rfl ?_
         refine w_bipush X0 hx (dB d3_49) 51 rfl (96 : Int32) (by decide) ?_
         refine w_icmp_ne X0 hx x.toInt 96 rfl (by decide) (dB d3_51) 56 54 (fun c137 => ?_) (fun c137 => ?_)
         ·refine w_iloadN X0 hx x (dB d3_56) 57 rfl rfl ?_
          refine w_bipush X0 hx (dB d3_57) 59 rfl (123 : Int32) (by decide) ?_
          refine w_icmp_lt X0 hx x.toInt 123 rfl (by decide) (dB d3_59) 71 62 (fun c138 => ?_) (fun c138 => ?_)
          ·refine w_iloadN X0 hx x (dB d3_71) 72 rfl rfl ?_
           refine w_sipush X0 hx (dB d3_72) 75 rfl (215 : Int32) (by decide) ?_
           refine w_icmp_eq X0 hx x.toInt 215 rfl (by decide) (dB d3_75) 85 78 (fun c139 => ?_) (fun c139 => ?_)
           ·exfalso; omega
           ·refine w_iloadN X0 hx x (dB d3_78) 79 rfl rfl ?_
            refine w_sipush X0 hx (dB d3_79) 82 rfl (247 : Int32) (by decide) ?_
            refine w_icmp_ne X0 hx x.toInt 247 rfl (by decide) (dB d3_82) 87 85 (fun c140 => ?_) (fun c140 => ?_)
            ·refine w_iloadN X0 hx x (dB d3_87) 88 rfl rfl ?_
             refine w_sipush X0 hx (dB d3_88) 91 rfl (768 : Int32) (by decide) ?_
             refine w_icmp_lt X0 hx x.toInt 768 rfl (by decide) (dB d3_91) 103 94 (fun c141 => ?_) (fun c141 => ?_)
             ·refine w_iloadN X0 hx x (dB d3_103) 104 rfl rfl ?_
              refine w_sipush X0 hx (dB d3_104) 107 rfl (894 : Int32) (by decide) ?_
              refine w_icmp_ne X0 hx x.toInt 894 rfl (by decide) (dB d3_107) 112 110 (fun c142 => ?_) (fun c142 => ?_)
              ·refine w_iloadN X0 hx x (dB d3_112) 113 rfl rfl ?_
               refine w_sipush X0 hx (dB d3_113) 116 rfl (8192 : Int32) (by decide) ?_
               refine w_icmp_lt X0 hx x.toInt 8192 rfl (by decide) (dB d3_116) 128 119 (fun c143 => ?_) (fun c143 => ?_)
               ·refine w_iloadN X0 hx x (dB d3_128) 129 rfl rfl ?_
                refine w_sipush X0 hx (dB d3_129) 132 rfl (8206 : Int32) (by decide) ?_
                refine w_icmp_lt X0 hx x.toInt 8206 rfl (by decide) (dB d3_132) 144 135 (fun c144 => ?_) (fun c144 => ?_)
                ·refine w_iloadN X0 hx x (dB d3_144) 145 rfl rfl ?_
                 refine w_sipush X0 hx (dB d3_145) 148 rfl (8592 : Int32) (by decide) ?_
                 refine w_icmp_lt X0 hx x.toInt 8592 rfl (by decide) (dB d3_148) 160 151 (fun c145 => ?_) (fun c145 => ?_)
                 ·refine w_iloadN X0 hx x (dB d3_160) 161 rfl rfl ?_
                  refine w_sipush X0 hx (dB d3_161) 164 rfl (12272 : Int32) (by decide) ?_
                  refine w_icmp_lt X0 hx x.toInt 12272 rfl (by decide) (dB d3_164) 176 167 (fun c146 => ?_) (fun c146 => ?_)
                  ·refine w_iloadN X0 hx x (dB d3_176) 177 rfl rfl ?_
                   refine w_ldc X0 hx hZ hown (tw_23 hw) (dB d3_177) 179 rfl ?_
                   refine w_icmp_lt X0 hx x.toInt 55296 rfl (by decide) (dB d3_179) 190 182 (fun c147 => ?_) (fun c147 => ?_)
                   ·refine w_iloadN X0 hx x (dB d3_190) 191 rfl rfl ?_
                    refine w_ldc X0 hx hZ hown (tw_24 hw) (dB d3_191) 193 rfl ?_
                    refine w_icmp_lt X0 hx x.toInt 64976 rfl (by decide) (dB d3_193) 204 196 (fun c148 => ?_) (fun c148 => ?_)
                    ·refine w_iloadN X0 hx x (dB d3_204) 205 rfl rfl ?_
                     refine w_ldc X0 hx hZ hown (tw_25 hw) (dB d3_205) 207 rfl ?_
                     refine w_icmp_lt X0 hx x.toInt 65534 rfl (by decide) (dB d3_207) 218 210 (fun c149 => ?_) (fun c149 => ?_)
                     ·refine w_iconst X0 hx (dB d3_218) 219 rfl (1 : Int32) (by decide) ?_
                      refine w_retN X0 hx hlk (t := .boolean) hret (by simp) (dB d3_219) (by decide) (by decide) ?_
                      rw [e0]
                      exact ⟨(1 : Int32), rfl, by have hz : (1 : Int32).toInt = 1 := (by decide); have q : own_b ((97 ≤ x.toInt ∧ x.toInt ≤ 122) ∨ (65 ≤ x.toInt ∧ x.toInt ≤ 90) ∨ (95 ≤ x.toInt ∧ x.toInt ≤ 95) ∨ (58 ≤ x.toInt ∧ x.toInt ≤ 58) ∨ (192 ≤ x.toInt ∧ x.toInt ≤ 214) ∨ (216 ≤ x.toInt ∧ x.toInt ≤ 246) ∨ (248 ≤ x.toInt ∧ x.toInt ≤ 767) ∨ (880 ≤ x.toInt ∧ x.toInt ≤ 893) ∨ (895 ≤ x.toInt ∧ x.toInt ≤ 8191) ∨ (8204 ≤ x.toInt ∧ x.toInt ≤ 8205) ∨ (8304 ≤ x.toInt ∧ x.toInt ≤ 8591) ∨ (11264 ≤ x.toInt ∧ x.toInt ≤ 12271) ∨ (12289 ≤ x.toInt ∧ x.toInt ≤ 55295) ∨ (63744 ≤ x.toInt ∧ x.toInt ≤ 64975) ∨ (65008 ≤ x.toInt ∧ x.toInt ≤ 65533) ∨ (65536 ≤ x.toInt ∧ x.toInt ≤ 983039)) = 1 := own_b_pos (by omega); refine ⟨?_, ?_, ?_⟩ <;> omega, N0, rfl⟩
                     ·exfalso; omega
                    ·exfalso; omega
                   ·exfalso; omega
                  ·exfalso; omega
                 ·exfalso; omega
                ·exfalso; omega
               ·exfalso; omega
              ·exfalso; omega
             ·exfalso; omega
            ·exfalso; omega
          ·refine w_iloadN X0 hx x (dB d3_62) 63 rfl rfl ?_
           refine w_sipush X0 hx (dB d3_63) 66 rfl (191 : Int32) (by decide) ?_
           refine w_icmp_gt X0 hx x.toInt 191 rfl (by decide) (dB d3_66) 71 69 (fun c150 => ?_) (fun c150 => ?_)
           ·refine w_iloadN X0 hx x (dB d3_71) 72 rfl rfl ?_
            refine w_sipush X0 hx (dB d3_72) 75 rfl (215 : Int32) (by decide) ?_
            refine w_icmp_eq X0 hx x.toInt 215 rfl (by decide) (dB d3_75) 85 78 (fun c151 => ?_) (fun c151 => ?_)
            ·refine w_iconst X0 hx (dB d3_85) 86 rfl (0 : Int32) (by decide) ?_
             refine w_retN X0 hx hlk (t := .boolean) hret (by simp) (dB d3_86) (by decide) (by decide) ?_
             rw [e0]
             exact ⟨(0 : Int32), rfl, by have hz : (0 : Int32).toInt = 0 := (by decide); have q : own_b ((97 ≤ x.toInt ∧ x.toInt ≤ 122) ∨ (65 ≤ x.toInt ∧ x.toInt ≤ 90) ∨ (95 ≤ x.toInt ∧ x.toInt ≤ 95) ∨ (58 ≤ x.toInt ∧ x.toInt ≤ 58) ∨ (192 ≤ x.toInt ∧ x.toInt ≤ 214) ∨ (216 ≤ x.toInt ∧ x.toInt ≤ 246) ∨ (248 ≤ x.toInt ∧ x.toInt ≤ 767) ∨ (880 ≤ x.toInt ∧ x.toInt ≤ 893) ∨ (895 ≤ x.toInt ∧ x.toInt ≤ 8191) ∨ (8204 ≤ x.toInt ∧ x.toInt ≤ 8205) ∨ (8304 ≤ x.toInt ∧ x.toInt ≤ 8591) ∨ (11264 ≤ x.toInt ∧ x.toInt ≤ 12271) ∨ (12289 ≤ x.toInt ∧ x.toInt ≤ 55295) ∨ (63744 ≤ x.toInt ∧ x.toInt ≤ 64975) ∨ (65008 ≤ x.toInt ∧ x.toInt ≤ 65533) ∨ (65536 ≤ x.toInt ∧ x.toInt ≤ 983039)) = 0 := own_b_neg (by omega); refine ⟨?_, ?_, ?_⟩ <;> omega, N0, rfl⟩
            ·refine w_iloadN X0 hx x (dB d3_78) 79 rfl rfl ?_
             refine w_sipush X0 hx (dB d3_79) 82 rfl (247 : Int32) (by decide) ?_
             refine w_icmp_ne X0 hx x.toInt 247 rfl (by decide) (dB d3_82) 87 85 (fun c152 => ?_) (fun c152 => ?_)
             ·refine w_iloadN X0 hx x (dB d3_87) 88 rfl rfl ?_
              refine w_sipush X0 hx (dB d3_88) 91 rfl (768 : Int32) (by decide) ?_
              refine w_icmp_lt X0 hx x.toInt 768 rfl (by decide) (dB d3_91) 103 94 (fun c153 => ?_) (fun c153 => ?_)
              ·refine w_iloadN X0 hx x (dB d3_103) 104 rfl rfl ?_
               refine w_sipush X0 hx (dB d3_104) 107 rfl (894 : Int32) (by decide) ?_
               refine w_icmp_ne X0 hx x.toInt 894 rfl (by decide) (dB d3_107) 112 110 (fun c154 => ?_) (fun c154 => ?_)
               ·refine w_iloadN X0 hx x (dB d3_112) 113 rfl rfl ?_
                refine w_sipush X0 hx (dB d3_113) 116 rfl (8192 : Int32) (by decide) ?_
                refine w_icmp_lt X0 hx x.toInt 8192 rfl (by decide) (dB d3_116) 128 119 (fun c155 => ?_) (fun c155 => ?_)
                ·refine w_iloadN X0 hx x (dB d3_128) 129 rfl rfl ?_
                 refine w_sipush X0 hx (dB d3_129) 132 rfl (8206 : Int32) (by decide) ?_
                 refine w_icmp_lt X0 hx x.toInt 8206 rfl (by decide) (dB d3_132) 144 135 (fun c156 => ?_) (fun c156 => ?_)
                 ·refine w_iloadN X0 hx x (dB d3_144) 145 rfl rfl ?_
                  refine w_sipush X0 hx (dB d3_145) 148 rfl (8592 : Int32) (by decide) ?_
                  refine w_icmp_lt X0 hx x.toInt 8592 rfl (by decide) (dB d3_148) 160 151 (fun c157 => ?_) (fun c157 => ?_)
                  ·refine w_iloadN X0 hx x (dB d3_160) 161 rfl rfl ?_
                   refine w_sipush X0 hx (dB d3_161) 164 rfl (12272 : Int32) (by decide) ?_
                   refine w_icmp_lt X0 hx x.toInt 12272 rfl (by decide) (dB d3_164) 176 167 (fun c158 => ?_) (fun c158 => ?_)
                   ·refine w_iloadN X0 hx x (dB d3_176) 177 rfl rfl ?_
                    refine w_ldc X0 hx hZ hown (tw_23 hw) (dB d3_177) 179 rfl ?_
                    refine w_icmp_lt X0 hx x.toInt 55296 rfl (by decide) (dB d3_179) 190 182 (fun c159 => ?_) (fun c159 => ?_)
                    ·refine w_iloadN X0 hx x (dB d3_190) 191 rfl rfl ?_
                     refine w_ldc X0 hx hZ hown (tw_24 hw) (dB d3_191) 193 rfl ?_
                     refine w_icmp_lt X0 hx x.toInt 64976 rfl (by decide) (dB d3_193) 204 196 (fun c160 => ?_) (fun c160 => ?_)
                     ·refine w_iloadN X0 hx x (dB d3_204) 205 rfl rfl ?_
                      refine w_ldc X0 hx hZ hown (tw_25 hw) (dB d3_205) 207 rfl ?_
                      refine w_icmp_lt X0 hx x.toInt 65534 rfl (by decide) (dB d3_207) 218 210 (fun c161 => ?_) (fun c161 => ?_)
                      ·refine w_iconst X0 hx (dB d3_218) 219 rfl (1 : Int32) (by decide) ?_
                       refine w_retN X0 hx hlk (t := .boolean) hret (by simp) (dB d3_219) (by decide) (by decide) ?_
                       rw [e0]
                       exact ⟨(1 : Int32), rfl, by have hz : (1 : Int32).toInt = 1 := (by decide); have q : own_b ((97 ≤ x.toInt ∧ x.toInt ≤ 122) ∨ (65 ≤ x.toInt ∧ x.toInt ≤ 90) ∨ (95 ≤ x.toInt ∧ x.toInt ≤ 95) ∨ (58 ≤ x.toInt ∧ x.toInt ≤ 58) ∨ (192 ≤ x.toInt ∧ x.toInt ≤ 214) ∨ (216 ≤ x.toInt ∧ x.toInt ≤ 246) ∨ (248 ≤ x.toInt ∧ x.toInt ≤ 767) ∨ (880 ≤ x.toInt ∧ x.toInt ≤ 893) ∨ (895 ≤ x.toInt ∧ x.toInt ≤ 8191) ∨ (8204 ≤ x.toInt ∧ x.toInt ≤ 8205) ∨ (8304 ≤ x.toInt ∧ x.toInt ≤ 8591) ∨ (11264 ≤ x.toInt ∧ x.toInt ≤ 12271) ∨ (12289 ≤ x.toInt ∧ x.toInt ≤ 55295) ∨ (63744 ≤ x.toInt ∧ x.toInt ≤ 64975) ∨ (65008 ≤ x.toInt ∧ x.toInt ≤ 65533) ∨ (65536 ≤ x.toInt ∧ x.toInt ≤ 983039)) = 1 := own_b_pos (by omega); refine ⟨?_, ?_, ?_⟩ <;> omega, N0, rfl⟩
                      ·exfalso; omega
                     ·exfalso; omega
                    ·exfalso; omega
                   ·exfalso; omega
                  ·exfalso; omega
                 ·exfalso; omega
                ·exfalso; omega
               ·exfalso; omega
              ·refine w_iloadN X0 hx x (dB d3_94) 95 rfl rfl ?_
               refine w_sipush X0 hx (dB d3_95) 98 rfl (879 : Int32) (by decide) ?_
               refine w_icmp_gt X0 hx x.toInt 879 rfl (by decide) (dB d3_98) 103 101 (fun c162 => ?_) (fun c162 => ?_)
               ·refine w_iloadN X0 hx x (dB d3_103) 104 rfl rfl ?_
                refine w_sipush X0 hx (dB d3_104) 107 rfl (894 : Int32) (by decide) ?_
                refine w_icmp_ne X0 hx x.toInt 894 rfl (by decide) (dB d3_107) 112 110 (fun c163 => ?_) (fun c163 => ?_)
                ·refine w_iloadN X0 hx x (dB d3_112) 113 rfl rfl ?_
                 refine w_sipush X0 hx (dB d3_113) 116 rfl (8192 : Int32) (by decide) ?_
                 refine w_icmp_lt X0 hx x.toInt 8192 rfl (by decide) (dB d3_116) 128 119 (fun c164 => ?_) (fun c164 => ?_)
                 ·refine w_iloadN X0 hx x (dB d3_128) 129 rfl rfl ?_
                  refine w_sipush X0 hx (dB d3_129) 132 rfl (8206 : Int32) (by decide) ?_
                  refine w_icmp_lt X0 hx x.toInt 8206 rfl (by decide) (dB d3_132) 144 135 (fun c165 => ?_) (fun c165 => ?_)
                  ·refine w_iloadN X0 hx x (dB d3_144) 145 rfl rfl ?_
                   refine w_sipush X0 hx (dB d3_145) 148 rfl (8592 : Int32) (by decide) ?_
                   refine w_icmp_lt X0 hx x.toInt 8592 rfl (by decide) (dB d3_148) 160 151 (fun c166 => ?_) (fun c166 => ?_)
                   ·refine w_iloadN X0 hx x (dB d3_160) 161 rfl rfl ?_
                    refine w_sipush X0 hx (dB d3_161) 164 rfl (12272 : Int32) (by decide) ?_
                    refine w_icmp_lt X0 hx x.toInt 12272 rfl (by decide) (dB d3_164) 176 167 (fun c167 => ?_) (fun c167 => ?_)
                    ·refine w_iloadN X0 hx x (dB d3_176) 177 rfl rfl ?_
                     refine w_ldc X0 hx hZ hown (tw_23 hw) (dB d3_177) 179 rfl ?_
                     refine w_icmp_lt X0 hx x.toInt 55296 rfl (by decide) (dB d3_179) 190 182 (fun c168 => ?_) (fun c168 => ?_)
                     ·refine w_iloadN X0 hx x (dB d3_190) 191 rfl rfl ?_
                      refine w_ldc X0 hx hZ hown (tw_24 hw) (dB d3_191) 193 rfl ?_
                      refine w_icmp_lt X0 hx x.toInt 64976 rfl (by decide) (dB d3_193) 204 196 (fun c169 => ?_) (fun c169 => ?_)
                      ·refine w_iloadN X0 hx x (dB d3_204) 205 rfl rfl ?_
                       refine w_ldc X0 hx hZ hown (tw_25 hw) (dB d3_205) 207 rfl ?_
                       refine w_icmp_lt X0 hx x.toInt 65534 rfl (by decide) (dB d3_207) 218 210 (fun c170 => ?_) (fun c170 => ?_)
                       ·refine w_iconst X0 hx (dB d3_218) 219 rfl (1 : Int32) (by decide) ?_
                        refine w_retN X0 hx hlk (t := .boolean) hret (by simp) (dB d3_219) (by decide) (by decide) ?_
                        rw [e0]
                        exact ⟨(1 : Int32), rfl, by have hz : (1 : Int32).toInt = 1 := (by decide); have q : own_b ((97 ≤ x.toInt ∧ x.toInt ≤ 122) ∨ (65 ≤ x.toInt ∧ x.toInt ≤ 90) ∨ (95 ≤ x.toInt ∧ x.toInt ≤ 95) ∨ (58 ≤ x.toInt ∧ x.toInt ≤ 58) ∨ (192 ≤ x.toInt ∧ x.toInt ≤ 214) ∨ (216 ≤ x.toInt ∧ x.toInt ≤ 246) ∨ (248 ≤ x.toInt ∧ x.toInt ≤ 767) ∨ (880 ≤ x.toInt ∧ x.toInt ≤ 893) ∨ (895 ≤ x.toInt ∧ x.toInt ≤ 8191) ∨ (8204 ≤ x.toInt ∧ x.toInt ≤ 8205) ∨ (8304 ≤ x.toInt ∧ x.toInt ≤ 8591) ∨ (11264 ≤ x.toInt ∧ x.toInt ≤ 12271) ∨ (12289 ≤ x.toInt ∧ x.toInt ≤ 55295) ∨ (63744 ≤ x.toInt ∧ x.toInt ≤ 64975) ∨ (65008 ≤ x.toInt ∧ x.toInt ≤ 65533) ∨ (65536 ≤ x.toInt ∧ x.toInt ≤ 983039)) = 1 := own_b_pos (by omega); refine ⟨?_, ?_, ?_⟩ <;> omega, N0, rfl⟩
                       ·exfalso; omega
                      ·exfalso; omega
                     ·exfalso; omega
                    ·exfalso; omega
                   ·exfalso; omega
                  ·exfalso; omega
                 ·refine w_iloadN X0 hx x (dB d3_119) 120 rfl rfl ?_
                  refine w_sipush X0 hx (dB d3_120) 123 rfl (8203 : Int32) (by decide) ?_
                  refine w_icmp_gt X0 hx x.toInt 8203 rfl (by decide) (dB d3_123) 128 126 (fun c171 => ?_) (fun c171 => ?_)
                  ·refine w_iloadN X0 hx x (dB d3_128) 129 rfl rfl ?_
                   refine w_sipush X0 hx (dB d3_129) 132 rfl (8206 : Int32) (by decide) ?_
                   refine w_icmp_lt X0 hx x.toInt 8206 rfl (by decide) (dB d3_132) 144 135 (fun c172 => ?_) (fun c172 => ?_)
                   ·refine w_iloadN X0 hx x (dB d3_144) 145 rfl rfl ?_
                    refine w_sipush X0 hx (dB d3_145) 148 rfl (8592 : Int32) (by decide) ?_
                    refine w_icmp_lt X0 hx x.toInt 8592 rfl (by decide) (dB d3_148) 160 151 (fun c173 => ?_) (fun c173 => ?_)
                    ·refine w_iloadN X0 hx x (dB d3_160) 161 rfl rfl ?_
                     refine w_sipush X0 hx (dB d3_161) 164 rfl (12272 : Int32) (by decide) ?_
                     refine w_icmp_lt X0 hx x.toInt 12272 rfl (by decide) (dB d3_164) 176 167 (fun c174 => ?_) (fun c174 => ?_)
                     ·refine w_iloadN X0 hx x (dB d3_176) 177 rfl rfl ?_
                      refine w_ldc X0 hx hZ hown (tw_23 hw) (dB d3_177) 179 rfl ?_
                      refine w_icmp_lt X0 hx x.toInt 55296 rfl (by decide) (dB d3_179) 190 182 (fun c175 => ?_) (fun c175 => ?_)
                      ·refine w_iloadN X0 hx x (dB d3_190) 191 rfl rfl ?_
                       refine w_ldc X0 hx hZ hown (tw_24 hw) (dB d3_191) 193 rfl ?_
                       refine w_icmp_lt X0 hx x.toInt 64976 rfl (by decide) (dB d3_193) 204 196 (fun c176 => ?_) (fun c176 => ?_)
                       ·refine w_iloadN X0 hx x (dB d3_204) 205 rfl rfl ?_
                        refine w_ldc X0 hx hZ hown (tw_25 hw) (dB d3_205) 207 rfl ?_
                        refine w_icmp_lt X0 hx x.toInt 65534 rfl (by decide) (dB d3_207) 218 210 (fun c177 => ?_) (fun c177 => ?_)
                        ·refine w_iconst X0 hx (dB d3_218) 219 rfl (1 : Int32) (by decide) ?_
                         refine w_retN X0 hx hlk (t := .boolean) hret (by simp) (dB d3_219) (by decide) (by decide) ?_
                         rw [e0]
                         exact ⟨(1 : Int32), rfl, by have hz : (1 : Int32).toInt = 1 := (by decide); have q : own_b ((97 ≤ x.toInt ∧ x.toInt ≤ 122) ∨ (65 ≤ x.toInt ∧ x.toInt ≤ 90) ∨ (95 ≤ x.toInt ∧ x.toInt ≤ 95) ∨ (58 ≤ x.toInt ∧ x.toInt ≤ 58) ∨ (192 ≤ x.toInt ∧ x.toInt ≤ 214) ∨ (216 ≤ x.toInt ∧ x.toInt ≤ 246) ∨ (248 ≤ x.toInt ∧ x.toInt ≤ 767) ∨ (880 ≤ x.toInt ∧ x.toInt ≤ 893) ∨ (895 ≤ x.toInt ∧ x.toInt ≤ 8191) ∨ (8204 ≤ x.toInt ∧ x.toInt ≤ 8205) ∨ (8304 ≤ x.toInt ∧ x.toInt ≤ 8591) ∨ (11264 ≤ x.toInt ∧ x.toInt ≤ 12271) ∨ (12289 ≤ x.toInt ∧ x.toInt ≤ 55295) ∨ (63744 ≤ x.toInt ∧ x.toInt ≤ 64975) ∨ (65008 ≤ x.toInt ∧ x.toInt ≤ 65533) ∨ (65536 ≤ x.toInt ∧ x.toInt ≤ 983039)) = 1 := own_b_pos (by omega); refine ⟨?_, ?_, ?_⟩ <;> omega, N0, rfl⟩
                        ·exfalso; omega
                       ·exfalso; omega
                      ·exfalso; omega
                     ·exfalso; omega
                    ·exfalso; omega
                   ·refine w_iloadN X0 hx x (dB d3_135) 136 rfl rfl ?_
                    refine w_sipush X0 hx (dB d3_136) 139 rfl (8303 : Int32) (by decide) ?_
                    refine w_icmp_gt X0 hx x.toInt 8303 rfl (by decide) (dB d3_139) 144 142 (fun c178 => ?_) (fun c178 => ?_)
                    ·refine w_iloadN X0 hx x (dB d3_144) 145 rfl rfl ?_
                     refine w_sipush X0 hx (dB d3_145) 148 rfl (8592 : Int32) (by decide) ?_
                     refine w_icmp_lt X0 hx x.toInt 8592 rfl (by decide) (dB d3_148) 160 151 (fun c179 => ?_) (fun c179 => ?_)
                     ·refine w_iloadN X0 hx x (dB d3_160) 161 rfl rfl ?_
                      refine w_sipush X0 hx (dB d3_161) 164 rfl (12272 : Int32) (by decide) ?_
                      refine w_icmp_lt X0 hx x.toInt 12272 rfl (by decide) (dB d3_164) 176 167 (fun c180 => ?_) (fun c180 => ?_)
                      ·refine w_iloadN X0 hx x (dB d3_176) 177 rfl rfl ?_
                       refine w_ldc X0 hx hZ hown (tw_23 hw) (dB d3_177) 179 rfl ?_
                       refine w_icmp_lt X0 hx x.toInt 55296 rfl (by decide) (dB d3_179) 190 182 (fun c181 => ?_) (fun c181 => ?_)
                       ·refine w_iloadN X0 hx x (dB d3_190) 191 rfl rfl ?_
                        refine w_ldc X0 hx hZ hown (tw_24 hw) (dB d3_191) 193 rfl ?_
                        refine w_icmp_lt X0 hx x.toInt 64976 rfl (by decide) (dB d3_193) 204 196 (fun c182 => ?_) (fun c182 => ?_)
                        ·refine w_iloadN X0 hx x (dB d3_204) 205 rfl rfl ?_
                         refine w_ldc X0 hx hZ hown (tw_25 hw) (dB d3_205) 207 rfl ?_
                         refine w_icmp_lt X0 hx x.toInt 65534 rfl (by decide) (dB d3_207) 218 210 (fun c183 => ?_) (fun c183 => ?_)
                         ·refine w_iconst X0 hx (dB d3_218) 219 rfl (1 : Int32) (by decide) ?_
                          refine w_retN X0 hx hlk (t := .boolean) hret (by simp) (dB d3_219) (by decide) (by decide) ?_
                          rw [e0]
                          exact ⟨(1 : Int32), rfl, by have hz : (1 : Int32).toInt = 1 := (by decide); have q : own_b ((97 ≤ x.toInt ∧ x.toInt ≤ 122) ∨ (65 ≤ x.toInt ∧ x.toInt ≤ 90) ∨ (95 ≤ x.toInt ∧ x.toInt ≤ 95) ∨ (58 ≤ x.toInt ∧ x.toInt ≤ 58) ∨ (192 ≤ x.toInt ∧ x.toInt ≤ 214) ∨ (216 ≤ x.toInt ∧ x.toInt ≤ 246) ∨ (248 ≤ x.toInt ∧ x.toInt ≤ 767) ∨ (880 ≤ x.toInt ∧ x.toInt ≤ 893) ∨ (895 ≤ x.toInt ∧ x.toInt ≤ 8191) ∨ (8204 ≤ x.toInt ∧ x.toInt ≤ 8205) ∨ (8304 ≤ x.toInt ∧ x.toInt ≤ 8591) ∨ (11264 ≤ x.toInt ∧ x.toInt ≤ 12271) ∨ (12289 ≤ x.toInt ∧ x.toInt ≤ 55295) ∨ (63744 ≤ x.toInt ∧ x.toInt ≤ 64975) ∨ (65008 ≤ x.toInt ∧ x.toInt ≤ 65533) ∨ (65536 ≤ x.toInt ∧ x.toInt ≤ 983039)) = 1 := own_b_pos (by omega); refine ⟨?_, ?_, ?_⟩ <;> omega, N0, rfl⟩
                         ·exfalso; omega
                        ·exfalso; omega
                       ·exfalso; omega
                      ·exfalso; omega
                     ·refine w_iloadN X0 hx x (dB d3_151) 152 rfl rfl ?_
                      refine w_sipush X0 hx (dB d3_152) 155 rfl (11263 : Int32) (by decide) ?_
                      refine w_icmp_gt X0 hx x.toInt 11263 rfl (by decide) (dB d3_155) 160 158 (fun c184 => ?_) (fun c184 => ?_)
                      ·refine w_iloadN X0 hx x (dB d3_160) 161 rfl rfl ?_
                       refine w_sipush X0 hx (dB d3_161) 164 rfl (12272 : Int32) (by decide) ?_
                       refine w_icmp_lt X0 hx x.toInt 12272 rfl (by decide) (dB d3_164) 176 167 (fun c185 => ?_) (fun c185 => ?_)
                       ·refine w_iloadN X0 hx x (dB d3_176) 177 rfl rfl ?_
                        refine w_ldc X0 hx hZ hown (tw_23 hw) (dB d3_177) 179 rfl ?_
                        refine w_icmp_lt X0 hx x.toInt 55296 rfl (by decide) (dB d3_179) 190 182 (fun c186 => ?_) (fun c186 => ?_)
                        ·refine w_iloadN X0 hx x (dB d3_190) 191 rfl rfl ?_
                         refine w_ldc X0 hx hZ hown (tw_24 hw) (dB d3_191) 193 rfl ?_
                         refine w_icmp_lt X0 hx x.toInt 64976 rfl (by decide) (dB d3_193) 204 196 (fun c187 => ?_) (fun c187 => ?_)
                         ·refine w_iloadN X0 hx x (dB d3_204) 205 rfl rfl ?_
                          refine w_ldc X0 hx hZ hown (tw_25 hw) (dB d3_205) 207 rfl ?_
                          refine w_icmp_lt X0 hx x.toInt 65534 rfl (by decide) (dB d3_207) 218 210 (fun c188 => ?_) (fun c188 => ?_)
                          ·refine w_iconst X0 hx (dB d3_218) 219 rfl (1 : Int32) (by decide) ?_
                           refine w_retN X0 hx hlk (t := .boolean) hret (by simp) (dB d3_219) (by decide) (by decide) ?_
                           rw [e0]
                           exact ⟨(1 : Int32), rfl, by have hz : (1 : Int32).toInt = 1 := (by decide); have q : own_b ((97 ≤ x.toInt ∧ x.toInt ≤ 122) ∨ (65 ≤ x.toInt ∧ x.toInt ≤ 90) ∨ (95 ≤ x.toInt ∧ x.toInt ≤ 95) ∨ (58 ≤ x.toInt ∧ x.toInt ≤ 58) ∨ (192 ≤ x.toInt ∧ x.toInt ≤ 214) ∨ (216 ≤ x.toInt ∧ x.toInt ≤ 246) ∨ (248 ≤ x.toInt ∧ x.toInt ≤ 767) ∨ (880 ≤ x.toInt ∧ x.toInt ≤ 893) ∨ (895 ≤ x.toInt ∧ x.toInt ≤ 8191) ∨ (8204 ≤ x.toInt ∧ x.toInt ≤ 8205) ∨ (8304 ≤ x.toInt ∧ x.toInt ≤ 8591) ∨ (11264 ≤ x.toInt ∧ x.toInt ≤ 12271) ∨ (12289 ≤ x.toInt ∧ x.toInt ≤ 55295) ∨ (63744 ≤ x.toInt ∧ x.toInt ≤ 64975) ∨ (65008 ≤ x.toInt ∧ x.toInt ≤ 65533) ∨ (65536 ≤ x.toInt ∧ x.toInt ≤ 983039)) = 1 := own_b_pos (by omega); refine ⟨?_, ?_, ?_⟩ <;> omega, N0, rfl⟩
                          ·exfalso; omega
                         ·exfalso; omega
                        ·exfalso; omega
                       ·refine w_iloadN X0 hx x (dB d3_167) 168 rfl rfl ?_
                        refine w_sipush X0 hx (dB d3_168) 171 rfl (12288 : Int32) (by decide) ?_
                        refine w_icmp_gt X0 hx x.toInt 12288 rfl (by decide) (dB d3_171) 176 174 (fun c189 => ?_) (fun c189 => ?_)
                        ·refine w_iloadN X0 hx x (dB d3_176) 177 rfl rfl ?_
                         refine w_ldc X0 hx hZ hown (tw_23 hw) (dB d3_177) 179 rfl ?_
                         refine w_icmp_lt X0 hx x.toInt 55296 rfl (by decide) (dB d3_179) 190 182 (fun c190 => ?_) (fun c190 => ?_)
                         ·refine w_iloadN X0 hx x (dB d3_190) 191 rfl rfl ?_
                          refine w_ldc X0 hx hZ hown (tw_24 hw) (dB d3_191) 193 rfl ?_
                          refine w_icmp_lt X0 hx x.toInt 64976 rfl (by decide) (dB d3_193) 204 196 (fun c191 => ?_) (fun c191 => ?_)
                          ·refine w_iloadN X0 hx x (dB d3_204) 205 rfl rfl ?_
                           refine w_ldc X0 hx hZ hown (tw_25 hw) (dB d3_205) 207 rfl ?_
                           refine w_icmp_lt X0 hx x.toInt 65534 rfl (by decide) (dB d3_207) 218 210 (fun c192 => ?_) (fun c192 => ?_)
                           ·refine w_iconst X0 hx (dB d3_218) 219 rfl (1 : Int32) (by decide) ?_
                            refine w_retN X0 hx hlk (t := .boolean) hret (by simp) (dB d3_219) (by decide) (by decide) ?_
                            rw [e0]
                            exact ⟨(1 : Int32), rfl, by have hz : (1 : Int32).toInt = 1 := (by decide); have q : own_b ((97 ≤ x.toInt ∧ x.toInt ≤ 122) ∨ (65 ≤ x.toInt ∧ x.toInt ≤ 90) ∨ (95 ≤ x.toInt ∧ x.toInt ≤ 95) ∨ (58 ≤ x.toInt ∧ x.toInt ≤ 58) ∨ (192 ≤ x.toInt ∧ x.toInt ≤ 214) ∨ (216 ≤ x.toInt ∧ x.toInt ≤ 246) ∨ (248 ≤ x.toInt ∧ x.toInt ≤ 767) ∨ (880 ≤ x.toInt ∧ x.toInt ≤ 893) ∨ (895 ≤ x.toInt ∧ x.toInt ≤ 8191) ∨ (8204 ≤ x.toInt ∧ x.toInt ≤ 8205) ∨ (8304 ≤ x.toInt ∧ x.toInt ≤ 8591) ∨ (11264 ≤ x.toInt ∧ x.toInt ≤ 12271) ∨ (12289 ≤ x.toInt ∧ x.toInt ≤ 55295) ∨ (63744 ≤ x.toInt ∧ x.toInt ≤ 64975) ∨ (65008 ≤ x.toInt ∧ x.toInt ≤ 65533) ∨ (65536 ≤ x.toInt ∧ x.toInt ≤ 983039)) = 1 := own_b_pos (by omega); refine ⟨?_, ?_, ?_⟩ <;> omega, N0, rfl⟩
                           ·exfalso; omega
                          ·exfalso; omega
                         ·refine w_iloadN X0 hx x (dB d3_182) 183 rfl rfl ?_
                          refine w_ldc X0 hx hZ hown (tw_33 hw) (dB d3_183) 185 rfl ?_
                          refine w_icmp_gt X0 hx x.toInt 63743 rfl (by decide) (dB d3_185) 190 188 (fun c193 => ?_) (fun c193 => ?_)
                          ·refine w_iloadN X0 hx x (dB d3_190) 191 rfl rfl ?_
                           refine w_ldc X0 hx hZ hown (tw_24 hw) (dB d3_191) 193 rfl ?_
                           refine w_icmp_lt X0 hx x.toInt 64976 rfl (by decide) (dB d3_193) 204 196 (fun c194 => ?_) (fun c194 => ?_)
                           ·refine w_iloadN X0 hx x (dB d3_204) 205 rfl rfl ?_
                            refine w_ldc X0 hx hZ hown (tw_25 hw) (dB d3_205) 207 rfl ?_
                            refine w_icmp_lt X0 hx x.toInt 65534 rfl (by decide) (dB d3_207) 218 210 (fun c195 => ?_) (fun c195 => ?_)
                            ·refine w_iconst X0 hx (dB d3_218) 219 rfl (1 : Int32) (by decide) ?_
                             refine w_retN X0 hx hlk (t := .boolean) hret (by simp) (dB d3_219) (by decide) (by decide) ?_
                             rw [e0]
                             exact ⟨(1 : Int32), rfl, by have hz : (1 : Int32).toInt = 1 := (by decide); have q : own_b ((97 ≤ x.toInt ∧ x.toInt ≤ 122) ∨ (65 ≤ x.toInt ∧ x.toInt ≤ 90) ∨ (95 ≤ x.toInt ∧ x.toInt ≤ 95) ∨ (58 ≤ x.toInt ∧ x.toInt ≤ 58) ∨ (192 ≤ x.toInt ∧ x.toInt ≤ 214) ∨ (216 ≤ x.toInt ∧ x.toInt ≤ 246) ∨ (248 ≤ x.toInt ∧ x.toInt ≤ 767) ∨ (880 ≤ x.toInt ∧ x.toInt ≤ 893) ∨ (895 ≤ x.toInt ∧ x.toInt ≤ 8191) ∨ (8204 ≤ x.toInt ∧ x.toInt ≤ 8205) ∨ (8304 ≤ x.toInt ∧ x.toInt ≤ 8591) ∨ (11264 ≤ x.toInt ∧ x.toInt ≤ 12271) ∨ (12289 ≤ x.toInt ∧ x.toInt ≤ 55295) ∨ (63744 ≤ x.toInt ∧ x.toInt ≤ 64975) ∨ (65008 ≤ x.toInt ∧ x.toInt ≤ 65533) ∨ (65536 ≤ x.toInt ∧ x.toInt ≤ 983039)) = 1 := own_b_pos (by omega); refine ⟨?_, ?_, ?_⟩ <;> omega, N0, rfl⟩
                            ·exfalso; omega
                           ·refine w_iloadN X0 hx x (dB d3_196) 197 rfl rfl ?_
                            refine w_ldc X0 hx hZ hown (tw_34 hw) (dB d3_197) 199 rfl ?_
                            refine w_icmp_gt X0 hx x.toInt 65007 rfl (by decide) (dB d3_199) 204 202 (fun c196 => ?_) (fun c196 => ?_)
                            ·refine w_iloadN X0 hx x (dB d3_204) 205 rfl rfl ?_
                             refine w_ldc X0 hx hZ hown (tw_25 hw) (dB d3_205) 207 rfl ?_
                             refine w_icmp_lt X0 hx x.toInt 65534 rfl (by decide) (dB d3_207) 218 210 (fun c197 => ?_) (fun c197 => ?_)
                             ·refine w_iconst X0 hx (dB d3_218) 219 rfl (1 : Int32) (by decide) ?_
                              refine w_retN X0 hx hlk (t := .boolean) hret (by simp) (dB d3_219) (by decide) (by decide) ?_
                              rw [e0]
                              exact ⟨(1 : Int32), rfl, by have hz : (1 : Int32).toInt = 1 := (by decide); have q : own_b ((97 ≤ x.toInt ∧ x.toInt ≤ 122) ∨ (65 ≤ x.toInt ∧ x.toInt ≤ 90) ∨ (95 ≤ x.toInt ∧ x.toInt ≤ 95) ∨ (58 ≤ x.toInt ∧ x.toInt ≤ 58) ∨ (192 ≤ x.toInt ∧ x.toInt ≤ 214) ∨ (216 ≤ x.toInt ∧ x.toInt ≤ 246) ∨ (248 ≤ x.toInt ∧ x.toInt ≤ 767) ∨ (880 ≤ x.toInt ∧ x.toInt ≤ 893) ∨ (895 ≤ x.toInt ∧ x.toInt ≤ 8191) ∨ (8204 ≤ x.toInt ∧ x.toInt ≤ 8205) ∨ (8304 ≤ x.toInt ∧ x.toInt ≤ 8591) ∨ (11264 ≤ x.toInt ∧ x.toInt ≤ 12271) ∨ (12289 ≤ x.toInt ∧ x.toInt ≤ 55295) ∨ (63744 ≤ x.toInt ∧ x.toInt ≤ 64975) ∨ (65008 ≤ x.toInt ∧ x.toInt ≤ 65533) ∨ (65536 ≤ x.toInt ∧ x.toInt ≤ 983039)) = 1 := own_b_pos (by omega); refine ⟨?_, ?_, ?_⟩ <;> omega, N0, rfl⟩
                             ·refine w_iloadN X0 hx x (dB d3_210) 211 rfl rfl ?_
                              refine w_ldc X0 hx hZ hown (tw_10 hw) (dB d3_211) 213 rfl ?_
                              refine w_icmp_gt X0 hx x.toInt 65535 rfl (by decide) (dB d3_213) 218 216 (fun c198 => ?_) (fun c198 => ?_)
                              ·refine w_iconst X0 hx (dB d3_218) 219 rfl (1 : Int32) (by decide) ?_
                               refine w_retN X0 hx hlk (t := .boolean) hret (by simp) (dB d3_219) (by decide) (by decide) ?_
                               rw [e0]
                               exact ⟨(1 : Int32), rfl, by have hz : (1 : Int32).toInt = 1 := (by decide); have q : own_b ((97 ≤ x.toInt ∧ x.toInt ≤ 122) ∨ (65 ≤ x.toInt ∧ x.toInt ≤ 90) ∨ (95 ≤ x.toInt ∧ x.toInt ≤ 95) ∨ (58 ≤ x.toInt ∧ x.toInt ≤ 58) ∨ (192 ≤ x.toInt ∧ x.toInt ≤ 214) ∨ (216 ≤ x.toInt ∧ x.toInt ≤ 246) ∨ (248 ≤ x.toInt ∧ x.toInt ≤ 767) ∨ (880 ≤ x.toInt ∧ x.toInt ≤ 893) ∨ (895 ≤ x.toInt ∧ x.toInt ≤ 8191) ∨ (8204 ≤ x.toInt ∧ x.toInt ≤ 8205) ∨ (8304 ≤ x.toInt ∧ x.toInt ≤ 8591) ∨ (11264 ≤ x.toInt ∧ x.toInt ≤ 12271) ∨ (12289 ≤ x.toInt ∧ x.toInt ≤ 55295) ∨ (63744 ≤ x.toInt ∧ x.toInt ≤ 64975) ∨ (65008 ≤ x.toInt ∧ x.toInt ≤ 65533) ∨ (65536 ≤ x.toInt ∧ x.toInt ≤ 983039)) = 1 := own_b_pos (by omega); refine ⟨?_, ?_, ?_⟩ <;> omega, N0, rfl⟩
                              ·refine w_iconst X0 hx (dB d3_216) 217 rfl (0 : Int32) (by decide) ?_
                               refine w_retN X0 hx hlk (t := .boolean) hret (by simp) (dB d3_217) (by decide) (by decide) ?_
                               rw [e0]
                               exact ⟨(0 : Int32), rfl, by have hz : (0 : Int32).toInt = 0 := (by decide); have q : own_b ((97 ≤ x.toInt ∧ x.toInt ≤ 122) ∨ (65 ≤ x.toInt ∧ x.toInt ≤ 90) ∨ (95 ≤ x.toInt ∧ x.toInt ≤ 95) ∨ (58 ≤ x.toInt ∧ x.toInt ≤ 58) ∨ (192 ≤ x.toInt ∧ x.toInt ≤ 214) ∨ (216 ≤ x.toInt ∧ x.toInt ≤ 246) ∨ (248 ≤ x.toInt ∧ x.toInt ≤ 767) ∨ (880 ≤ x.toInt ∧ x.toInt ≤ 893) ∨ (895 ≤ x.toInt ∧ x.toInt ≤ 8191) ∨ (8204 ≤ x.toInt ∧ x.toInt ≤ 8205) ∨ (8304 ≤ x.toInt ∧ x.toInt ≤ 8591) ∨ (11264 ≤ x.toInt ∧ x.toInt ≤ 12271) ∨ (12289 ≤ x.toInt ∧ x.toInt ≤ 55295) ∨ (63744 ≤ x.toInt ∧ x.toInt ≤ 64975) ∨ (65008 ≤ x.toInt ∧ x.toInt ≤ 65533) ∨ (65536 ≤ x.toInt ∧ x.toInt ≤ 983039)) = 0 := own_b_neg (by omega); refine ⟨?_, ?_, ?_⟩ <;> omega, N0, rfl⟩
                            ·refine w_iconst X0 hx (dB d3_202) 203 rfl (0 : Int32) (by decide) ?_
                             refine w_retN X0 hx hlk (t := .boolean) hret (by simp) (dB d3_203) (by decide) (by decide) ?_
                             rw [e0]
                             exact ⟨(0 : Int32), rfl, by have hz : (0 : Int32).toInt = 0 := (by decide); have q : own_b ((97 ≤ x.toInt ∧ x.toInt ≤ 122) ∨ (65 ≤ x.toInt ∧ x.toInt ≤ 90) ∨ (95 ≤ x.toInt ∧ x.toInt ≤ 95) ∨ (58 ≤ x.toInt ∧ x.toInt ≤ 58) ∨ (192 ≤ x.toInt ∧ x.toInt ≤ 214) ∨ (216 ≤ x.toInt ∧ x.toInt ≤ 246) ∨ (248 ≤ x.toInt ∧ x.toInt ≤ 767) ∨ (880 ≤ x.toInt ∧ x.toInt ≤ 893) ∨ (895 ≤ x.toInt ∧ x.toInt ≤ 8191) ∨ (8204 ≤ x.toInt ∧ x.toInt ≤ 8205) ∨ (8304 ≤ x.toInt ∧ x.toInt ≤ 8591) ∨ (11264 ≤ x.toInt ∧ x.toInt ≤ 12271) ∨ (12289 ≤ x.toInt ∧ x.toInt ≤ 55295) ∨ (63744 ≤ x.toInt ∧ x.toInt ≤ 64975) ∨ (65008 ≤ x.toInt ∧ x.toInt ≤ 65533) ∨ (65536 ≤ x.toInt ∧ x.toInt ≤ 983039)) = 0 := own_b_neg (by omega); refine ⟨?_, ?_, ?_⟩ <;> omega, N0, rfl⟩
                          ·refine w_iconst X0 hx (dB d3_188) 189 rfl (0 : Int32) (by decide) ?_
                           refine w_retN X0 hx hlk (t := .boolean) hret (by simp) (dB d3_189) (by decide) (by decide) ?_
                           rw [e0]
                           exact ⟨(0 : Int32), rfl, by have hz : (0 : Int32).toInt = 0 := (by decide); have q : own_b ((97 ≤ x.toInt ∧ x.toInt ≤ 122) ∨ (65 ≤ x.toInt ∧ x.toInt ≤ 90) ∨ (95 ≤ x.toInt ∧ x.toInt ≤ 95) ∨ (58 ≤ x.toInt ∧ x.toInt ≤ 58) ∨ (192 ≤ x.toInt ∧ x.toInt ≤ 214) ∨ (216 ≤ x.toInt ∧ x.toInt ≤ 246) ∨ (248 ≤ x.toInt ∧ x.toInt ≤ 767) ∨ (880 ≤ x.toInt ∧ x.toInt ≤ 893) ∨ (895 ≤ x.toInt ∧ x.toInt ≤ 8191) ∨ (8204 ≤ x.toInt ∧ x.toInt ≤ 8205) ∨ (8304 ≤ x.toInt ∧ x.toInt ≤ 8591) ∨ (11264 ≤ x.toInt ∧ x.toInt ≤ 12271) ∨ (12289 ≤ x.toInt ∧ x.toInt ≤ 55295) ∨ (63744 ≤ x.toInt ∧ x.toInt ≤ 64975) ∨ (65008 ≤ x.toInt ∧ x.toInt ≤ 65533) ∨ (65536 ≤ x.toInt ∧ x.toInt ≤ 983039)) = 0 := own_b_neg (by omega); refine ⟨?_, ?_, ?_⟩ <;> omega, N0, rfl⟩
                        ·refine w_iconst X0 hx (dB d3_174) 175 rfl (0 : Int32) (by decide) ?_
                         refine w_retN X0 hx hlk (t := .boolean) hret (by simp) (dB d3_175) (by decide) (by decide) ?_
                         rw [e0]
                         exact ⟨(0 : Int32), rfl, by have hz : (0 : Int32).toInt = 0 := (by decide); have q : own_b ((97 ≤ x.toInt ∧ x.toInt ≤ 122) ∨ (65 ≤ x.toInt ∧ x.toInt ≤ 90) ∨ (95 ≤ x.toInt ∧ x.toInt ≤ 95) ∨ (58 ≤ x.toInt ∧ x.toInt ≤ 58) ∨ (192 ≤ x.toInt ∧ x.toInt ≤ 214) ∨ (216 ≤ x.toInt ∧ x.toInt ≤ 246) ∨ (248 ≤ x.toInt ∧ x.toInt ≤ 767) ∨ (880 ≤ x.toInt ∧ x.toInt ≤ 893) ∨ (895 ≤ x.toInt ∧ x.toInt ≤ 8191) ∨ (8204 ≤ x.toInt ∧ x.toInt ≤ 8205) ∨ (8304 ≤ x.toInt ∧ x.toInt ≤ 8591) ∨ (11264 ≤ x.toInt ∧ x.toInt ≤ 12271) ∨ (12289 ≤ x.toInt ∧ x.toInt ≤ 55295) ∨ (63744 ≤ x.toInt ∧ x.toInt ≤ 64975) ∨ (65008 ≤ x.toInt ∧ x.toInt ≤ 65533) ∨ (65536 ≤ x.toInt ∧ x.toInt ≤ 983039)) = 0 := own_b_neg (by omega); refine ⟨?_, ?_, ?_⟩ <;> omega, N0, rfl⟩
                      ·refine w_iconst X0 hx (dB d3_158) 159 rfl (0 : Int32) (by decide) ?_
                       refine w_retN X0 hx hlk (t := .boolean) hret (by simp) (dB d3_159) (by decide) (by decide) ?_
                       rw [e0]
                       exact ⟨(0 : Int32), rfl, by have hz : (0 : Int32).toInt = 0 := (by decide); have q : own_b ((97 ≤ x.toInt ∧ x.toInt ≤ 122) ∨ (65 ≤ x.toInt ∧ x.toInt ≤ 90) ∨ (95 ≤ x.toInt ∧ x.toInt ≤ 95) ∨ (58 ≤ x.toInt ∧ x.toInt ≤ 58) ∨ (192 ≤ x.toInt ∧ x.toInt ≤ 214) ∨ (216 ≤ x.toInt ∧ x.toInt ≤ 246) ∨ (248 ≤ x.toInt ∧ x.toInt ≤ 767) ∨ (880 ≤ x.toInt ∧ x.toInt ≤ 893) ∨ (895 ≤ x.toInt ∧ x.toInt ≤ 8191) ∨ (8204 ≤ x.toInt ∧ x.toInt ≤ 8205) ∨ (8304 ≤ x.toInt ∧ x.toInt ≤ 8591) ∨ (11264 ≤ x.toInt ∧ x.toInt ≤ 12271) ∨ (12289 ≤ x.toInt ∧ x.toInt ≤ 55295) ∨ (63744 ≤ x.toInt ∧ x.toInt ≤ 64975) ∨ (65008 ≤ x.toInt ∧ x.toInt ≤ 65533) ∨ (65536 ≤ x.toInt ∧ x.toInt ≤ 983039)) = 0 := own_b_neg (by omega); refine ⟨?_, ?_, ?_⟩ <;> omega, N0, rfl⟩
                    ·refine w_iconst X0 hx (dB d3_142) 143 rfl (0 : Int32) (by decide) ?_
                     refine w_retN X0 hx hlk (t := .boolean) hret (by simp) (dB d3_143) (by decide) (by decide) ?_
                     rw [e0]
                     exact ⟨(0 : Int32), rfl, by have hz : (0 : Int32).toInt = 0 := (by decide); have q : own_b ((97 ≤ x.toInt ∧ x.toInt ≤ 122) ∨ (65 ≤ x.toInt ∧ x.toInt ≤ 90) ∨ (95 ≤ x.toInt ∧ x.toInt ≤ 95) ∨ (58 ≤ x.toInt ∧ x.toInt ≤ 58) ∨ (192 ≤ x.toInt ∧ x.toInt ≤ 214) ∨ (216 ≤ x.toInt ∧ x.toInt ≤ 246) ∨ (248 ≤ x.toInt ∧ x.toInt ≤ 767) ∨ (880 ≤ x.toInt ∧ x.toInt ≤ 893) ∨ (895 ≤ x.toInt ∧ x.toInt ≤ 8191) ∨ (8204 ≤ x.toInt ∧ x.toInt ≤ 8205) ∨ (8304 ≤ x.toInt ∧ x.toInt ≤ 8591) ∨ (11264 ≤ x.toInt ∧ x.toInt ≤ 12271) ∨ (12289 ≤ x.toInt ∧ x.toInt ≤ 55295) ∨ (63744 ≤ x.toInt ∧ x.toInt ≤ 64975) ∨ (65008 ≤ x.toInt ∧ x.toInt ≤ 65533) ∨ (65536 ≤ x.toInt ∧ x.toInt ≤ 983039)) = 0 := own_b_neg (by omega); refine ⟨?_, ?_, ?_⟩ <;> omega, N0, rfl⟩
                  ·refine w_iconst X0 hx (dB d3_126) 127 rfl (0 : Int32) (by decide) ?_
                   refine w_retN X0 hx hlk (t := .boolean) hret (by simp) (dB d3_127) (by decide) (by decide) ?_
                   rw [e0]
                   exact ⟨(0 : Int32), rfl, by have hz : (0 : Int32).toInt = 0 := (by decide); have q : own_b ((97 ≤ x.toInt ∧ x.toInt ≤ 122) ∨ (65 ≤ x.toInt ∧ x.toInt ≤ 90) ∨ (95 ≤ x.toInt ∧ x.toInt ≤ 95) ∨ (58 ≤ x.toInt ∧ x.toInt ≤ 58) ∨ (192 ≤ x.toInt ∧ x.toInt ≤ 214) ∨ (216 ≤ x.toInt ∧ x.toInt ≤ 246) ∨ (248 ≤ x.toInt ∧ x.toInt ≤ 767) ∨ (880 ≤ x.toInt ∧ x.toInt ≤ 893) ∨ (895 ≤ x.toInt ∧ x.toInt ≤ 8191) ∨ (8204 ≤ x.toInt ∧ x.toInt ≤ 8205) ∨ (8304 ≤ x.toInt ∧ x.toInt ≤ 8591) ∨ (11264 ≤ x.toInt ∧ x.toInt ≤ 12271) ∨ (12289 ≤ x.toInt ∧ x.toInt ≤ 55295) ∨ (63744 ≤ x.toInt ∧ x.toInt ≤ 64975) ∨ (65008 ≤ x.toInt ∧ x.toInt ≤ 65533) ∨ (65536 ≤ x.toInt ∧ x.toInt ≤ 983039)) = 0 := own_b_neg (by omega); refine ⟨?_, ?_, ?_⟩ <;> omega, N0, rfl⟩
                ·refine w_iconst X0 hx (dB d3_110) 111 rfl (0 : Int32) (by decide) ?_
                 refine w_retN X0 hx hlk (t := .boolean) hret (by simp) (dB d3_111) (by decide) (by decide) ?_
                 rw [e0]
                 exact ⟨(0 : Int32), rfl, by have hz : (0 : Int32).toInt = 0 := (by decide); have q : own_b ((97 ≤ x.toInt ∧ x.toInt ≤ 122) ∨ (65 ≤ x.toInt ∧ x.toInt ≤ 90) ∨ (95 ≤ x.toInt ∧ x.toInt ≤ 95) ∨ (58 ≤ x.toInt ∧ x.toInt ≤ 58) ∨ (192 ≤ x.toInt ∧ x.toInt ≤ 214) ∨ (216 ≤ x.toInt ∧ x.toInt ≤ 246) ∨ (248 ≤ x.toInt ∧ x.toInt ≤ 767) ∨ (880 ≤ x.toInt ∧ x.toInt ≤ 893) ∨ (895 ≤ x.toInt ∧ x.toInt ≤ 8191) ∨ (8204 ≤ x.toInt ∧ x.toInt ≤ 8205) ∨ (8304 ≤ x.toInt ∧ x.toInt ≤ 8591) ∨ (11264 ≤ x.toInt ∧ x.toInt ≤ 12271) ∨ (12289 ≤ x.toInt ∧ x.toInt ≤ 55295) ∨ (63744 ≤ x.toInt ∧ x.toInt ≤ 64975) ∨ (65008 ≤ x.toInt ∧ x.toInt ≤ 65533) ∨ (65536 ≤ x.toInt ∧ x.toInt ≤ 983039)) = 0 := own_b_neg (by omega); refine ⟨?_, ?_, ?_⟩ <;> omega, N0, rfl⟩
               ·refine w_iconst X0 hx (dB d3_101) 102 rfl (0 : Int32) (by decide) ?_
                refine w_retN X0 hx hlk (t := .boolean) hret (by simp) (dB d3_102) (by decide) (by decide) ?_
                rw [e0]
                exact ⟨(0 : Int32), rfl, by have hz : (0 : Int32).toInt = 0 := (by decide); have q : own_b ((97 ≤ x.toInt ∧ x.toInt ≤ 122) ∨ (65 ≤ x.toInt ∧ x.toInt ≤ 90) ∨ (95 ≤ x.toInt ∧ x.toInt ≤ 95) ∨ (58 ≤ x.toInt ∧ x.toInt ≤ 58) ∨ (192 ≤ x.toInt ∧ x.toInt ≤ 214) ∨ (216 ≤ x.toInt ∧ x.toInt ≤ 246) ∨ (248 ≤ x.toInt ∧ x.toInt ≤ 767) ∨ (880 ≤ x.toInt ∧ x.toInt ≤ 893) ∨ (895 ≤ x.toInt ∧ x.toInt ≤ 8191) ∨ (8204 ≤ x.toInt ∧ x.toInt ≤ 8205) ∨ (8304 ≤ x.toInt ∧ x.toInt ≤ 8591) ∨ (11264 ≤ x.toInt ∧ x.toInt ≤ 12271) ∨ (12289 ≤ x.toInt ∧ x.toInt ≤ 55295) ∨ (63744 ≤ x.toInt ∧ x.toInt ≤ 64975) ∨ (65008 ≤ x.toInt ∧ x.toInt ≤ 65533) ∨ (65536 ≤ x.toInt ∧ x.toInt ≤ 983039)) = 0 := own_b_neg (by omega); refine ⟨?_, ?_, ?_⟩ <;> omega, N0, rfl⟩
             ·refine w_iconst X0 hx (dB d3_85) 86 rfl (0 : Int32) (by decide) ?_
              refine w_retN X0 hx hlk (t := .boolean) hret (by simp) (dB d3_86) (by decide) (by decide) ?_
              rw [e0]
              exact ⟨(0 : Int32), rfl, by have hz : (0 : Int32).toInt = 0 := (by decide); have q : own_b ((97 ≤ x.toInt ∧ x.toInt ≤ 122) ∨ (65 ≤ x.toInt ∧ x.toInt ≤ 90) ∨ (95 ≤ x.toInt ∧ x.toInt ≤ 95) ∨ (58 ≤ x.toInt ∧ x.toInt ≤ 58) ∨ (192 ≤ x.toInt ∧ x.toInt ≤ 214) ∨ (216 ≤ x.toInt ∧ x.toInt ≤ 246) ∨ (248 ≤ x.toInt ∧ x.toInt ≤ 767) ∨ (880 ≤ x.toInt ∧ x.toInt ≤ 893) ∨ (895 ≤ x.toInt ∧ x.toInt ≤ 8191) ∨ (8204 ≤ x.toInt ∧ x.toInt ≤ 8205) ∨ (8304 ≤ x.toInt ∧ x.toInt ≤ 8591) ∨ (11264 ≤ x.toInt ∧ x.toInt ≤ 12271) ∨ (12289 ≤ x.toInt ∧ x.toInt ≤ 55295) ∨ (63744 ≤ x.toInt ∧ x.toInt ≤ 64975) ∨ (65008 ≤ x.toInt ∧ x.toInt ≤ 65533) ∨ (65536 ≤ x.toInt ∧ x.toInt ≤ 983039)) = 0 := own_b_neg (by omega); refine ⟨?_, ?_, ?_⟩ <;> omega, N0, rfl⟩
           ·refine w_iconst X0 hx (dB d3_69) 70 rfl (0 : Int32) (by decide) ?_
            refine w_retN X0 hx hlk (t := .boolean) hret (by simp) (dB d3_70) (by decide) (by decide) ?_
            rw [e0]
            exact ⟨(0 : Int32), rfl, by have hz : (0 : Int32).toInt = 0 := (by decide); have q : own_b ((97 ≤ x.toInt ∧ x.toInt ≤ 122) ∨ (65 ≤ x.toInt ∧ x.toInt ≤ 90) ∨ (95 ≤ x.toInt ∧ x.toInt ≤ 95) ∨ (58 ≤ x.toInt ∧ x.toInt ≤ 58) ∨ (192 ≤ x.toInt ∧ x.toInt ≤ 214) ∨ (216 ≤ x.toInt ∧ x.toInt ≤ 246) ∨ (248 ≤ x.toInt ∧ x.toInt ≤ 767) ∨ (880 ≤ x.toInt ∧ x.toInt ≤ 893) ∨ (895 ≤ x.toInt ∧ x.toInt ≤ 8191) ∨ (8204 ≤ x.toInt ∧ x.toInt ≤ 8205) ∨ (8304 ≤ x.toInt ∧ x.toInt ≤ 8591) ∨ (11264 ≤ x.toInt ∧ x.toInt ≤ 12271) ∨ (12289 ≤ x.toInt ∧ x.toInt ≤ 55295) ∨ (63744 ≤ x.toInt ∧ x.toInt ≤ 64975) ∨ (65008 ≤ x.toInt ∧ x.toInt ≤ 65533) ∨ (65536 ≤ x.toInt ∧ x.toInt ≤ 983039)) = 0 := own_b_neg (by omega); refine ⟨?_, ?_, ?_⟩ <;> omega, N0, rfl⟩
         ·refine w_iconst X0 hx (dB d3_54) 55 rfl (0 : Int32) (by decide) ?_
          refine w_retN X0 hx hlk (t := .boolean) hret (by simp) (dB d3_55) (by decide) (by decide) ?_
          rw [e0]
          exact ⟨(0 : Int32), rfl, by have hz : (0 : Int32).toInt = 0 := (by decide); have q : own_b ((97 ≤ x.toInt ∧ x.toInt ≤ 122) ∨ (65 ≤ x.toInt ∧ x.toInt ≤ 90) ∨ (95 ≤ x.toInt ∧ x.toInt ≤ 95) ∨ (58 ≤ x.toInt ∧ x.toInt ≤ 58) ∨ (192 ≤ x.toInt ∧ x.toInt ≤ 214) ∨ (216 ≤ x.toInt ∧ x.toInt ≤ 246) ∨ (248 ≤ x.toInt ∧ x.toInt ≤ 767) ∨ (880 ≤ x.toInt ∧ x.toInt ≤ 893) ∨ (895 ≤ x.toInt ∧ x.toInt ≤ 8191) ∨ (8204 ≤ x.toInt ∧ x.toInt ≤ 8205) ∨ (8304 ≤ x.toInt ∧ x.toInt ≤ 8591) ∨ (11264 ≤ x.toInt ∧ x.toInt ≤ 12271) ∨ (12289 ≤ x.toInt ∧ x.toInt ≤ 55295) ∨ (63744 ≤ x.toInt ∧ x.toInt ≤ 64975) ∨ (65008 ≤ x.toInt ∧ x.toInt ≤ 65533) ∨ (65536 ≤ x.toInt ∧ x.toInt ≤ 983039)) = 0 := own_b_neg (by omega); refine ⟨?_, ?_, ?_⟩ <;> omega, N0, rfl⟩
        ·refine w_iconst X0 hx (dB d3_46) 47 rfl (0 : Int32) (by decide) ?_
         refine w_retN X0 hx hlk (t := .boolean) hret (by simp) (dB d3_47) (by decide) (by decide) ?_
         rw [e0]
         exact ⟨(0 : Int32), rfl, by have hz : (0 : Int32).toInt = 0 := (by decide); have q : own_b ((97 ≤ x.toInt ∧ x.toInt ≤ 122) ∨ (65 ≤ x.toInt ∧ x.toInt ≤ 90) ∨ (95 ≤ x.toInt ∧ x.toInt ≤ 95) ∨ (58 ≤ x.toInt ∧ x.toInt ≤ 58) ∨ (192 ≤ x.toInt ∧ x.toInt ≤ 214) ∨ (216 ≤ x.toInt ∧ x.toInt ≤ 246) ∨ (248 ≤ x.toInt ∧ x.toInt ≤ 767) ∨ (880 ≤ x.toInt ∧ x.toInt ≤ 893) ∨ (895 ≤ x.toInt ∧ x.toInt ≤ 8191) ∨ (8204 ≤ x.toInt ∧ x.toInt ≤ 8205) ∨ (8304 ≤ x.toInt ∧ x.toInt ≤ 8591) ∨ (11264 ≤ x.toInt ∧ x.toInt ≤ 12271) ∨ (12289 ≤ x.toInt ∧ x.toInt ≤ 55295) ∨ (63744 ≤ x.toInt ∧ x.toInt ≤ 64975) ∨ (65008 ≤ x.toInt ∧ x.toInt ≤ 65533) ∨ (65536 ≤ x.toInt ∧ x.toInt ≤ 983039)) = 0 := own_b_neg (by omega); refine ⟨?_, ?_, ?_⟩ <;> omega, N0, rfl⟩
      ·refine w_iconst X0 hx (dB d3_32) 33 rfl (0 : Int32) (by decide) ?_
       refine w_retN X0 hx hlk (t := .boolean) hret (by simp) (dB d3_33) (by decide) (by decide) ?_
       rw [e0]
       exact ⟨(0 : Int32), rfl, by have hz : (0 : Int32).toInt = 0 := (by decide); have q : own_b ((97 ≤ x.toInt ∧ x.toInt ≤ 122) ∨ (65 ≤ x.toInt ∧ x.toInt ≤ 90) ∨ (95 ≤ x.toInt ∧ x.toInt ≤ 95) ∨ (58 ≤ x.toInt ∧ x.toInt ≤ 58) ∨ (192 ≤ x.toInt ∧ x.toInt ≤ 214) ∨ (216 ≤ x.toInt ∧ x.toInt ≤ 246) ∨ (248 ≤ x.toInt ∧ x.toInt ≤ 767) ∨ (880 ≤ x.toInt ∧ x.toInt ≤ 893) ∨ (895 ≤ x.toInt ∧ x.toInt ≤ 8191) ∨ (8204 ≤ x.toInt ∧ x.toInt ≤ 8205) ∨ (8304 ≤ x.toInt ∧ x.toInt ≤ 8591) ∨ (11264 ≤ x.toInt ∧ x.toInt ≤ 12271) ∨ (12289 ≤ x.toInt ∧ x.toInt ≤ 55295) ∨ (63744 ≤ x.toInt ∧ x.toInt ≤ 64975) ∨ (65008 ≤ x.toInt ∧ x.toInt ≤ 65533) ∨ (65536 ≤ x.toInt ∧ x.toInt ≤ 983039)) = 0 := own_b_neg (by omega); refine ⟨?_, ?_, ?_⟩ <;> omega, N0, rfl⟩
    ·refine w_iconst X0 hx (dB d3_18) 19 rfl (0 : Int32) (by decide) ?_
     refine w_retN X0 hx hlk (t := .boolean) hret (by simp) (dB d3_19) (by decide) (by decide) ?_
     rw [e0]
     exact ⟨(0 : Int32), rfl, by have hz : (0 : Int32).toInt = 0 := (by decide); have q : own_b ((97 ≤ x.toInt ∧ x.toInt ≤ 122) ∨ (65 ≤ x.toInt ∧ x.toInt ≤ 90) ∨ (95 ≤ x.toInt ∧ x.toInt ≤ 95) ∨ (58 ≤ x.toInt ∧ x.toInt ≤ 58) ∨ (192 ≤ x.toInt ∧ x.toInt ≤ 214) ∨ (216 ≤ x.toInt ∧ x.toInt ≤ 246) ∨ (248 ≤ x.toInt ∧ x.toInt ≤ 767) ∨ (880 ≤ x.toInt ∧ x.toInt ≤ 893) ∨ (895 ≤ x.toInt ∧ x.toInt ≤ 8191) ∨ (8204 ≤ x.toInt ∧ x.toInt ≤ 8205) ∨ (8304 ≤ x.toInt ∧ x.toInt ≤ 8591) ∨ (11264 ≤ x.toInt ∧ x.toInt ≤ 12271) ∨ (12289 ≤ x.toInt ∧ x.toInt ≤ 55295) ∨ (63744 ≤ x.toInt ∧ x.toInt ≤ 64975) ∨ (65008 ≤ x.toInt ∧ x.toInt ≤ 65533) ∨ (65536 ≤ x.toInt ∧ x.toInt ≤ 983039)) = 0 := own_b_neg (by omega); refine ⟨?_, ?_, ?_⟩ <;> omega, N0, rfl⟩
   ·refine w_iconst X0 hx (dB d3_10) 11 rfl (0 : Int32) (by decide) ?_
    refine w_retN X0 hx hlk (t := .boolean) hret (by simp) (dB d3_11) (by decide) (by decide) ?_
    rw [e0]
    exact ⟨(0 : Int32), rfl, by have hz : (0 : Int32).toInt = 0 := (by decide); have q : own_b ((97 ≤ x.toInt ∧ x.toInt ≤ 122) ∨ (65 ≤ x.toInt ∧ x.toInt ≤ 90) ∨ (95 ≤ x.toInt ∧ x.toInt ≤ 95) ∨ (58 ≤ x.toInt ∧ x.toInt ≤ 58) ∨ (192 ≤ x.toInt ∧ x.toInt ≤ 214) ∨ (216 ≤ x.toInt ∧ x.toInt ≤ 246) ∨ (248 ≤ x.toInt ∧ x.toInt ≤ 767) ∨ (880 ≤ x.toInt ∧ x.toInt ≤ 893) ∨ (895 ≤ x.toInt ∧ x.toInt ≤ 8191) ∨ (8204 ≤ x.toInt ∧ x.toInt ≤ 8205) ∨ (8304 ≤ x.toInt ∧ x.toInt ≤ 8591) ∨ (11264 ≤ x.toInt ∧ x.toInt ≤ 12271) ∨ (12289 ≤ x.toInt ∧ x.toInt ≤ 55295) ∨ (63744 ≤ x.toInt ∧ x.toInt ≤ 64975) ∨ (65008 ≤ x.toInt ∧ x.toInt ≤ 65533) ∨ (65536 ≤ x.toInt ∧ x.toInt ≤ 983039)) = 0 := own_b_neg (by omega); refine ⟨?_, ?_, ?_⟩ <;> omega, N0, rfl⟩
theorem ef_1 (m : MethodId) (x0 : Int32) : entryFrame m #[(.int x0)] 1 = mkF m 0 #[.val (.int x0)] [] := by first | (simp [entryFrame, mkF, argsToLocals, Value.category]; done) | rfl
def Q1 (Z : State) (x : Int32) (h0 : Heap) (n0 : Nat) (v : Option Value) (h : Heap) (L : List Loc) : Prop := ∃ z : Int32, v = some (.int z) ∧ (z.toInt = 1) ∧ Fr n0 L ∧ h = h0
set_option maxRecDepth 65536 in
set_option maxHeartbeats 40000000 in
theorem rm1 (l : Launch) (Z : State) (a0 : Array Value) (hw : ∀ d ∈ tables_1, d.before a0 Z = true) (ws : List Jvm.Cond) (x : Int32) (h0 : Heap) (n0 : Nat) (Z0 : n0 ≤ h0.size) :
    CT l mN_1 method_3_code 1 (some .boolean) ws ({ frames := 1, cells := 0, slots := 0, locals := 13 } : Room) #[(.int x)] Z h0 (Q1 Z x h0 n0) := by
  refine body_of (plainFor_of_name pn_1) ?_
  intro p e s m below meth c s₁ hx dB hret hlk hml hown0 hnm X0 e0 hZ
  have hown : s.vm.findClass cN_1 = some m.cls := hown0
  have N0 := Fr.nil n0
  rw [ef_1]
  show Wk p e below (FN s (Q1 Z x h0 n0) 0 0) s₁ (mkF m 0 #[.val (.int x)] [])
  have r_x := rng32 x
  refine w_iloadN X0 hx x (dB d1_0) 1 rfl rfl ?_
  refine w_callS X0 hx hZ hown e0 (rm2 l Z a0 hw [] x h0 n0 Z0 ) (tw_16 hw) (tw_17 hw) (tw_18 hw) (tw_19 hw) (by decide) (by rw [hml]; rfl) [(.int x)] [] (lenOf pd_0 rfl) rfl rfl (by decide) 0 rfl (by decide) (by decide) (by decide) (dB d1_1) 4 rfl (fun r199 T199 L199 X199 q199 => ?_)
  obtain ⟨z199, rfl, f199, Nq199, eq199⟩ := q199
  have N199 := Fr.app N0 Nq199
  dsimp only [Option.toList_some, Option.toList_none, List.cons_append, List.nil_append]
  refine w_iloadN X199 hx x (dB d1_4) 5 rfl rfl ?_
  refine w_callS X199 hx hZ hown eq199 (rm3 l Z a0 hw [] x h0 n0 Z0 ) (tw_20 hw) (tw_21 hw) (tw_14 hw) (tw_22 hw) (by decide) (by rw [hml]; rfl) [(.int x)] [(.int z199)] (lenOf pd_0 rfl) rfl rfl (by decide) 1 rfl (by decide) (by decide) (by decide) (dB d1_5) 8 rfl (fun r200 T200 L200 X200 q200 => ?_)
  obtain ⟨z200, rfl, f200, Nq200, eq200⟩ := q200
  have N200 := Fr.app N199 Nq200
  dsimp only [Option.toList_some, Option.toList_none, List.cons_append, List.nil_append]
  refine w_icmp_ne X200 hx z199.toInt z200.toInt rfl rfl (dB d1_8) 15 11 (fun c201 => ?_) (fun c201 => ?_)
  ·exfalso; omega
  ·refine w_iconst X200 hx (dB d1_11) 12 rfl (1 : Int32) (by decide) ?_
   refine w_goto X200 hx (dB d1_12) 16 ?_
   refine w_retN X200 hx hlk (t := .boolean) hret (by simp) (dB d1_16) (by decide) (by decide) ?_
   rw [eq200]
   exact ⟨(1 : Int32), rfl, by have hz : (1 : Int32).toInt = 1 := (by decide); omega, N200, rfl⟩
theorem ef_0 (m : MethodId) (x0 : Int32) (x1 : Int32) (x2 : Int32) (x3 : Int32) : entryFrame m #[(.int x0), (.int x1), (.int x2), (.int x3)] maxLocals = mkF m 0 #[.val (.int x0), .val (.int x1), .val (.int x2), .val (.int x3), .unset, .unset, .unset, .unset, .unset, .unset] [] := by first | (simp [entryFrame, mkF, argsToLocals, Value.category, maxLocals]; done) | rfl
def Q0 (Z : State) (a : Int32) (b : Int32) (kk : Int32) (d : Int32) (h0 : Heap) (n0 : Nat) (v : Option Value) (h : Heap) (L : List Loc) : Prop := v = some (.int 1) ∧ Fr n0 L
set_option maxRecDepth 65536 in
set_option maxHeartbeats 40000000 in
theorem rm0 (l : Launch) (Z : State) (a0 : Array Value) (hw : ∀ d ∈ tables_1, d.before a0 Z = true) (ws : List Jvm.Cond) (a : Int32) (b : Int32) (kk : Int32) (d : Int32) (h0 : Heap) (n0 : Nat) (Z0 : n0 ≤ h0.size) :
    MetFree l x (head1 (Jvm.Cond.code x code maxLocals ret :: ws) room_1) (fun as_ U => as_ = #[(.int a), (.int b), (.int kk), (.int d)] ∧ Z.Warmed39 U.vm ∧ U.heap = h0) (fun _ _ _ _ _ => True) (fun _ U o U' => ∃ v L, o = .returned v ∧ Q0 Z a b kk d h0 n0 v U'.heap L ∧ FrameEnd U o U' L 1 44) := by
  refine body_of (plainFor_of_name pn_1) ?_
  intro p e s m below meth c s₁ hx dB hret hlk hml hown0 hnm X0 e0 hZ
  have hown : s.vm.findClass cN_1 = some m.cls := hown0
  have N0 := Fr.nil n0
  rw [ef_0]
  show Wk p e below (FN s (Q0 Z a b kk d h0 n0) 1 44) s₁ (mkF m 0 #[.val (.int a), .val (.int b), .val (.int kk), .val (.int d), .unset, .unset, .unset, .unset, .unset, .unset] [])
  have r_a := rng32 a
  have r_b := rng32 b
  have r_kk := rng32 kk
  have r_d := rng32 d
  refine w_bipush X0 hx (dB at_0) 2 rfl (44 : Int32) (by decide) ?_
  refine w_newP X0 hx hZ e0 (aty := .int) (tw_0 hw) (by decide) 44 (by decide) (by decide) (by decide) (by decide) (dB at_2) 4 rfl (fun T202 h202 a202 k202 X202 e202 g202 E202 A202 => ?_)
  have g_a202 : n0 ≤ a202 := Nat.le_trans Z0 (Nat.le_of_eq g202.symm)
  have s_a202 : h0.size ≤ a202 := Nat.le_trans (Keep.refl h0 []).1 (Nat.le_of_eq g202.symm)
  have Z202 : n0 ≤ h202.size := Nat.le_trans Z0 E202.1
  have K202 : Keep h0 h202 [] := (Keep.refl h0 []).ext E202
  have V202 : Arv Z h202 a202 k202 .int (44 : Int32) [(.int (0 : Int32)), (.int (0 : Int32)), (.int (0 : Int32)), (.int (0 : Int32)), (.int (0 : Int32)), (.int (0 : Int32)), (.int (0 : Int32)), (.int (0 : Int32)), (.int (0 : Int32)), (.int (0 : Int32)), (.int (0 : Int32)), (.int (0 : Int32)), (.int (0 : Int32)), (.int (0 : Int32)), (.int (0 : Int32)), (.int (0 : Int32)), (.int (0 : Int32)), (.int (0 : Int32)), (.int (0 : Int32)), (.int (0 : Int32)), (.int (0 : Int32)), (.int (0 : Int32)), (.int (0 : Int32)), (.int (0 : Int32)), (.int (0 : Int32)), (.int (0 : Int32)), (.int (0 : Int32)), (.int (0 : Int32)), (.int (0 : Int32)), (.int (0 : Int32)), (.int (0 : Int32)), (.int (0 : Int32)), (.int (0 : Int32)), (.int (0 : Int32)), (.int (0 : Int32)), (.int (0 : Int32)), (.int (0 : Int32)), (.int (0 : Int32)), (.int (0 : Int32)), (.int (0 : Int32)), (.int (0 : Int32)), (.int (0 : Int32)), (.int (0 : Int32)), (.int (0 : Int32))] (.int (0 : Int32)) := A202.pad (pad_rep [] (.int (0 : Int32)) 44)
  refine w_dup X202 hx (dB at_4) 5 rfl rfl ?_
  refine w_iconst X202 hx (dB at_5) 6 rfl (0 : Int32) (by decide) ?_
  refine w_iconst X202 hx (dB at_6) 7 rfl (0 : Int32) (by decide) ?_
  refine w_iastore X202 hx hZ e202 V202 ⟨by decide, by decide⟩ 0 (by decide) (show 0 < 44 from (by decide)) (dB at_7) 8 rfl (fun T203 h203 X203 e203 W203 V203 => ?_)
  have F204 : Arv Z h203 a202 k202 .int (44 : Int32) [(.int (0 : Int32)), (.int (0 : Int32)), (.int (0 : Int32)), (.int (0 : Int32)), (.int (0 : Int32)), (.int (0 : Int32)), (.int (0 : Int32)), (.int (0 : Int32)), (.int (0 : Int32)), (.int (0 : Int32)), (.int (0 : Int32)), (.int (0 : Int32)), (.int (0 : Int32)), (.int (0 : Int32)), (.int (0 : Int32)), (.int (0 : Int32)), (.int (0 : Int32)), (.int (0 : Int32)), (.int (0 : Int32)), (.int (0 : Int32)), (.int (0 : Int32)), (.int (0 : Int32)), (.int (0 : Int32)), (.int (0 : Int32)), (.int (0 : Int32)), (.int (0 : Int32)), (.int (0 : Int32)), (.int (0 : Int32)), (.int (0 : Int32)), (.int (0 : Int32)), (.int (0 : Int32)), (.int (0 : Int32)), (.int (0 : Int32)), (.int (0 : Int32)), (.int (0 : Int32)), (.int (0 : Int32)), (.int (0 : Int32)), (.int (0 : Int32)), (.int (0 : Int32)), (.int (0 : Int32)), (.int (0 : Int32)), (.int (0 : Int32)), (.int (0 : Int32)), (.int (0 : Int32))] (.int (0 : Int32)) := V203
  have Z203 : n0 ≤ h203.size := by rw [W203.size]; exact Z202
  have K203 : Keep h0 h203 [] := K202.wr W203 (Or.inr s_a202)
  have N203 := Fr.snoc X203 N0 g_a202
  refine w_dup X203 hx (dB at_8) 9 rfl rfl ?_
  refine w_iconst X203 hx (dB at_9) 10 rfl (1 : Int32) (by decide) ?_
  refine w_bipush X203 hx (dB at_10) 12 rfl (58 : Int32) (by decide) ?_
  refine w_iastore X203 hx hZ e203 F204 ⟨by decide, by decide⟩ 1 (by decide) (show 1 < 44 from (by decide)) (dB at_12) 13 rfl (fun T205 h205 X205 e205 W205 V205 => ?_)
  have F206 : Arv Z h205 a202 k202 .int (44 : Int32) [(.int (0 : Int32)), (.int (58 : Int32)), (.int (0 : Int32)), (.int (0 : Int32)), (.int (0 : Int32)), (.int (0 : Int32)), (.int (0 : Int32)), (.int (0 : Int32)), (.int (0 : Int32)), (.int (0 : Int32)), (.int (0 : Int32)), (.int (0 : Int32)), (.int (0 : Int32)), (.int (0 : Int32)), (.int (0 : Int32)), (.int (0 : Int32)), (.int (0 : Int32)), (.int (0 : Int32)), (.int (0 : Int32)), (.int (0 : Int32)), (.int (0 : Int32)), (.int (0 : Int32)), (.int (0 : Int32)), (.int (0 : Int32)), (.int (0 : Int32)), (.int (0 : Int32)), (.int (0 : Int32)), (.int (0 : Int32)), (.int (0 : Int32)), (.int (0 : Int32)), (.int (0 : Int32)), (.int (0 : Int32)), (.int (0 : Int32)), (.int (0 : Int32)), (.int (0 : Int32)), (.int (0 : Int32)), (.int (0 : Int32)), (.int (0 : Int32)), (.int (0 : Int32)), (.int (0 : Int32)), (.int (0 : Int32)), (.int (0 : Int32)), (.int (0 : Int32)), (.int (0 : Int32))] (.int (0 : Int32)) := V205
  have Z205 : n0 ≤ h205.size := by rw [W205.size]; exact Z203
  have K205 : Keep h0 h205 [] := K203.wr W205 (Or.inr s_a202)
  have N205 := Fr.snoc X205 N203 g_a202
  refine w_dup X205 hx (dB at_13) 14 rfl rfl ?_
  refine w_iconst X205 hx (dB at_14) 15 rfl (2 : Int32) (by decide) ?_
  refine w_bipush X205 hx (dB at_15) 17 rfl (59 : Int32) (by decide) ?_
  refine w_iastore X205 hx hZ e205 F206 ⟨by decide, by decide⟩ 2 (by decide) (show 2 < 44 from (by decide)) (dB at_17) 18 rfl (fun T207 h207 X207 e207 W207 V207 => ?_)
  have F208 : Arv Z h207 a202 k202 .int (44 : Int32) [(.int (0 : Int32)), (.int (58 : Int32)), (.int (59 : Int32)), (.int (0 : Int32)), (.int (0 : Int32)), (.int (0 : Int32)), (.int (0 : Int32)), (.int (0 : Int32)), (.int (0 : Int32)), (.int (0 : Int32)), (.int (0 : Int32)), (.int (0 : Int32)), (.int (0 : Int32)), (.int (0 : Int32)), (.int (0 : Int32)), (.int (0 : Int32)), (.int (0 : Int32)), (.int (0 : Int32)), (.int (0 : Int32)), (.int (0 : Int32)), (.int (0 : Int32)), (.int (0 : Int32)), (.int (0 : Int32)), (.int (0 : Int32)), (.int (0 : Int32)), (.int (0 : Int32)), (.int (0 : Int32)), (.int (0 : Int32)), (.int (0 : Int32)), (.int (0 : Int32)), (.int (0 : Int32)), (.int (0 : Int32)), (.int (0 : Int32)), (.int (0 : Int32)), (.int (0 : Int32)), (.int (0 : Int32)), (.int (0 : Int32)), (.int (0 : Int32)), (.int (0 : Int32)), (.int (0 : Int32)), (.int (0 : Int32)), (.int (0 : Int32)), (.int (0 : Int32)), (.int (0 : Int32))] (.int (0 : Int32)) := V207
  have Z207 : n0 ≤ h207.size := by rw [W207.size]; exact Z205
  have K207 : Keep h0 h207 [] := K205.wr W207 (Or.inr s_a202)
  have N207 := Fr.snoc X207 N205 g_a202
  refine w_dup X207 hx (dB at_18) 19 rfl rfl ?_
  refine w_iconst X207 hx (dB at_19) 20 rfl (3 : Int32) (by decide) ?_
  refine w_bipush X207 hx (dB at_20) 22 rfl (65 : Int32) (by decide) ?_
  refine w_iastore X207 hx hZ e207 F208 ⟨by decide, by decide⟩ 3 (by decide) (show 3 < 44 from (by decide)) (dB at_22) 23 rfl (fun T209 h209 X209 e209 W209 V209 => ?_)
  have F210 : Arv Z h209 a202 k202 .int (44 : Int32) [(.int (0 : Int32)), (.int (58 : Int32)), (.int (59 : Int32)), (.int (65 : Int32)), (.int (0 : Int32)), (.int (0 : Int32)), (.int (0 : Int32)), (.int (0 : Int32)), (.int (0 : Int32)), (.int (0 : Int32)), (.int (0 : Int32)), (.int (0 : Int32)), (.int (0 : Int32)), (.int (0 : Int32)), (.int (0 : Int32)), (.int (0 : Int32)), (.int (0 : Int32)), (.int (0 : Int32)), (.int (0 : Int32)), (.int (0 : Int32)), (.int (0 : Int32)), (.int (0 : Int32)), (.int (0 : Int32)), (.int (0 : Int32)), (.int (0 : Int32)), (.int (0 : Int32)), (.int (0 : Int32)), (.int (0 : Int32)), (.int (0 : Int32)), (.int (0 : Int32)), (.int (0 : Int32)), (.int (0 : Int32)), (.int (0 : Int32)), (.int (0 : Int32)), (.int (0 : Int32)), (.int (0 : Int32)), (.int (0 : Int32)), (.int (0 : Int32)), (.int (0 : Int32)), (.int (0 : Int32)), (.int (0 : Int32)), (.int (0 : Int32)), (.int (0 : Int32)), (.int (0 : Int32))] (.int (0 : Int32)) := V209
  have Z209 : n0 ≤ h209.size := by rw [W209.size]; exact Z207
  have K209 : Keep h0 h209 [] := K207.wr W209 (Or.inr s_a202)
  have N209 := Fr.snoc X209 N207 g_a202
  refine w_dup X209 hx (dB at_23) 24 rfl rfl ?_
  refine w_iconst X209 hx (dB at_24) 25 rfl (4 : Int32) (by decide) ?_
  refine w_bipush X209 hx (dB at_25) 27 rfl (90 : Int32) (by decide) ?_
  refine w_iastore X209 hx hZ e209 F210 ⟨by decide, by decide⟩ 4 (by decide) (show 4 < 44 from (by decide)) (dB at_27) 28 rfl (fun T211 h211 X211 e211 W211 V211 => ?_)
  have F212 : Arv Z h211 a202 k202 .int (44 : Int32) [(.int (0 : Int32)), (.int (58 : Int32)), (.int (59 : Int32)), (.int (65 : Int32)), (.int (90 : Int32)), (.int (0 : Int32)), (.int (0 : Int32)), (.int (0 : Int32)), (.int (0 : Int32)), (.int (0 : Int32)), (.int (0 : Int32)), (.int (0 : Int32)), (.int (0 : Int32)), (.int (0 : Int32)), (.int (0 : Int32)), (.int (0 : Int32)), (.int (0 : Int32)), (.int (0 : Int32)), (.int (0 : Int32)), (.int (0 : Int32)), (.int (0 : Int32)), (.int (0 : Int32)), (.int (0 : Int32)), (.int (0 : Int32)), (.int (0 : Int32)), (.int (0 : Int32)), (.int (0 : Int32)), (.int (0 : Int32)), (.int (0 : Int32)), (.int (0 : Int32)), (.int (0 : Int32)), (.int (0 : Int32)), (.int (0 : Int32)), (.int (0 : Int32)), (.int (0 : Int32)), (.int (0 : Int32)), (.int (0 : Int32)), (.int (0 : Int32)), (.int (0 : Int32)), (.int (0 : Int32)), (.int (0 : Int32)), (.int (0 : Int32)), (.int (0 : Int32)), (.int (0 : Int32))] (.int (0 : Int32)) := V211
  have Z211 : n0 ≤ h211.size := by rw [W211.size]; exact Z209
  have K211 : Keep h0 h211 [] := K209.wr W211 (Or.inr s_a202)
  have N211 := Fr.snoc X211 N209 g_a202
  refine w_dup X211 hx (dB at_28) 29 rfl rfl ?_
  refine w_iconst X211 hx (dB at_29) 30 rfl (5 : Int32) (by decide) ?_
  refine w_bipush X211 hx (dB at_30) 32 rfl (91 : Int32) (by decide) ?_
  refine w_iastore X211 hx hZ e211 F212 ⟨by decide, by decide⟩ 5 (by decide) (show 5 < 44 from (by decide)) (dB at_32) 33 rfl (fun T213 h213 X213 e213 W213 V213 => ?_)
  have F214 : Arv Z h213 a202 k202 .int (44 : Int32) [(.int (0 : Int32)), (.int (58 : Int32)), (.int (59 : Int32)), (.int (65 : Int32)), (.int (90 : Int32)), (.int (91 : Int32)), (.int (0 : Int32)), (.int (0 : Int32)), (.int (0 : Int32)), (.int (0 : Int32)), (.int (0 : Int32)), (.int (0 : Int32)), (.int (0 : Int32)), (.int (0 : Int32)), (.int (0 : Int32)), (.int (0 : Int32)), (.int (0 : Int32)), (.int (0 : Int32)), (.int (0 : Int32)), (.int (0 : Int32)), (.int (0 : Int32)), (.int (0 : Int32)), (.int (0 : Int32)), (.int (0 : Int32)), (.int (0 : Int32)), (.int (0 : Int32)), (.int (0 : Int32)), (.int (0 : Int32)), (.int (0 : Int32)), (.int (0 : Int32)), (.int (0 : Int32)), (.int (0 : Int32)), (.int (0 : Int32)), (.int (0 : Int32)), (.int (0 : Int32)), (.int (0 : Int32)), (.int (0 : Int32)), (.int (0 : Int32)), (.int (0 : Int32)), (.int (0 : Int32)), (.int (0 : Int32)), (.int (0 : Int32)), (.int (0 : Int32)), (.int (0 : Int32))] (.int (0 : Int32)) := V213
  have Z213 : n0 ≤ h213.size := by rw [W213.size]; exact Z211
  have K213 : Keep h0 h213 [] := K211.wr W213 (Or.inr s_a202)
  have N213 := Fr.snoc X213 N211 g_a202
  refine w_dup X213 hx (dB at_33) 34 rfl rfl ?_
  refine w_bipush X213 hx (dB at_34) 36 rfl (6 : Int32) (by decide) ?_
  refine w_bipush X213 hx (dB at_36) 38 rfl (95 : Int32) (by decide) ?_
  refine w_iastore X213 hx hZ e213 F214 ⟨by decide, by decide⟩ 6 (by decide) (show 6 < 44 from (by decide)) (dB at_38) 39 rfl (fun T215 h215 X215 e215 W215 V215 => ?_)
  have F216 : Arv Z h215 a202 k202 .int (44 : Int32) [(.int (0 : Int32)), (.int (58 : Int32)), (.int (59 : Int32)), (.int (65 : Int32)), (.int (90 : Int32)), (.int (91 : Int32)), (.int (95 : Int32)), (.int (0 : Int32)), (.int (0 : Int32)), (.int (0 : Int32)), (.int (0 : Int32)), (.int (0 : Int32)), (.int (0 : Int32)), (.int (0 : Int32)), (.int (0 : Int32)), (.int (0 : Int32)), (.int (0 : Int32)), (.int (0 : Int32)), (.int (0 : Int32)), (.int (0 : Int32)), (.int (0 : Int32)), (.int (0 : Int32)), (.int (0 : Int32)), (.int (0 : Int32)), (.int (0 : Int32)), (.int (0 : Int32)), (.int (0 : Int32)), (.int (0 : Int32)), (.int (0 : Int32)), (.int (0 : Int32)), (.int (0 : Int32)), (.int (0 : Int32)), (.int (0 : Int32)), (.int (0 : Int32)), (.int (0 : Int32)), (.int (0 : Int32)), (.int (0 : Int32)), (.int (0 : Int32)), (.int (0 : Int32)), (.int (0 : Int32)), (.int (0 : Int32)), (.int (0 : Int32)), (.int (0 : Int32)), (.int (0 : Int32))] (.int (0 : Int32)) := V215
  have Z215 : n0 ≤ h215.size := by rw [W215.size]; exact Z213
  have K215 : Keep h0 h215 [] := K213.wr W215 (Or.inr s_a202)
  have N215 := Fr.snoc X215 N213 g_a202
  refine w_dup X215 hx (dB at_39) 40 rfl rfl ?_
  refine w_bipush X215 hx (dB at_40) 42 rfl (7 : Int32) (by decide) ?_
  refine w_bipush X215 hx (dB at_42) 44 rfl (96 : Int32) (by decide) ?_
  refine w_iastore X215 hx hZ e215 F216 ⟨by decide, by decide⟩ 7 (by decide) (show 7 < 44 from (by decide)) (dB at_44) 45 rfl (fun T217 h217 X217 e217 W217 V217 => ?_)
  have F218 : Arv Z h217 a202 k202 .int (44 : Int32) [(.int (0 : Int32)), (.int (58 : Int32)), (.int (59 : Int32)), (.int (65 : Int32)), (.int (90 : Int32)), (.int (91 : Int32)), (.int (95 : Int32)), (.int (96 : Int32)), (.int (0 : Int32)), (.int (0 : Int32)), (.int (0 : Int32)), (.int (0 : Int32)), (.int (0 : Int32)), (.int (0 : Int32)), (.int (0 : Int32)), (.int (0 : Int32)), (.int (0 : Int32)), (.int (0 : Int32)), (.int (0 : Int32)), (.int (0 : Int32)), (.int (0 : Int32)), (.int (0 : Int32)), (.int (0 : Int32)), (.int (0 : Int32)), (.int (0 : Int32)), (.int (0 : Int32)), (.int (0 : Int32)), (.int (0 : Int32)), (.int (0 : Int32)), (.int (0 : Int32)), (.int (0 : Int32)), (.int (0 : Int32)), (.int (0 : Int32)), (.int (0 : Int32)), (.int (0 : Int32)), (.int (0 : Int32)), (.int (0 : Int32)), (.int (0 : Int32)), (.int (0 : Int32)), (.int (0 : Int32)), (.int (0 : Int32)), (.int (0 : Int32)), (.int (0 : Int32)), (.int (0 : Int32))] (.int (0 : Int32)) := V217
  have Z217 : n0 ≤ h217.size := by rw [W217.size]; exact Z215
  have K217 : Keep h0 h217 [] := K215.wr W217 (Or.inr s_a202)
  have N217 := Fr.snoc X217 N215 g_a202
  refine w_dup X217 hx (dB at_45) 46 rfl rfl ?_
  refine w_bipush X217 hx (dB at_46) 48 rfl (8 : Int32) (by decide) ?_
  refine w_bipush X217 hx (dB at_48) 50 rfl (97 : Int32) (by decide) ?_
  refine w_iastore X217 hx hZ e217 F218 ⟨by decide, by decide⟩ 8 (by decide) (show 8 < 44 from (by decide)) (dB at_50) 51 rfl (fun T219 h219 X219 e219 W219 V219 => ?_)
  have F220 : Arv Z h219 a202 k202 .int (44 : Int32) [(.int (0 : Int32)), (.int (58 : Int32)), (.int (59 : Int32)), (.int (65 : Int32)), (.int (90 : Int32)), (.int (91 : Int32)), (.int (95 : Int32)), (.int (96 : Int32)), (.int (97 : Int32)), (.int (0 : Int32)), (.int (0 : Int32)), (.int (0 : Int32)), (.int (0 : Int32)), (.int (0 : Int32)), (.int (0 : Int32)), (.int (0 : Int32)), (.int (0 : Int32)), (.int (0 : Int32)), (.int (0 : Int32)), (.int (0 : Int32)), (.int (0 : Int32)), (.int (0 : Int32)), (.int (0 : Int32)), (.int (0 : Int32)), (.int (0 : Int32)), (.int (0 : Int32)), (.int (0 : Int32)), (.int (0 : Int32)), (.int (0 : Int32)), (.int (0 : Int32)), (.int (0 : Int32)), (.int (0 : Int32)), (.int (0 : Int32)), (.int (0 : Int32)), (.int (0 : Int32)), (.int (0 : Int32)), (.int (0 : Int32)), (.int (0 : Int32)), (.int (0 : Int32)), (.int (0 : Int32)), (.int (0 : Int32)), (.int (0 : Int32)), (.int (0 : Int32)), (.int (0 : Int32))] (.int (0 : Int32)) := V219
  have Z219 : n0 ≤ h219.size := by rw [W219.size]; exact Z217
  have K219 : Keep h0 h219 [] := K217.wr W219 (Or.inr s_a202)
  have N219 := Fr.snoc X219 N217 g_a202
  refine w_dup X219 hx (dB at_51) 52 rfl rfl ?_
  refine w_bipush X219 hx (dB at_52) 54 rfl (9 : Int32) (by decide) ?_
  refine w_bipush X219 hx (dB at_54) 56 rfl (122 : Int32) (by decide) ?_
  refine w_iastore X219 hx hZ e219 F220 ⟨by decide, by decide⟩ 9 (by decide) (show 9 < 44 from (by decide)) (dB at_56) 57 rfl (fun T221 h221 X221 e221 W221 V221 => ?_)
  have F222 : Arv Z h221 a202 k202 .int (44 : Int32) [(.int (0 : Int32)), (.int (58 : Int32)), (.int (59 : Int32)), (.int (65 : Int32)), (.int (90 : Int32)), (.int (91 : Int32)), (.int (95 : Int32)), (.int (96 : Int32)), (.int (97 : Int32)), (.int (122 : Int32)), (.int (0 : Int32)), (.int (0 : Int32)), (.int (0 : Int32)), (.int (0 : Int32)), (.int (0 : Int32)), (.int (0 : Int32)), (.int (0 : Int32)), (.int (0 : Int32)), (.int (0 : Int32)), (.int (0 : Int32)), (.int (0 : Int32)), (.int (0 : Int32)), (.int (0 : Int32)), (.int (0 : Int32)), (.int (0 : Int32)), (.int (0 : Int32)), (.int (0 : Int32)), (.int (0 : Int32)), (.int (0 : Int32)), (.int (0 : Int32)), (.int (0 : Int32)), (.int (0 : Int32)), (.int (0 : Int32)), (.int (0 : Int32)), (.int (0 : Int32)), (.int (0 : Int32)), (.int (0 : Int32)), (.int (0 : Int32)), (.int (0 : Int32)), (.int (0 : Int32)), (.int (0 : Int32)), (.int (0 : Int32)), (.int (0 : Int32)), (.int (0 : Int32))] (.int (0 : Int32)) := V221
  have Z221 : n0 ≤ h221.size := by rw [W221.size]; exact Z219
  have K221 : Keep h0 h221 [] := K219.wr W221 (Or.inr s_a202)
  have N221 := Fr.snoc X221 N219 g_a202
  refine w_dup X221 hx (dB at_57) 58 rfl rfl ?_
  refine w_bipush X221 hx (dB at_58) 60 rfl (10 : Int32) (by decide) ?_
  refine w_bipush X221 hx (dB at_60) 62 rfl (123 : Int32) (by decide) ?_
  refine w_iastore X221 hx hZ e221 F222 ⟨by decide, by decide⟩ 10 (by decide) (show 10 < 44 from (by decide)) (dB at_62) 63 rfl (fun T223 h223 X223 e223 W223 V223 => ?_)
  have F224 : Arv Z h223 a202 k202 .int (44 : Int32) [(.int (0 : Int32)), (.int (58 : Int32)), (.int (59 : Int32)), (.int (65 : Int32)), (.int (90 : Int32)), (.int (91 : Int32)), (.int (95 : Int32)), (.int (96 : Int32)), (.int (97 : Int32)), (.int (122 : Int32)), (.int (123 : Int32)), (.int (0 : Int32)), (.int (0 : Int32)), (.int (0 : Int32)), (.int (0 : Int32)), (.int (0 : Int32)), (.int (0 : Int32)), (.int (0 : Int32)), (.int (0 : Int32)), (.int (0 : Int32)), (.int (0 : Int32)), (.int (0 : Int32)), (.int (0 : Int32)), (.int (0 : Int32)), (.int (0 : Int32)), (.int (0 : Int32)), (.int (0 : Int32)), (.int (0 : Int32)), (.int (0 : Int32)), (.int (0 : Int32)), (.int (0 : Int32)), (.int (0 : Int32)), (.int (0 : Int32)), (.int (0 : Int32)), (.int (0 : Int32)), (.int (0 : Int32)), (.int (0 : Int32)), (.int (0 : Int32)), (.int (0 : Int32)), (.int (0 : Int32)), (.int (0 : Int32)), (.int (0 : Int32)), (.int (0 : Int32)), (.int (0 : Int32))] (.int (0 : Int32)) := V223
  have Z223 : n0 ≤ h223.size := by rw [W223.size]; exact Z221
  have K223 : Keep h0 h223 [] := K221.wr W223 (Or.inr s_a202)
  have N223 := Fr.snoc X223 N221 g_a202
  refine w_dup X223 hx (dB at_63) 64 rfl rfl ?_
  refine w_bipush X223 hx (dB at_64) 66 rfl (11 : Int32) (by decide) ?_
  refine w_sipush X223 hx (dB at_66) 69 rfl (128 : Int32) (by decide) ?_
  refine w_iastore X223 hx hZ e223 F224 ⟨by decide, by decide⟩ 11 (by decide) (show 11 < 44 from (by decide)) (dB at_69) 70 rfl (fun T225 h225 X225 e225 W225 V225 => ?_)
  have F226 : Arv Z h225 a202 k202 .int (44 : Int32) [(.int (0 : Int32)), (.int (58 : Int32)), (.int (59 : Int32)), (.int (65 : Int32)), (.int (90 : Int32)), (.int (91 : Int32)), (.int (95 : Int32)), (.int (96 : Int32)), (.int (97 : Int32)), (.int (122 : Int32)), (.int (123 : Int32)), (.int (128 : Int32)), (.int (0 : Int32)), (.int (0 : Int32)), (.int (0 : Int32)), (.int (0 : Int32)), (.int (0 : Int32)), (.int (0 : Int32)), (.int (0 : Int32)), (.int (0 : Int32)), (.int (0 : Int32)), (.int (0 : Int32)), (.int (0 : Int32)), (.int (0 : Int32)), (.int (0 : Int32)), (.int (0 : Int32)), (.int (0 : Int32)), (.int (0 : Int32)), (.int (0 : Int32)), (.int (0 : Int32)), (.int (0 : Int32)), (.int (0 : Int32)), (.int (0 : Int32)), (.int (0 : Int32)), (.int (0 : Int32)), (.int (0 : Int32)), (.int (0 : Int32)), (.int (0 : Int32)), (.int (0 : Int32)), (.int (0 : Int32)), (.int (0 : Int32)), (.int (0 : Int32)), (.int (0 : Int32)), (.int (0 : Int32))] (.int (0 : Int32)) := V225
  have Z225 : n0 ≤ h225.size := by rw [W225.size]; exact Z223
  have K225 : Keep h0 h225 [] := K223.wr W225 (Or.inr s_a202)
  have N225 := Fr.snoc X225 N223 g_a202
  refine w_dup X225 hx (dB at_70) 71 rfl rfl ?_
  refine w_bipush X225 hx (dB at_71) 73 rfl (12 : Int32) (by decide) ?_
  refine w_sipush X225 hx (dB at_73) 76 rfl (192 : Int32) (by decide) ?_
  refine w_iastore X225 hx hZ e225 F226 ⟨by decide, by decide⟩ 12 (by decide) (show 12 < 44 from (by decide)) (dB at_76) 77 rfl (fun T227 h227 X227 e227 W227 V227 => ?_)
  have F228 : Arv Z h227 a202 k202 .int (44 : Int32) [(.int (0 : Int32)), (.int (58 : Int32)), (.int (59 : Int32)), (.int (65 : Int32)), (.int (90 : Int32)), (.int (91 : Int32)), (.int (95 : Int32)), (.int (96 : Int32)), (.int (97 : Int32)), (.int (122 : Int32)), (.int (123 : Int32)), (.int (128 : Int32)), (.int (192 : Int32)), (.int (0 : Int32)), (.int (0 : Int32)), (.int (0 : Int32)), (.int (0 : Int32)), (.int (0 : Int32)), (.int (0 : Int32)), (.int (0 : Int32)), (.int (0 : Int32)), (.int (0 : Int32)), (.int (0 : Int32)), (.int (0 : Int32)), (.int (0 : Int32)), (.int (0 : Int32)), (.int (0 : Int32)), (.int (0 : Int32)), (.int (0 : Int32)), (.int (0 : Int32)), (.int (0 : Int32)), (.int (0 : Int32)), (.int (0 : Int32)), (.int (0 : Int32)), (.int (0 : Int32)), (.int (0 : Int32)), (.int (0 : Int32)), (.int (0 : Int32)), (.int (0 : Int32)), (.int (0 : Int32)), (.int (0 : Int32)), (.int (0 : Int32)), (.int (0 : Int32)), (.int (0 : Int32))] (.int (0 : Int32)) := V227
  have Z227 : n0 ≤ h227.size := by rw [W227.size]; exact Z225
  have K227 : Keep h0 h227 [] := K225.wr W227 (Or.inr s_a202)
  have N227 := Fr.snoc X227 N225 g_a202
  refine w_dup X227 hx (dB at_77) 78 rfl rfl ?_
  refine w_bipush X227 hx (dB at_78) 80 rfl (13 : Int32) (by decide) ?_
  refine w_sipush X227 hx (dB at_80) 83 rfl (214 : Int32) (by decide) ?_
  refine w_iastore X227 hx hZ e227 F228 ⟨by decide, by decide⟩ 13 (by decide) (show 13 < 44 from (by decide)) (dB at_83) 84 rfl (fun T229 h229 X229 e229 W229 V229 => ?_)
  have F230 : Arv Z h229 a202 k202 .int (44 : Int32) [(.int (0 : Int32)), (.int (58 : Int32)), (.int (59 : Int32)), (.int (65 : Int32)), (.int (90 : Int32)), (.int (91 : Int32)), (.int (95 : Int32)), (.int (96 : Int32)), (.int (97 : Int32)), (.int (122 : Int32)), (.int (123 : Int32)), (.int (128 : Int32)), (.int (192 : Int32)), (.int (214 : Int32)), (.int (0 : Int32)), (.int (0 : Int32)), (.int (0 : Int32)), (.int (0 : Int32)), (.int (0 : Int32)), (.int (0 : Int32)), (.int (0 : Int32)), (.int (0 : Int32)), (.int (0 : Int32)), (.int (0 : Int32)), (.int (0 : Int32)), (.int (0 : Int32)), (.int (0 : Int32)), (.int (0 : Int32)), (.int (0 : Int32)), (.int (0 : Int32)), (.int (0 : Int32)), (.int (0 : Int32)), (.int (0 : Int32)), (.int (0 : Int32)), (.int (0 : Int32)), (.int (0 : Int32)), (.int (0 : Int32)), (.int (0 : Int32)), (.int (0 : Int32)), (.int (0 : Int32)), (.int (0 : Int32)), (.int (0 : Int32)), (.int (0 : Int32)), (.int (0 : Int32))] (.int (0 : Int32)) := V229
  have Z229 : n0 ≤ h229.size := by rw [W229.size]; exact Z227
  have K229 : Keep h0 h229 [] := K227.wr W229 (Or.inr s_a202)
  have N229 := Fr.snoc X229 N227 g_a202
  refine w_dup X229 hx (dB at_84) 85 rfl rfl ?_
  refine w_bipush X229 hx (dB at_85) 87 rfl (14 : Int32) (by decide) ?_
  refine w_sipush X229 hx (dB at_87) 90 rfl (215 : Int32) (by decide) ?_
  refine w_iastore X229 hx hZ e229 F230 ⟨by decide, by decide⟩ 14 (by decide) (show 14 < 44 from (by decide)) (dB at_90) 91 rfl (fun T231 h231 X231 e231 W231 V231 => ?_)
  have F232 : Arv Z h231 a202 k202 .int (44 : Int32) [(.int (0 : Int32)), (.int (58 : Int32)), (.int (59 : Int32)), (.int (65 : Int32)), (.int (90 : Int32)), (.int (91 : Int32)), (.int (95 : Int32)), (.int (96 : Int32)), (.int (97 : Int32)), (.int (122 : Int32)), (.int (123 : Int32)), (.int (128 : Int32)), (.int (192 : Int32)), (.int (214 : Int32)), (.int (215 : Int32)), (.int (0 : Int32)), (.int (0 : Int32)), (.int (0 : Int32)), (.int (0 : Int32)), (.int (0 : Int32)), (.int (0 : Int32)), (.int (0 : Int32)), (.int (0 : Int32)), (.int (0 : Int32)), (.int (0 : Int32)), (.int (0 : Int32)), (.int (0 : Int32)), (.int (0 : Int32)), (.int (0 : Int32)), (.int (0 : Int32)), (.int (0 : Int32)), (.int (0 : Int32)), (.int (0 : Int32)), (.int (0 : Int32)), (.int (0 : Int32)), (.int (0 : Int32)), (.int (0 : Int32)), (.int (0 : Int32)), (.int (0 : Int32)), (.int (0 : Int32)), (.int (0 : Int32)), (.int (0 : Int32)), (.int (0 : Int32)), (.int (0 : Int32))] (.int (0 : Int32)) := V231
  have Z231 : n0 ≤ h231.size := by rw [W231.size]; exact Z229
  have K231 : Keep h0 h231 [] := K229.wr W231 (Or.inr s_a202)
  have N231 := Fr.snoc X231 N229 g_a202
  refine w_dup X231 hx (dB at_91) 92 rfl rfl ?_
  refine w_bipush X231 hx (dB at_92) 94 rfl (15 : Int32) (by decide) ?_
  refine w_sipush X231 hx (dB at_94) 97 rfl (216 : Int32) (by decide) ?_
  refine w_iastore X231 hx hZ e231 F232 ⟨by decide, by decide⟩ 15 (by decide) (show 15 < 44 from (by decide)) (dB at_97) 98 rfl (fun T233 h233 X233 e233 W233 V233 => ?_)
  have F234 : Arv Z h233 a202 k202 .int (44 : Int32) [(.int (0 : Int32)), (.int (58 : Int32)), (.int (59 : Int32)), (.int (65 : Int32)), (.int (90 : Int32)), (.int (91 : Int32)), (.int (95 : Int32)), (.int (96 : Int32)), (.int (97 : Int32)), (.int (122 : Int32)), (.int (123 : Int32)), (.int (128 : Int32)), (.int (192 : Int32)), (.int (214 : Int32)), (.int (215 : Int32)), (.int (216 : Int32)), (.int (0 : Int32)), (.int (0 : Int32)), (.int (0 : Int32)), (.int (0 : Int32)), (.int (0 : Int32)), (.int (0 : Int32)), (.int (0 : Int32)), (.int (0 : Int32)), (.int (0 : Int32)), (.int (0 : Int32)), (.int (0 : Int32)), (.int (0 : Int32)), (.int (0 : Int32)), (.int (0 : Int32)), (.int (0 : Int32)), (.int (0 : Int32)), (.int (0 : Int32)), (.int (0 : Int32)), (.int (0 : Int32)), (.int (0 : Int32)), (.int (0 : Int32)), (.int (0 : Int32)), (.int (0 : Int32)), (.int (0 : Int32)), (.int (0 : Int32)), (.int (0 : Int32)), (.int (0 : Int32)), (.int (0 : Int32))] (.int (0 : Int32)) := V233
  have Z233 : n0 ≤ h233.size := by rw [W233.size]; exact Z231
  have K233 : Keep h0 h233 [] := K231.wr W233 (Or.inr s_a202)
  have N233 := Fr.snoc X233 N231 g_a202
  refine w_dup X233 hx (dB at_98) 99 rfl rfl ?_
  refine w_bipush X233 hx (dB at_99) 101 rfl (16 : Int32) (by decide) ?_
  refine w_sipush X233 hx (dB at_101) 104 rfl (246 : Int32) (by decide) ?_
  refine w_iastore X233 hx hZ e233 F234 ⟨by decide, by decide⟩ 16 (by decide) (show 16 < 44 from (by decide)) (dB at_104) 105 rfl (fun T235 h235 X235 e235 W235 V235 => ?_)
  have F236 : Arv Z h235 a202 k202 .int (44 : Int32) [(.int (0 : Int32)), (.int (58 : Int32)), (.int (59 : Int32)), (.int (65 : Int32)), (.int (90 : Int32)), (.int (91 : Int32)), (.int (95 : Int32)), (.int (96 : Int32)), (.int (97 : Int32)), (.int (122 : Int32)), (.int (123 : Int32)), (.int (128 : Int32)), (.int (192 : Int32)), (.int (214 : Int32)), (.int (215 : Int32)), (.int (216 : Int32)), (.int (246 : Int32)), (.int (0 : Int32)), (.int (0 : Int32)), (.int (0 : Int32)), (.int (0 : Int32)), (.int (0 : Int32)), (.int (0 : Int32)), (.int (0 : Int32)), (.int (0 : Int32)), (.int (0 : Int32)), (.int (0 : Int32)), (.int (0 : Int32)), (.int (0 : Int32)), (.int (0 : Int32)), (.int (0 : Int32)), (.int (0 : Int32)), (.int (0 : Int32)), (.int (0 : Int32)), (.int (0 : Int32)), (.int (0 : Int32)), (.int (0 : Int32)), (.int (0 : Int32)), (.int (0 : Int32)), (.int (0 : Int32)), (.int (0 : Int32)), (.int (0 : Int32)), (.int (0 : Int32)), (.int (0 : Int32))] (.int (0 : Int32)) := V235
  have Z235 : n0 ≤ h235.size := by rw [W235.size]; exact Z233
  have K235 : Keep h0 h235 [] := K233.wr W235 (Or.inr s_a202)
  have N235 := Fr.snoc X235 N233 g_a202
  refine w_dup X235 hx (dB at_105) 106 rfl rfl ?_
  refine w_bipush X235 hx (dB at_106) 108 rfl (17 : Int32) (by decide) ?_
  refine w_sipush X235 hx (dB at_108) 111 rfl (247 : Int32) (by decide) ?_
  refine w_iastore X235 hx hZ e235 F236 ⟨by decide, by decide⟩ 17 (by decide) (show 17 < 44 from (by decide)) (dB at_111) 112 rfl (fun T237 h237 X237 e237 W237 V237 => ?_)
  have F238 : Arv Z h237 a202 k202 .int (44 : Int32) [(.int (0 : Int32)), (.int (58 : Int32)), (.int (59 : Int32)), (.int (65 : Int32)), (.int (90 : Int32)), (.int (91 : Int32)), (.int (95 : Int32)), (.int (96 : Int32)), (.int (97 : Int32)), (.int (122 : Int32)), (.int (123 : Int32)), (.int (128 : Int32)), (.int (192 : Int32)), (.int (214 : Int32)), (.int (215 : Int32)), (.int (216 : Int32)), (.int (246 : Int32)), (.int (247 : Int32)), (.int (0 : Int32)), (.int (0 : Int32)), (.int (0 : Int32)), (.int (0 : Int32)), (.int (0 : Int32)), (.int (0 : Int32)), (.int (0 : Int32)), (.int (0 : Int32)), (.int (0 : Int32)), (.int (0 : Int32)), (.int (0 : Int32)), (.int (0 : Int32)), (.int (0 : Int32)), (.int (0 : Int32)), (.int (0 : Int32)), (.int (0 : Int32)), (.int (0 : Int32)), (.int (0 : Int32)), (.int (0 : Int32)), (.int (0 : Int32)), (.int (0 : Int32)), (.int (0 : Int32)), (.int (0 : Int32)), (.int (0 : Int32)), (.int (0 : Int32)), (.int (0 : Int32))] (.int (0 : Int32)) := V237
  have Z237 : n0 ≤ h237.size := by rw [W237.size]; exact Z235
  have K237 : Keep h0 h237 [] := K235.wr W237 (Or.inr s_a202)
  have N237 := Fr.snoc X237 N235 g_a202
  refine w_dup X237 hx (dB at_112) 113 rfl rfl ?_
  refine w_bipush X237 hx (dB at_113) 115 rfl (18 : Int32) (by decide) ?_
  refine w_sipush X237 hx (dB at_115) 118 rfl (248 : Int32) (by decide) ?_
  refine w_iastore X237 hx hZ e237 F238 ⟨by decide, by decide⟩ 18 (by decide) (show 18 < 44 from (by decide)) (dB at_118) 119 rfl (fun T239 h239 X239 e239 W239 V239 => ?_)
  have F240 : Arv Z h239 a202 k202 .int (44 : Int32) [(.int (0 : Int32)), (.int (58 : Int32)), (.int (59 : Int32)), (.int (65 : Int32)), (.int (90 : Int32)), (.int (91 : Int32)), (.int (95 : Int32)), (.int (96 : Int32)), (.int (97 : Int32)), (.int (122 : Int32)), (.int (123 : Int32)), (.int (128 : Int32)), (.int (192 : Int32)), (.int (214 : Int32)), (.int (215 : Int32)), (.int (216 : Int32)), (.int (246 : Int32)), (.int (247 : Int32)), (.int (248 : Int32)), (.int (0 : Int32)), (.int (0 : Int32)), (.int (0 : Int32)), (.int (0 : Int32)), (.int (0 : Int32)), (.int (0 : Int32)), (.int (0 : Int32)), (.int (0 : Int32)), (.int (0 : Int32)), (.int (0 : Int32)), (.int (0 : Int32)), (.int (0 : Int32)), (.int (0 : Int32)), (.int (0 : Int32)), (.int (0 : Int32)), (.int (0 : Int32)), (.int (0 : Int32)), (.int (0 : Int32)), (.int (0 : Int32)), (.int (0 : Int32)), (.int (0 : Int32)), (.int (0 : Int32)), (.int (0 : Int32)), (.int (0 : Int32)), (.int (0 : Int32))] (.int (0 : Int32)) := V239
  have Z239 : n0 ≤ h239.size := by rw [W239.size]; exact Z237
  have K239 : Keep h0 h239 [] := K237.wr W239 (Or.inr s_a202)
  have N239 := Fr.snoc X239 N237 g_a202
  refine w_dup X239 hx (dB at_119) 120 rfl rfl ?_
  refine w_bipush X239 hx (dB at_120) 122 rfl (19 : Int32) (by decide) ?_
  refine w_sipush X239 hx (dB at_122) 125 rfl (767 : Int32) (by decide) ?_
  refine w_iastore X239 hx hZ e239 F240 ⟨by decide, by decide⟩ 19 (by decide) (show 19 < 44 from (by decide)) (dB at_125) 126 rfl (fun T241 h241 X241 e241 W241 V241 => ?_)
  have F242 : Arv Z h241 a202 k202 .int (44 : Int32) [(.int (0 : Int32)), (.int (58 : Int32)), (.int (59 : Int32)), (.int (65 : Int32)), (.int (90 : Int32)), (.int (91 : Int32)), (.int (95 : Int32)), (.int (96 : Int32)), (.int (97 : Int32)), (.int (122 : Int32)), (.int (123 : Int32)), (.int (128 : Int32)), (.int (192 : Int32)), (.int (214 : Int32)), (.int (215 : Int32)), (.int (216 : Int32)), (.int (246 : Int32)), (.int (247 : Int32)), (.int (248 : Int32)), (.int (767 : Int32)), (.int (0 : Int32)), (.int (0 : Int32)), (.int (0 : Int32)), (.int (0 : Int32)), (.int (0 : Int32)), (.int (0 : Int32)), (.int (0 : Int32)), (.int (0 : Int32)), (.int (0 : Int32)), (.int (0 : Int32)), (.int (0 : Int32)), (.int (0 : Int32)), (.int (0 : Int32)), (.int (0 : Int32)), (.int (0 : Int32)), (.int (0 : Int32)), (.int (0 : Int32)), (.int (0 : Int32)), (.int (0 : Int32)), (.int (0 : Int32)), (.int (0 : Int32)), (.int (0 : Int32)), (.int (0 : Int32)), (.int (0 : Int32))] (.int (0 : Int32)) := V241
  have Z241 : n0 ≤ h241.size := by rw [W241.size]; exact Z239
  have K241 : Keep h0 h241 [] := K239.wr W241 (Or.inr s_a202)
  have N241 := Fr.snoc X241 N239 g_a202
  refine w_dup X241 hx (dB at_126) 127 rfl rfl ?_
  refine w_bipush X241 hx (dB at_127) 129 rfl (20 : Int32) (by decide) ?_
  refine w_sipush X241 hx (dB at_129) 132 rfl (768 : Int32) (by decide) ?_
  refine w_iastore X241 hx hZ e241 F242 ⟨by decide, by decide⟩ 20 (by decide) (show 20 < 44 from (by decide)) (dB at_132) 133 rfl (fun T243 h243 X243 e243 W243 V243 => ?_)
  have F244 : Arv Z h243 a202 k202 .int (44 : Int32) [(.int (0 : Int32)), (.int (58 : Int32)), (.int (59 : Int32)), (.int (65 : Int32)), (.int (90 : Int32)), (.int (91 : Int32)), (.int (95 : Int32)), (.int (96 : Int32)), (.int (97 : Int32)), (.int (122 : Int32)), (.int (123 : Int32)), (.int (128 : Int32)), (.int (192 : Int32)), (.int (214 : Int32)), (.int (215 : Int32)), (.int (216 : Int32)), (.int (246 : Int32)), (.int (247 : Int32)), (.int (248 : Int32)), (.int (767 : Int32)), (.int (768 : Int32)), (.int (0 : Int32)), (.int (0 : Int32)), (.int (0 : Int32)), (.int (0 : Int32)), (.int (0 : Int32)), (.int (0 : Int32)), (.int (0 : Int32)), (.int (0 : Int32)), (.int (0 : Int32)), (.int (0 : Int32)), (.int (0 : Int32)), (.int (0 : Int32)), (.int (0 : Int32)), (.int (0 : Int32)), (.int (0 : Int32)), (.int (0 : Int32)), (.int (0 : Int32)), (.int (0 : Int32)), (.int (0 : Int32)), (.int (0 : Int32)), (.int (0 : Int32)), (.int (0 : Int32)), (.int (0 : Int32))] (.int (0 : Int32)) := V243
  have Z243 : n0 ≤ h243.size := by rw [W243.size]; exact Z241
  have K243 : Keep h0 h243 [] := K241.wr W243 (Or.inr s_a202)
  have N243 := Fr.snoc X243 N241 g_a202
  refine w_dup X243 hx (dB at_133) 134 rfl rfl ?_
  refine w_bipush X243 hx (dB at_134) 136 rfl (21 : Int32) (by decide) ?_
  refine w_sipush X243 hx (dB at_136) 139 rfl (880 : Int32) (by decide) ?_
  refine w_iastore X243 hx hZ e243 F244 ⟨by decide, by decide⟩ 21 (by decide) (show 21 < 44 from (by decide)) (dB at_139) 140 rfl (fun T245 h245 X245 e245 W245 V245 => ?_)
  have F246 : Arv Z h245 a202 k202 .int (44 : Int32) [(.int (0 : Int32)), (.int (58 : Int32)), (.int (59 : Int32)), (.int (65 : Int32)), (.int (90 : Int32)), (.int (91 : Int32)), (.int (95 : Int32)), (.int (96 : Int32)), (.int (97 : Int32)), (.int (122 : Int32)), (.int (123 : Int32)), (.int (128 : Int32)), (.int (192 : Int32)), (.int (214 : Int32)), (.int (215 : Int32)), (.int (216 : Int32)), (.int (246 : Int32)), (.int (247 : Int32)), (.int (248 : Int32)), (.int (767 : Int32)), (.int (768 : Int32)), (.int (880 : Int32)), (.int (0 : Int32)), (.int (0 : Int32)), (.int (0 : Int32)), (.int (0 : Int32)), (.int (0 : Int32)), (.int (0 : Int32)), (.int (0 : Int32)), (.int (0 : Int32)), (.int (0 : Int32)), (.int (0 : Int32)), (.int (0 : Int32)), (.int (0 : Int32)), (.int (0 : Int32)), (.int (0 : Int32)), (.int (0 : Int32)), (.int (0 : Int32)), (.int (0 : Int32)), (.int (0 : Int32)), (.int (0 : Int32)), (.int (0 : Int32)), (.int (0 : Int32)), (.int (0 : Int32))] (.int (0 : Int32)) := V245
  have Z245 : n0 ≤ h245.size := by rw [W245.size]; exact Z243
  have K245 : Keep h0 h245 [] := K243.wr W245 (Or.inr s_a202)
  have N245 := Fr.snoc X245 N243 g_a202
  refine w_dup X245 hx (dB at_140) 141 rfl rfl ?_
  refine w_bipush X245 hx (dB at_141) 143 rfl (22 : Int32) (by decide) ?_
  refine w_sipush X245 hx (dB at_143) 146 rfl (893 : Int32) (by decide) ?_
  refine w_iastore X245 hx hZ e245 F246 ⟨by decide, by decide⟩ 22 (by decide) (show 22 < 44 from (by decide)) (dB at_146) 147 rfl (fun T247 h247 X247 e247 W247 V247 => ?_)
  have F248 : Arv Z h247 a202 k202 .int (44 : Int32) [(.int (0 : Int32)), (.int (58 : Int32)), (.int (59 : Int32)), (.int (65 : Int32)), (.int (90 : Int32)), (.int (91 : Int32)), (.int (95 : Int32)), (.int (96 : Int32)), (.int (97 : Int32)), (.int (122 : Int32)), (.int (123 : Int32)), (.int (128 : Int32)), (.int (192 : Int32)), (.int (214 : Int32)), (.int (215 : Int32)), (.int (216 : Int32)), (.int (246 : Int32)), (.int (247 : Int32)), (.int (248 : Int32)), (.int (767 : Int32)), (.int (768 : Int32)), (.int (880 : Int32)), (.int (893 : Int32)), (.int (0 : Int32)), (.int (0 : Int32)), (.int (0 : Int32)), (.int (0 : Int32)), (.int (0 : Int32)), (.int (0 : Int32)), (.int (0 : Int32)), (.int (0 : Int32)), (.int (0 : Int32)), (.int (0 : Int32)), (.int (0 : Int32)), (.int (0 : Int32)), (.int (0 : Int32)), (.int (0 : Int32)), (.int (0 : Int32)), (.int (0 : Int32)), (.int (0 : Int32)), (.int (0 : Int32)), (.int (0 : Int32)), (.int (0 : Int32)), (.int (0 : Int32))] (.int (0 : Int32)) := V247
  have Z247 : n0 ≤ h247.size := by rw [W247.size]; exact Z245
  have K247 : Keep h0 h247 [] := K245.wr W247 (Or.inr s_a202)
  have N247 := Fr.snoc X247 N245 g_a202
  refine w_dup X247 hx (dB at_147) 148 rfl rfl ?_
  refine w_bipush X247 hx (dB at_148) 150 rfl (23 : Int32) (by decide) ?_
  refine w_sipush X247 hx (dB at_150) 153 rfl (894 : Int32) (by decide) ?_
  refine w_iastore X247 hx hZ e247 F248 ⟨by decide, by decide⟩ 23 (by decide) (show 23 < 44 from (by decide)) (dB at_153) 154 rfl (fun T249 h249 X249 e249 W249 V249 => ?_)
  have F250 : Arv Z h249 a202 k202 .int (44 : Int32) [(.int (0 : Int32)), (.int (58 : Int32)), (.int (59 : Int32)), (.int (65 : Int32)), (.int (90 : Int32)), (.int (91 : Int32)), (.int (95 : Int32)), (.int (96 : Int32)), (.int (97 : Int32)), (.int (122 : Int32)), (.int (123 : Int32)), (.int (128 : Int32)), (.int (192 : Int32)), (.int (214 : Int32)), (.int (215 : Int32)), (.int (216 : Int32)), (.int (246 : Int32)), (.int (247 : Int32)), (.int (248 : Int32)), (.int (767 : Int32)), (.int (768 : Int32)), (.int (880 : Int32)), (.int (893 : Int32)), (.int (894 : Int32)), (.int (0 : Int32)), (.int (0 : Int32)), (.int (0 : Int32)), (.int (0 : Int32)), (.int (0 : Int32)), (.int (0 : Int32)), (.int (0 : Int32)), (.int (0 : Int32)), (.int (0 : Int32)), (.int (0 : Int32)), (.int (0 : Int32)), (.int (0 : Int32)), (.int (0 : Int32)), (.int (0 : Int32)), (.int (0 : Int32)), (.int (0 : Int32)), (.int (0 : Int32)), (.int (0 : Int32)), (.int (0 : Int32)), (.int (0 : Int32))] (.int (0 : Int32)) := V249
  have Z249 : n0 ≤ h249.size := by rw [W249.size]; exact Z247
  have K249 : Keep h0 h249 [] := K247.wr W249 (Or.inr s_a202)
  have N249 := Fr.snoc X249 N247 g_a202
  refine w_dup X249 hx (dB at_154) 155 rfl rfl ?_
  refine w_bipush X249 hx (dB at_155) 157 rfl (24 : Int32) (by decide) ?_
  refine w_sipush X249 hx (dB at_157) 160 rfl (895 : Int32) (by decide) ?_
  refine w_iastore X249 hx hZ e249 F250 ⟨by decide, by decide⟩ 24 (by decide) (show 24 < 44 from (by decide)) (dB at_160) 161 rfl (fun T251 h251 X251 e251 W251 V251 => ?_)
  have F252 : Arv Z h251 a202 k202 .int (44 : Int32) [(.int (0 : Int32)), (.int (58 : Int32)), (.int (59 : Int32)), (.int (65 : Int32)), (.int (90 : Int32)), (.int (91 : Int32)), (.int (95 : Int32)), (.int (96 : Int32)), (.int (97 : Int32)), (.int (122 : Int32)), (.int (123 : Int32)), (.int (128 : Int32)), (.int (192 : Int32)), (.int (214 : Int32)), (.int (215 : Int32)), (.int (216 : Int32)), (.int (246 : Int32)), (.int (247 : Int32)), (.int (248 : Int32)), (.int (767 : Int32)), (.int (768 : Int32)), (.int (880 : Int32)), (.int (893 : Int32)), (.int (894 : Int32)), (.int (895 : Int32)), (.int (0 : Int32)), (.int (0 : Int32)), (.int (0 : Int32)), (.int (0 : Int32)), (.int (0 : Int32)), (.int (0 : Int32)), (.int (0 : Int32)), (.int (0 : Int32)), (.int (0 : Int32)), (.int (0 : Int32)), (.int (0 : Int32)), (.int (0 : Int32)), (.int (0 : Int32)), (.int (0 : Int32)), (.int (0 : Int32)), (.int (0 : Int32)), (.int (0 : Int32)), (.int (0 : Int32)), (.int (0 : Int32))] (.int (0 : Int32)) := V251
  have Z251 : n0 ≤ h251.size := by rw [W251.size]; exact Z249
  have K251 : Keep h0 h251 [] := K249.wr W251 (Or.inr s_a202)
  have N251 := Fr.snoc X251 N249 g_a202
  refine w_dup X251 hx (dB at_161) 162 rfl rfl ?_
  refine w_bipush X251 hx (dB at_162) 164 rfl (25 : Int32) (by decide) ?_
  refine w_sipush X251 hx (dB at_164) 167 rfl (8191 : Int32) (by decide) ?_
  refine w_iastore X251 hx hZ e251 F252 ⟨by decide, by decide⟩ 25 (by decide) (show 25 < 44 from (by decide)) (dB at_167) 168 rfl (fun T253 h253 X253 e253 W253 V253 => ?_)
  have F254 : Arv Z h253 a202 k202 .int (44 : Int32) [(.int (0 : Int32)), (.int (58 : Int32)), (.int (59 : Int32)), (.int (65 : Int32)), (.int (90 : Int32)), (.int (91 : Int32)), (.int (95 : Int32)), (.int (96 : Int32)), (.int (97 : Int32)), (.int (122 : Int32)), (.int (123 : Int32)), (.int (128 : Int32)), (.int (192 : Int32)), (.int (214 : Int32)), (.int (215 : Int32)), (.int (216 : Int32)), (.int (246 : Int32)), (.int (247 : Int32)), (.int (248 : Int32)), (.int (767 : Int32)), (.int (768 : Int32)), (.int (880 : Int32)), (.int (893 : Int32)), (.int (894 : Int32)), (.int (895 : Int32)), (.int (8191 : Int32)), (.int (0 : Int32)), (.int (0 : Int32)), (.int (0 : Int32)), (.int (0 : Int32)), (.int (0 : Int32)), (.int (0 : Int32)), (.int (0 : Int32)), (.int (0 : Int32)), (.int (0 : Int32)), (.int (0 : Int32)), (.int (0 : Int32)), (.int (0 : Int32)), (.int (0 : Int32)), (.int (0 : Int32)), (.int (0 : Int32)), (.int (0 : Int32)), (.int (0 : Int32)), (.int (0 : Int32))] (.int (0 : Int32)) := V253
  have Z253 : n0 ≤ h253.size := by rw [W253.size]; exact Z251
  have K253 : Keep h0 h253 [] := K251.wr W253 (Or.inr s_a202)
  have N253 := Fr.snoc X253 N251 g_a202
  refine w_dup X253 hx (dB at_168) 169 rfl rfl ?_
  refine w_bipush X253 hx (dB at_169) 171 rfl (26 : Int32) (by decide) ?_
  refine w_sipush X253 hx (dB at_171) 174 rfl (8204 : Int32) (by decide) ?_
  refine w_iastore X253 hx hZ e253 F254 ⟨by decide, by decide⟩ 26 (by decide) (show 26 < 44 from (by decide)) (dB at_174) 175 rfl (fun T255 h255 X255 e255 W255 V255 => ?_)
  have F256 : Arv Z h255 a202 k202 .int (44 : Int32) [(.int (0 : Int32)), (.int (58 : Int32)), (.int (59 : Int32)), (.int (65 : Int32)), (.int (90 : Int32)), (.int (91 : Int32)), (.int (95 : Int32)), (.int (96 : Int32)), (.int (97 : Int32)), (.int (122 : Int32)), (.int (123 : Int32)), (.int (128 : Int32)), (.int (192 : Int32)), (.int (214 : Int32)), (.int (215 : Int32)), (.int (216 : Int32)), (.int (246 : Int32)), (.int (247 : Int32)), (.int (248 : Int32)), (.int (767 : Int32)), (.int (768 : Int32)), (.int (880 : Int32)), (.int (893 : Int32)), (.int (894 : Int32)), (.int (895 : Int32)), (.int (8191 : Int32)), (.int (8204 : Int32)), (.int (0 : Int32)), (.int (0 : Int32)), (.int (0 : Int32)), (.int (0 : Int32)), (.int (0 : Int32)), (.int (0 : Int32)), (.int (0 : Int32)), (.int (0 : Int32)), (.int (0 : Int32)), (.int (0 : Int32)), (.int (0 : Int32)), (.int (0 : Int32)), (.int (0 : Int32)), (.int (0 : Int32)), (.int (0 : Int32)), (.int (0 : Int32)), (.int (0 : Int32))] (.int (0 : Int32)) := V255
  have Z255 : n0 ≤ h255.size := by rw [W255.size]; exact Z253
  have K255 : Keep h0 h255 [] := K253.wr W255 (Or.inr s_a202)
  have N255 := Fr.snoc X255 N253 g_a202
  refine w_dup X255 hx (dB at_175) 176 rfl rfl ?_
  refine w_bipush X255 hx (dB at_176) 178 rfl (27 : Int32) (by decide) ?_
  refine w_sipush X255 hx (dB at_178) 181 rfl (8205 : Int32) (by decide) ?_
  refine w_iastore X255 hx hZ e255 F256 ⟨by decide, by decide⟩ 27 (by decide) (show 27 < 44 from (by decide)) (dB at_181) 182 rfl (fun T257 h257 X257 e257 W257 V257 => ?_)
  have F258 : Arv Z h257 a202 k202 .int (44 : Int32) [(.int (0 : Int32)), (.int (58 : Int32)), (.int (59 : Int32)), (.int (65 : Int32)), (.int (90 : Int32)), (.int (91 : Int32)), (.int (95 : Int32)), (.int (96 : Int32)), (.int (97 : Int32)), (.int (122 : Int32)), (.int (123 : Int32)), (.int (128 : Int32)), (.int (192 : Int32)), (.int (214 : Int32)), (.int (215 : Int32)), (.int (216 : Int32)), (.int (246 : Int32)), (.int (247 : Int32)), (.int (248 : Int32)), (.int (767 : Int32)), (.int (768 : Int32)), (.int (880 : Int32)), (.int (893 : Int32)), (.int (894 : Int32)), (.int (895 : Int32)), (.int (8191 : Int32)), (.int (8204 : Int32)), (.int (8205 : Int32)), (.int (0 : Int32)), (.int (0 : Int32)), (.int (0 : Int32)), (.int (0 : Int32)), (.int (0 : Int32)), (.int (0 : Int32)), (.int (0 : Int32)), (.int (0 : Int32)), (.int (0 : Int32)), (.int (0 : Int32)), (.int (0 : Int32)), (.int (0 : Int32)), (.int (0 : Int32)), (.int (0 : Int32)), (.int (0 : Int32)), (.int (0 : Int32))] (.int (0 : Int32)) := V257
  have Z257 : n0 ≤ h257.size := by rw [W257.size]; exact Z255
  have K257 : Keep h0 h257 [] := K255.wr W257 (Or.inr s_a202)
  have N257 := Fr.snoc X257 N255 g_a202
  refine w_dup X257 hx (dB at_182) 183 rfl rfl ?_
  refine w_bipush X257 hx (dB at_183) 185 rfl (28 : Int32) (by decide) ?_
  refine w_sipush X257 hx (dB at_185) 188 rfl (8206 : Int32) (by decide) ?_
  refine w_iastore X257 hx hZ e257 F258 ⟨by decide, by decide⟩ 28 (by decide) (show 28 < 44 from (by decide)) (dB at_188) 189 rfl (fun T259 h259 X259 e259 W259 V259 => ?_)
  have F260 : Arv Z h259 a202 k202 .int (44 : Int32) [(.int (0 : Int32)), (.int (58 : Int32)), (.int (59 : Int32)), (.int (65 : Int32)), (.int (90 : Int32)), (.int (91 : Int32)), (.int (95 : Int32)), (.int (96 : Int32)), (.int (97 : Int32)), (.int (122 : Int32)), (.int (123 : Int32)), (.int (128 : Int32)), (.int (192 : Int32)), (.int (214 : Int32)), (.int (215 : Int32)), (.int (216 : Int32)), (.int (246 : Int32)), (.int (247 : Int32)), (.int (248 : Int32)), (.int (767 : Int32)), (.int (768 : Int32)), (.int (880 : Int32)), (.int (893 : Int32)), (.int (894 : Int32)), (.int (895 : Int32)), (.int (8191 : Int32)), (.int (8204 : Int32)), (.int (8205 : Int32)), (.int (8206 : Int32)), (.int (0 : Int32)), (.int (0 : Int32)), (.int (0 : Int32)), (.int (0 : Int32)), (.int (0 : Int32)), (.int (0 : Int32)), (.int (0 : Int32)), (.int (0 : Int32)), (.int (0 : Int32)), (.int (0 : Int32)), (.int (0 : Int32)), (.int (0 : Int32)), (.int (0 : Int32)), (.int (0 : Int32)), (.int (0 : Int32))] (.int (0 : Int32)) := V259
  have Z259 : n0 ≤ h259.size := by rw [W259.size]; exact Z257
  have K259 : Keep h0 h259 [] := K257.wr W259 (Or.inr s_a202)
  have N259 := Fr.snoc X259 N257 g_a202
  refine w_dup X259 hx (dB at_189) 190 rfl rfl ?_
  refine w_bipush X259 hx (dB at_190) 192 rfl (29 : Int32) (by decide) ?_
  refine w_sipush X259 hx (dB at_192) 195 rfl (8304 : Int32) (by decide) ?_
  refine w_iastore X259 hx hZ e259 F260 ⟨by decide, by decide⟩ 29 (by decide) (show 29 < 44 from (by decide)) (dB at_195) 196 rfl (fun T261 h261 X261 e261 W261 V261 => ?_)
  have F262 : Arv Z h261 a202 k202 .int (44 : Int32) [(.int (0 : Int32)), (.int (58 : Int32)), (.int (59 : Int32)), (.int (65 : Int32)), (.int (90 : Int32)), (.int (91 : Int32)), (.int (95 : Int32)), (.int (96 : Int32)), (.int (97 : Int32)), (.int (122 : Int32)), (.int (123 : Int32)), (.int (128 : Int32)), (.int (192 : Int32)), (.int (214 : Int32)), (.int (215 : Int32)), (.int (216 : Int32)), (.int (246 : Int32)), (.int (247 : Int32)), (.int (248 : Int32)), (.int (767 : Int32)), (.int (768 : Int32)), (.int (880 : Int32)), (.int (893 : Int32)), (.int (894 : Int32)), (.int (895 : Int32)), (.int (8191 : Int32)), (.int (8204 : Int32)), (.int (8205 : Int32)), (.int (8206 : Int32)), (.int (8304 : Int32)), (.int (0 : Int32)), (.int (0 : Int32)), (.int (0 : Int32)), (.int (0 : Int32)), (.int (0 : Int32)), (.int (0 : Int32)), (.int (0 : Int32)), (.int (0 : Int32)), (.int (0 : Int32)), (.int (0 : Int32)), (.int (0 : Int32)), (.int (0 : Int32)), (.int (0 : Int32)), (.int (0 : Int32))] (.int (0 : Int32)) := V261
  have Z261 : n0 ≤ h261.size := by rw [W261.size]; exact Z259
  have K261 : Keep h0 h261 [] := K259.wr W261 (Or.inr s_a202)
  have N261 := Fr.snoc X261 N259 g_a202
  refine w_dup X261 hx (dB at_196) 197 rfl rfl ?_
  refine w_bipush X261 hx (dB at_197) 199 rfl (30 : Int32) (by decide) ?_
  refine w_sipush X261 hx (dB at_199) 202 rfl (8591 : Int32) (by decide) ?_
  refine w_iastore X261 hx hZ e261 F262 ⟨by decide, by decide⟩ 30 (by decide) (show 30 < 44 from (by decide)) (dB at_202) 203 rfl (fun T263 h263 X263 e263 W263 V263 => ?_)
  have F264 : Arv Z h263 a202 k202 .int (44 : Int32) [(.int (0 : Int32)), (.int (58 : Int32)), (.int (59 : Int32)), (.int (65 : Int32)), (.int (90 : Int32)), (.int (91 : Int32)), (.int (95 : Int32)), (.int (96 : Int32)), (.int (97 : Int32)), (.int (122 : Int32)), (.int (123 : Int32)), (.int (128 : Int32)), (.int (192 : Int32)), (.int (214 : Int32)), (.int (215 : Int32)), (.int (216 : Int32)), (.int (246 : Int32)), (.int (247 : Int32)), (.int (248 : Int32)), (.int (767 : Int32)), (.int (768 : Int32)), (.int (880 : Int32)), (.int (893 : Int32)), (.int (894 : Int32)), (.int (895 : Int32)), (.int (8191 : Int32)), (.int (8204 : Int32)), (.int (8205 : Int32)), (.int (8206 : Int32)), (.int (8304 : Int32)), (.int (8591 : Int32)), (.int (0 : Int32)), (.int (0 : Int32)), (.int (0 : Int32)), (.int (0 : Int32)), (.int (0 : Int32)), (.int (0 : Int32)), (.int (0 : Int32)), (.int (0 : Int32)), (.int (0 : Int32)), (.int (0 : Int32)), (.int (0 : Int32)), (.int (0 : Int32)), (.int (0 : Int32))] (.int (0 : Int32)) := V263
  have Z263 : n0 ≤ h263.size := by rw [W263.size]; exact Z261
  have K263 : Keep h0 h263 [] := K261.wr W263 (Or.inr s_a202)
  have N263 := Fr.snoc X263 N261 g_a202
  refine w_dup X263 hx (dB at_203) 204 rfl rfl ?_
  refine w_bipush X263 hx (dB at_204) 206 rfl (31 : Int32) (by decide) ?_
  refine w_sipush X263 hx (dB at_206) 209 rfl (11264 : Int32) (by decide) ?_
  refine w_iastore X263 hx hZ e263 F264 ⟨by decide, by decide⟩ 31 (by decide) (show 31 < 44 from (by decide)) (dB at_209) 210 rfl (fun T265 h265 X265 e265 W265 V265 => ?_)
  have F266 : Arv Z h265 a202 k202 .int (44 : Int32) [(.int (0 : Int32)), (.int (58 : Int32)), (.int (59 : Int32)), (.int (65 : Int32)), (.int (90 : Int32)), (.int (91 : Int32)), (.int (95 : Int32)), (.int (96 : Int32)), (.int (97 : Int32)), (.int (122 : Int32)), (.int (123 : Int32)), (.int (128 : Int32)), (.int (192 : Int32)), (.int (214 : Int32)), (.int (215 : Int32)), (.int (216 : Int32)), (.int (246 : Int32)), (.int (247 : Int32)), (.int (248 : Int32)), (.int (767 : Int32)), (.int (768 : Int32)), (.int (880 : Int32)), (.int (893 : Int32)), (.int (894 : Int32)), (.int (895 : Int32)), (.int (8191 : Int32)), (.int (8204 : Int32)), (.int (8205 : Int32)), (.int (8206 : Int32)), (.int (8304 : Int32)), (.int (8591 : Int32)), (.int (11264 : Int32)), (.int (0 : Int32)), (.int (0 : Int32)), (.int (0 : Int32)), (.int (0 : Int32)), (.int (0 : Int32)), (.int (0 : Int32)), (.int (0 : Int32)), (.int (0 : Int32)), (.int (0 : Int32)), (.int (0 : Int32)), (.int (0 : Int32)), (.int (0 : Int32))] (.int (0 : Int32)) := V265
  have Z265 : n0 ≤ h265.size := by rw [W265.size]; exact Z263
  have K265 : Keep h0 h265 [] := K263.wr W265 (Or.inr s_a202)
  have N265 := Fr.snoc X265 N263 g_a202
  refine w_dup X265 hx (dB at_210) 211 rfl rfl ?_
  refine w_bipush X265 hx (dB at_211) 213 rfl (32 : Int32) (by decide) ?_
  refine w_sipush X265 hx (dB at_213) 216 rfl (12271 : Int32) (by decide) ?_
  refine w_iastore X265 hx hZ e265 F266 ⟨by decide, by decide⟩ 32 (by decide) (show 32 < 44 from (by decide)) (dB at_216) 217 rfl (fun T267 h267 X267 e267 W267 V267 => ?_)
  have F268 : Arv Z h267 a202 k202 .int (44 : Int32) [(.int (0 : Int32)), (.int (58 : Int32)), (.int (59 : Int32)), (.int (65 : Int32)), (.int (90 : Int32)), (.int (91 : Int32)), (.int (95 : Int32)), (.int (96 : Int32)), (.int (97 : Int32)), (.int (122 : Int32)), (.int (123 : Int32)), (.int (128 : Int32)), (.int (192 : Int32)), (.int (214 : Int32)), (.int (215 : Int32)), (.int (216 : Int32)), (.int (246 : Int32)), (.int (247 : Int32)), (.int (248 : Int32)), (.int (767 : Int32)), (.int (768 : Int32)), (.int (880 : Int32)), (.int (893 : Int32)), (.int (894 : Int32)), (.int (895 : Int32)), (.int (8191 : Int32)), (.int (8204 : Int32)), (.int (8205 : Int32)), (.int (8206 : Int32)), (.int (8304 : Int32)), (.int (8591 : Int32)), (.int (11264 : Int32)), (.int (12271 : Int32)), (.int (0 : Int32)), (.int (0 : Int32)), (.int (0 : Int32)), (.int (0 : Int32)), (.int (0 : Int32)), (.int (0 : Int32)), (.int (0 : Int32)), (.int (0 : Int32)), (.int (0 : Int32)), (.int (0 : Int32)), (.int (0 : Int32))] (.int (0 : Int32)) := V267
  have Z267 : n0 ≤ h267.size := by rw [W267.size]; exact Z265
  have K267 : Keep h0 h267 [] := K265.wr W267 (Or.inr s_a202)
  have N267 := Fr.snoc X267 N265 g_a202
  refine w_dup X267 hx (dB at_217) 218 rfl rfl ?_
  refine w_bipush X267 hx (dB at_218) 220 rfl (33 : Int32) (by decide) ?_
  refine w_sipush X267 hx (dB at_220) 223 rfl (12289 : Int32) (by decide) ?_
  refine w_iastore X267 hx hZ e267 F268 ⟨by decide, by decide⟩ 33 (by decide) (show 33 < 44 from (by decide)) (dB at_223) 224 rfl (fun T269 h269 X269 e269 W269 V269 => ?_)
  have F270 : Arv Z h269 a202 k202 .int (44 : Int32) [(.int (0 : Int32)), (.int (58 : Int32)), (.int (59 : Int32)), (.int (65 : Int32)), (.int (90 : Int32)), (.int (91 : Int32)), (.int (95 : Int32)), (.int (96 : Int32)), (.int (97 : Int32)), (.int (122 : Int32)), (.int (123 : Int32)), (.int (128 : Int32)), (.int (192 : Int32)), (.int (214 : Int32)), (.int (215 : Int32)), (.int (216 : Int32)), (.int (246 : Int32)), (.int (247 : Int32)), (.int (248 : Int32)), (.int (767 : Int32)), (.int (768 : Int32)), (.int (880 : Int32)), (.int (893 : Int32)), (.int (894 : Int32)), (.int (895 : Int32)), (.int (8191 : Int32)), (.int (8204 : Int32)), (.int (8205 : Int32)), (.int (8206 : Int32)), (.int (8304 : Int32)), (.int (8591 : Int32)), (.int (11264 : Int32)), (.int (12271 : Int32)), (.int (12289 : Int32)), (.int (0 : Int32)), (.int (0 : Int32)), (.int (0 : Int32)), (.int (0 : Int32)), (.int (0 : Int32)), (.int (0 : Int32)), (.int (0 : Int32)), (.int (0 : Int32)), (.int (0 : Int32)), (.int (0 : Int32))] (.int (0 : Int32)) := V269
  have Z269 : n0 ≤ h269.size := by rw [W269.size]; exact Z267
  have K269 : Keep h0 h269 [] := K267.wr W269 (Or.inr s_a202)
  have N269 := Fr.snoc X269 N267 g_a202
  refine w_dup X269 hx (dB at_224) 225 rfl rfl ?_
  refine w_bipush X269 hx (dB at_225) 227 rfl (34 : Int32) (by decide) ?_
  refine w_ldc X269 hx hZ hown (tw_1 hw) (dB at_227) 229 rfl ?_
  refine w_iastore X269 hx hZ e269 F270 ⟨by decide, by decide⟩ 34 (by decide) (show 34 < 44 from (by decide)) (dB at_229) 230 rfl (fun T271 h271 X271 e271 W271 V271 => ?_)
  have F272 : Arv Z h271 a202 k202 .int (44 : Int32) [(.int (0 : Int32)), (.int (58 : Int32)), (.int (59 : Int32)), (.int (65 : Int32)), (.int (90 : Int32)), (.int (91 : Int32)), (.int (95 : Int32)), (.int (96 : Int32)), (.int (97 : Int32)), (.int (122 : Int32)), (.int (123 : Int32)), (.int (128 : Int32)), (.int (192 : Int32)), (.int (214 : Int32)), (.int (215 : Int32)), (.int (216 : Int32)), (.int (246 : Int32)), (.int (247 : Int32)), (.int (248 : Int32)), (.int (767 : Int32)), (.int (768 : Int32)), (.int (880 : Int32)), (.int (893 : Int32)), (.int (894 : Int32)), (.int (895 : Int32)), (.int (8191 : Int32)), (.int (8204 : Int32)), (.int (8205 : Int32)), (.int (8206 : Int32)), (.int (8304 : Int32)), (.int (8591 : Int32)), (.int (11264 : Int32)), (.int (12271 : Int32)), (.int (12289 : Int32)), (.int (55295 : Int32)), (.int (0 : Int32)), (.int (0 : Int32)), (.int (0 : Int32)), (.int (0 : Int32)), (.int (0 : Int32)), (.int (0 : Int32)), (.int (0 : Int32)), (.int (0 : Int32)), (.int (0 : Int32))] (.int (0 : Int32)) := V271
  have Z271 : n0 ≤ h271.size := by rw [W271.size]; exact Z269
  have K271 : Keep h0 h271 [] := K269.wr W271 (Or.inr s_a202)
  have N271 := Fr.snoc X271 N269 g_a202
  refine w_dup X271 hx (dB at_230) 231 rfl rfl ?_
  refine w_bipush X271 hx (dB at_231) 233 rfl (35 : Int32) (by decide) ?_
  refine w_ldc X271 hx hZ hown (tw_2 hw) (dB at_233) 235 rfl ?_
  refine w_iastore X271 hx hZ e271 F272 ⟨by decide, by decide⟩ 35 (by decide) (show 35 < 44 from (by decide)) (dB at_235) 236 rfl (fun T273 h273 X273 e273 W273 V273 => ?_)
  have F274 : Arv Z h273 a202 k202 .int (44 : Int32) [(.int (0 : Int32)), (.int (58 : Int32)), (.int (59 : Int32)), (.int (65 : Int32)), (.int (90 : Int32)), (.int (91 : Int32)), (.int (95 : Int32)), (.int (96 : Int32)), (.int (97 : Int32)), (.int (122 : Int32)), (.int (123 : Int32)), (.int (128 : Int32)), (.int (192 : Int32)), (.int (214 : Int32)), (.int (215 : Int32)), (.int (216 : Int32)), (.int (246 : Int32)), (.int (247 : Int32)), (.int (248 : Int32)), (.int (767 : Int32)), (.int (768 : Int32)), (.int (880 : Int32)), (.int (893 : Int32)), (.int (894 : Int32)), (.int (895 : Int32)), (.int (8191 : Int32)), (.int (8204 : Int32)), (.int (8205 : Int32)), (.int (8206 : Int32)), (.int (8304 : Int32)), (.int (8591 : Int32)), (.int (11264 : Int32)), (.int (12271 : Int32)), (.int (12289 : Int32)), (.int (55295 : Int32)), (.int (63744 : Int32)), (.int (0 : Int32)), (.int (0 : Int32)), (.int (0 : Int32)), (.int (0 : Int32)), (.int (0 : Int32)), (.int (0 : Int32)), (.int (0 : Int32)), (.int (0 : Int32))] (.int (0 : Int32)) := V273
  have Z273 : n0 ≤ h273.size := by rw [W273.size]; exact Z271
  have K273 : Keep h0 h273 [] := K271.wr W273 (Or.inr s_a202)
  have N273 := Fr.snoc X273 N271 g_a202
  refine w_dup X273 hx (dB at_236) 237 rfl rfl ?_
  refine w_bipush X273 hx (dB at_237) 239 rfl (36 : Int32) (by decide) ?_
  refine w_ldc X273 hx hZ hown (tw_3 hw) (dB at_239) 241 rfl ?_
  refine w_iastore X273 hx hZ e273 F274 ⟨by decide, by decide⟩ 36 (by decide) (show 36 < 44 from (by decide)) (dB at_241) 242 rfl (fun T275 h275 X275 e275 W275 V275 => ?_)
  have F276 : Arv Z h275 a202 k202 .int (44 : Int32) [(.int (0 : Int32)), (.int (58 : Int32)), (.int (59 : Int32)), (.int (65 : Int32)), (.int (90 : Int32)), (.int (91 : Int32)), (.int (95 : Int32)), (.int (96 : Int32)), (.int (97 : Int32)), (.int (122 : Int32)), (.int (123 : Int32)), (.int (128 : Int32)), (.int (192 : Int32)), (.int (214 : Int32)), (.int (215 : Int32)), (.int (216 : Int32)), (.int (246 : Int32)), (.int (247 : Int32)), (.int (248 : Int32)), (.int (767 : Int32)), (.int (768 : Int32)), (.int (880 : Int32)), (.int (893 : Int32)), (.int (894 : Int32)), (.int (895 : Int32)), (.int (8191 : Int32)), (.int (8204 : Int32)), (.int (8205 : Int32)), (.int (8206 : Int32)), (.int (8304 : Int32)), (.int (8591 : Int32)), (.int (11264 : Int32)), (.int (12271 : Int32)), (.int (12289 : Int32)), (.int (55295 : Int32)), (.int (63744 : Int32)), (.int (64975 : Int32)), (.int (0 : Int32)), (.int (0 : Int32)), (.int (0 : Int32)), (.int (0 : Int32)), (.int (0 : Int32)), (.int (0 : Int32)), (.int (0 : Int32))] (.int (0 : Int32)) := V275
  have Z275 : n0 ≤ h275.size := by rw [W275.size]; exact Z273
  have K275 : Keep h0 h275 [] := K273.wr W275 (Or.inr s_a202)
  have N275 := Fr.snoc X275 N273 g_a202
  refine w_dup X275 hx (dB at_242) 243 rfl rfl ?_
  refine w_bipush X275 hx (dB at_243) 245 rfl (37 : Int32) (by decide) ?_
  refine w_ldc X275 hx hZ hown (tw_4 hw) (dB at_245) 247 rfl ?_
  refine w_iastore X275 hx hZ e275 F276 ⟨by decide, by decide⟩ 37 (by decide) (show 37 < 44 from (by decide)) (dB at_247) 248 rfl (fun T277 h277 X277 e277 W277 V277 => ?_)
  have F278 : Arv Z h277 a202 k202 .int (44 : Int32) [(.int (0 : Int32)), (.int (58 : Int32)), (.int (59 : Int32)), (.int (65 : Int32)), (.int (90 : Int32)), (.int (91 : Int32)), (.int (95 : Int32)), (.int (96 : Int32)), (.int (97 : Int32)), (.int (122 : Int32)), (.int (123 : Int32)), (.int (128 : Int32)), (.int (192 : Int32)), (.int (214 : Int32)), (.int (215 : Int32)), (.int (216 : Int32)), (.int (246 : Int32)), (.int (247 : Int32)), (.int (248 : Int32)), (.int (767 : Int32)), (.int (768 : Int32)), (.int (880 : Int32)), (.int (893 : Int32)), (.int (894 : Int32)), (.int (895 : Int32)), (.int (8191 : Int32)), (.int (8204 : Int32)), (.int (8205 : Int32)), (.int (8206 : Int32)), (.int (8304 : Int32)), (.int (8591 : Int32)), (.int (11264 : Int32)), (.int (12271 : Int32)), (.int (12289 : Int32)), (.int (55295 : Int32)), (.int (63744 : Int32)), (.int (64975 : Int32)), (.int (65008 : Int32)), (.int (0 : Int32)), (.int (0 : Int32)), (.int (0 : Int32)), (.int (0 : Int32)), (.int (0 : Int32)), (.int (0 : Int32))] (.int (0 : Int32)) := V277
  have Z277 : n0 ≤ h277.size := by rw [W277.size]; exact Z275
  have K277 : Keep h0 h277 [] := K275.wr W277 (Or.inr s_a202)
  have N277 := Fr.snoc X277 N275 g_a202
  refine w_dup X277 hx (dB at_248) 249 rfl rfl ?_
  refine w_bipush X277 hx (dB at_249) 251 rfl (38 : Int32) (by decide) ?_
  refine w_ldc X277 hx hZ hown (tw_5 hw) (dB at_251) 253 rfl ?_
  refine w_iastore X277 hx hZ e277 F278 ⟨by decide, by decide⟩ 38 (by decide) (show 38 < 44 from (by decide)) (dB at_253) 254 rfl (fun T279 h279 X279 e279 W279 V279 => ?_)
  have F280 : Arv Z h279 a202 k202 .int (44 : Int32) [(.int (0 : Int32)), (.int (58 : Int32)), (.int (59 : Int32)), (.int (65 : Int32)), (.int (90 : Int32)), (.int (91 : Int32)), (.int (95 : Int32)), (.int (96 : Int32)), (.int (97 : Int32)), (.int (122 : Int32)), (.int (123 : Int32)), (.int (128 : Int32)), (.int (192 : Int32)), (.int (214 : Int32)), (.int (215 : Int32)), (.int (216 : Int32)), (.int (246 : Int32)), (.int (247 : Int32)), (.int (248 : Int32)), (.int (767 : Int32)), (.int (768 : Int32)), (.int (880 : Int32)), (.int (893 : Int32)), (.int (894 : Int32)), (.int (895 : Int32)), (.int (8191 : Int32)), (.int (8204 : Int32)), (.int (8205 : Int32)), (.int (8206 : Int32)), (.int (8304 : Int32)), (.int (8591 : Int32)), (.int (11264 : Int32)), (.int (12271 : Int32)), (.int (12289 : Int32)), (.int (55295 : Int32)), (.int (63744 : Int32)), (.int (64975 : Int32)), (.int (65008 : Int32)), (.int (65533 : Int32)), (.int (0 : Int32)), (.int (0 : Int32)), (.int (0 : Int32)), (.int (0 : Int32)), (.int (0 : Int32))] (.int (0 : Int32)) := V279
  have Z279 : n0 ≤ h279.size := by rw [W279.size]; exact Z277
  have K279 : Keep h0 h279 [] := K277.wr W279 (Or.inr s_a202)
  have N279 := Fr.snoc X279 N277 g_a202
  refine w_dup X279 hx (dB at_254) 255 rfl rfl ?_
  refine w_bipush X279 hx (dB at_255) 257 rfl (39 : Int32) (by decide) ?_
  refine w_ldc X279 hx hZ hown (tw_6 hw) (dB at_257) 259 rfl ?_
  refine w_iastore X279 hx hZ e279 F280 ⟨by decide, by decide⟩ 39 (by decide) (show 39 < 44 from (by decide)) (dB at_259) 260 rfl (fun T281 h281 X281 e281 W281 V281 => ?_)
  have F282 : Arv Z h281 a202 k202 .int (44 : Int32) [(.int (0 : Int32)), (.int (58 : Int32)), (.int (59 : Int32)), (.int (65 : Int32)), (.int (90 : Int32)), (.int (91 : Int32)), (.int (95 : Int32)), (.int (96 : Int32)), (.int (97 : Int32)), (.int (122 : Int32)), (.int (123 : Int32)), (.int (128 : Int32)), (.int (192 : Int32)), (.int (214 : Int32)), (.int (215 : Int32)), (.int (216 : Int32)), (.int (246 : Int32)), (.int (247 : Int32)), (.int (248 : Int32)), (.int (767 : Int32)), (.int (768 : Int32)), (.int (880 : Int32)), (.int (893 : Int32)), (.int (894 : Int32)), (.int (895 : Int32)), (.int (8191 : Int32)), (.int (8204 : Int32)), (.int (8205 : Int32)), (.int (8206 : Int32)), (.int (8304 : Int32)), (.int (8591 : Int32)), (.int (11264 : Int32)), (.int (12271 : Int32)), (.int (12289 : Int32)), (.int (55295 : Int32)), (.int (63744 : Int32)), (.int (64975 : Int32)), (.int (65008 : Int32)), (.int (65533 : Int32)), (.int (65536 : Int32)), (.int (0 : Int32)), (.int (0 : Int32)), (.int (0 : Int32)), (.int (0 : Int32))] (.int (0 : Int32)) := V281
  have Z281 : n0 ≤ h281.size := by rw [W281.size]; exact Z279
  have K281 : Keep h0 h281 [] := K279.wr W281 (Or.inr s_a202)
  have N281 := Fr.snoc X281 N279 g_a202
  refine w_dup X281 hx (dB at_260) 261 rfl rfl ?_
  refine w_bipush X281 hx (dB at_261) 263 rfl (40 : Int32) (by decide) ?_
  refine w_ldc X281 hx hZ hown (tw_7 hw) (dB at_263) 265 rfl ?_
  refine w_iastore X281 hx hZ e281 F282 ⟨by decide, by decide⟩ 40 (by decide) (show 40 < 44 from (by decide)) (dB at_265) 266 rfl (fun T283 h283 X283 e283 W283 V283 => ?_)
  have F284 : Arv Z h283 a202 k202 .int (44 : Int32) [(.int (0 : Int32)), (.int (58 : Int32)), (.int (59 : Int32)), (.int (65 : Int32)), (.int (90 : Int32)), (.int (91 : Int32)), (.int (95 : Int32)), (.int (96 : Int32)), (.int (97 : Int32)), (.int (122 : Int32)), (.int (123 : Int32)), (.int (128 : Int32)), (.int (192 : Int32)), (.int (214 : Int32)), (.int (215 : Int32)), (.int (216 : Int32)), (.int (246 : Int32)), (.int (247 : Int32)), (.int (248 : Int32)), (.int (767 : Int32)), (.int (768 : Int32)), (.int (880 : Int32)), (.int (893 : Int32)), (.int (894 : Int32)), (.int (895 : Int32)), (.int (8191 : Int32)), (.int (8204 : Int32)), (.int (8205 : Int32)), (.int (8206 : Int32)), (.int (8304 : Int32)), (.int (8591 : Int32)), (.int (11264 : Int32)), (.int (12271 : Int32)), (.int (12289 : Int32)), (.int (55295 : Int32)), (.int (63744 : Int32)), (.int (64975 : Int32)), (.int (65008 : Int32)), (.int (65533 : Int32)), (.int (65536 : Int32)), (.int (983039 : Int32)), (.int (0 : Int32)), (.int (0 : Int32)), (.int (0 : Int32))] (.int (0 : Int32)) := V283
  have Z283 : n0 ≤ h283.size := by rw [W283.size]; exact Z281
  have K283 : Keep h0 h283 [] := K281.wr W283 (Or.inr s_a202)
  have N283 := Fr.snoc X283 N281 g_a202
  refine w_dup X283 hx (dB at_266) 267 rfl rfl ?_
  refine w_bipush X283 hx (dB at_267) 269 rfl (41 : Int32) (by decide) ?_
  refine w_ldc X283 hx hZ hown (tw_8 hw) (dB at_269) 271 rfl ?_
  refine w_iastore X283 hx hZ e283 F284 ⟨by decide, by decide⟩ 41 (by decide) (show 41 < 44 from (by decide)) (dB at_271) 272 rfl (fun T285 h285 X285 e285 W285 V285 => ?_)
  have F286 : Arv Z h285 a202 k202 .int (44 : Int32) [(.int (0 : Int32)), (.int (58 : Int32)), (.int (59 : Int32)), (.int (65 : Int32)), (.int (90 : Int32)), (.int (91 : Int32)), (.int (95 : Int32)), (.int (96 : Int32)), (.int (97 : Int32)), (.int (122 : Int32)), (.int (123 : Int32)), (.int (128 : Int32)), (.int (192 : Int32)), (.int (214 : Int32)), (.int (215 : Int32)), (.int (216 : Int32)), (.int (246 : Int32)), (.int (247 : Int32)), (.int (248 : Int32)), (.int (767 : Int32)), (.int (768 : Int32)), (.int (880 : Int32)), (.int (893 : Int32)), (.int (894 : Int32)), (.int (895 : Int32)), (.int (8191 : Int32)), (.int (8204 : Int32)), (.int (8205 : Int32)), (.int (8206 : Int32)), (.int (8304 : Int32)), (.int (8591 : Int32)), (.int (11264 : Int32)), (.int (12271 : Int32)), (.int (12289 : Int32)), (.int (55295 : Int32)), (.int (63744 : Int32)), (.int (64975 : Int32)), (.int (65008 : Int32)), (.int (65533 : Int32)), (.int (65536 : Int32)), (.int (983039 : Int32)), (.int (1114111 : Int32)), (.int (0 : Int32)), (.int (0 : Int32))] (.int (0 : Int32)) := V285
  have Z285 : n0 ≤ h285.size := by rw [W285.size]; exact Z283
  have K285 : Keep h0 h285 [] := K283.wr W285 (Or.inr s_a202)
  have N285 := Fr.snoc X285 N283 g_a202
  refine w_dup X285 hx (dB at_272) 273 rfl rfl ?_
  refine w_bipush X285 hx (dB at_273) 275 rfl (42 : Int32) (by decide) ?_
  refine w_iconst X285 hx (dB at_275) 276 rfl (-1 : Int32) (by decide) ?_
  refine w_iastore X285 hx hZ e285 F286 ⟨by decide, by decide⟩ 42 (by decide) (show 42 < 44 from (by decide)) (dB at_276) 277 rfl (fun T287 h287 X287 e287 W287 V287 => ?_)
  have F288 : Arv Z h287 a202 k202 .int (44 : Int32) [(.int (0 : Int32)), (.int (58 : Int32)), (.int (59 : Int32)), (.int (65 : Int32)), (.int (90 : Int32)), (.int (91 : Int32)), (.int (95 : Int32)), (.int (96 : Int32)), (.int (97 : Int32)), (.int (122 : Int32)), (.int (123 : Int32)), (.int (128 : Int32)), (.int (192 : Int32)), (.int (214 : Int32)), (.int (215 : Int32)), (.int (216 : Int32)), (.int (246 : Int32)), (.int (247 : Int32)), (.int (248 : Int32)), (.int (767 : Int32)), (.int (768 : Int32)), (.int (880 : Int32)), (.int (893 : Int32)), (.int (894 : Int32)), (.int (895 : Int32)), (.int (8191 : Int32)), (.int (8204 : Int32)), (.int (8205 : Int32)), (.int (8206 : Int32)), (.int (8304 : Int32)), (.int (8591 : Int32)), (.int (11264 : Int32)), (.int (12271 : Int32)), (.int (12289 : Int32)), (.int (55295 : Int32)), (.int (63744 : Int32)), (.int (64975 : Int32)), (.int (65008 : Int32)), (.int (65533 : Int32)), (.int (65536 : Int32)), (.int (983039 : Int32)), (.int (1114111 : Int32)), (.int (-1 : Int32)), (.int (0 : Int32))] (.int (0 : Int32)) := V287
  have Z287 : n0 ≤ h287.size := by rw [W287.size]; exact Z285
  have K287 : Keep h0 h287 [] := K285.wr W287 (Or.inr s_a202)
  have N287 := Fr.snoc X287 N285 g_a202
  refine w_dup X287 hx (dB at_277) 278 rfl rfl ?_
  refine w_bipush X287 hx (dB at_278) 280 rfl (43 : Int32) (by decide) ?_
  refine w_ldc X287 hx hZ hown (tw_9 hw) (dB at_280) 282 rfl ?_
  refine w_iastore X287 hx hZ e287 F288 ⟨by decide, by decide⟩ 43 (by decide) (show 43 < 44 from (by decide)) (dB at_282) 283 rfl (fun T289 h289 X289 e289 W289 V289 => ?_)
  have F290 : Arv Z h289 a202 k202 .int (44 : Int32) [(.int (0 : Int32)), (.int (58 : Int32)), (.int (59 : Int32)), (.int (65 : Int32)), (.int (90 : Int32)), (.int (91 : Int32)), (.int (95 : Int32)), (.int (96 : Int32)), (.int (97 : Int32)), (.int (122 : Int32)), (.int (123 : Int32)), (.int (128 : Int32)), (.int (192 : Int32)), (.int (214 : Int32)), (.int (215 : Int32)), (.int (216 : Int32)), (.int (246 : Int32)), (.int (247 : Int32)), (.int (248 : Int32)), (.int (767 : Int32)), (.int (768 : Int32)), (.int (880 : Int32)), (.int (893 : Int32)), (.int (894 : Int32)), (.int (895 : Int32)), (.int (8191 : Int32)), (.int (8204 : Int32)), (.int (8205 : Int32)), (.int (8206 : Int32)), (.int (8304 : Int32)), (.int (8591 : Int32)), (.int (11264 : Int32)), (.int (12271 : Int32)), (.int (12289 : Int32)), (.int (55295 : Int32)), (.int (63744 : Int32)), (.int (64975 : Int32)), (.int (65008 : Int32)), (.int (65533 : Int32)), (.int (65536 : Int32)), (.int (983039 : Int32)), (.int (1114111 : Int32)), (.int (-1 : Int32)), (.int (2147483647 : Int32))] (.int (0 : Int32)) := V289
  have Z289 : n0 ≤ h289.size := by rw [W289.size]; exact Z287
  have K289 : Keep h0 h289 [] := K287.wr W289 (Or.inr s_a202)
  have N289 := Fr.snoc X289 N287 g_a202
  refine w_astore X289 hx (dB at_283) 285 rfl rfl #[.val (.int a), .val (.int b), .val (.int kk), .val (.int d), .val (.ref a202), .unset, .unset, .unset, .unset, .unset] rfl ?_
  refine w_iloadN X289 hx kk (dB at_285) 286 rfl rfl ?_
  refine w_ldc X289 hx hZ hown (tw_10 hw) (dB at_286) 288 rfl ?_
  obtain ⟨v291, e291⟩ : ∃ z : Int32, z = kk &&& (65535 : Int32) := ⟨_, rfl⟩
  have n291 : v291.toInt = kk.toInt % 65536 := by rw [e291]; exact maskX 16 rfl (by decide) (by decide)
  refine w_iand X289 hx (dB at_288) 289 rfl e291 ?_
  refine w_aload X289 hx (.ref a202) (dB at_289) 291 rfl rfl rfl ?_
  refine w_length X289 hx hZ e289 F290 (dB at_291) 292 rfl ?_
  obtain ⟨v292, e292⟩ : ∃ z : Int32, z = v291 % (44 : Int32) := ⟨_, rfl⟩
  have n292 : v292.toInt = v291.toInt % 44 := by rw [e292]; exact iremX rfl (by decide) (by omega)
  refine w_irem X289 hx (dB at_292) 293 rfl (by decide) e292 ?_
  refine w_istore X289 hx (dB at_293) 295 rfl #[.val (.int a), .val (.int b), .val (.int kk), .val (.int d), .val (.ref a202), .val (.int v292), .unset, .unset, .unset, .unset] rfl ?_
  refine w_iloadN X289 hx kk (dB at_295) 296 rfl rfl ?_
  refine w_bipush X289 hx (dB at_296) 298 rfl (16 : Int32) (by decide) ?_
  obtain ⟨v293, e293⟩ : ∃ z : Int32, z = (kk.toUInt32 >>> ((16 : Int32) &&& 31).toUInt32).toInt32 := ⟨_, rfl⟩
  have n293 : v293.toInt = (kk.toInt % 4294967296) / 65536 := by rw [e293]; exact iushrX 16 rfl (by decide) (by decide)
  refine w_iushr X289 hx (dB at_298) 299 rfl e293 ?_
  refine w_iconst X289 hx (dB at_299) 300 rfl (3 : Int32) (by decide) ?_
  obtain ⟨v294, e294⟩ : ∃ z : Int32, z = v293 % (3 : Int32) := ⟨_, rfl⟩
  have n294 : v294.toInt = v293.toInt % 3 := by rw [e294]; exact iremX rfl (by decide) (by omega)
  refine w_irem X289 hx (dB at_300) 301 rfl (by decide) e294 ?_
  refine w_iconst X289 hx (dB at_301) 302 rfl (1 : Int32) (by decide) ?_
  obtain ⟨v295, e295⟩ : ∃ z : Int32, z = v294 - (1 : Int32) := ⟨_, rfl⟩
  have n295 : v295.toInt = v294.toInt - 1 := by rw [e295]; exact subX rfl (by decide) (by omega) (by omega)
  refine w_isub X289 hx (dB at_302) 303 rfl e295 ?_
  refine w_istore X289 hx (dB at_303) 305 rfl #[.val (.int a), .val (.int b), .val (.int kk), .val (.int d), .val (.ref a202), .val (.int v292), .val (.int v295), .unset, .unset, .unset] rfl ?_
  refine w_aload X289 hx (.ref a202) (dB at_305) 307 rfl rfl rfl ?_
  refine w_iload X289 hx v292 (dB at_307) 309 rfl rfl ?_
  obtain ⟨v296, e296⟩ : ∃ z : Int32, z = ([(0 : Int32), (58 : Int32), (59 : Int32), (65 : Int32), (90 : Int32), (91 : Int32), (95 : Int32), (96 : Int32), (97 : Int32), (122 : Int32), (123 : Int32), (128 : Int32), (192 : Int32), (214 : Int32), (215 : Int32), (216 : Int32), (246 : Int32), (247 : Int32), (248 : Int32), (767 : Int32), (768 : Int32), (880 : Int32), (893 : Int32), (894 : Int32), (895 : Int32), (8191 : Int32), (8204 : Int32), (8205 : Int32), (8206 : Int32), (8304 : Int32), (8591 : Int32), (11264 : Int32), (12271 : Int32), (12289 : Int32), (55295 : Int32), (63744 : Int32), (64975 : Int32), (65008 : Int32), (65533 : Int32), (65536 : Int32), (983039 : Int32), (1114111 : Int32), (-1 : Int32), (2147483647 : Int32)] : List Int32).getD v292.toNatClampNeg 0 := ⟨_, rfl⟩
  have n296 : -2147483648 ≤ v296.toInt ∧ v296.toInt < 2147483648 := by rw [e296]; exact rng32 _
  refine w_iaload X289 hx hZ e289 F290 ⟨by omega, by have hz : (44 : Int32).toInt = 44 := (by decide); omega⟩ (v := .int v296) (by rw [e296]; exact getD_int [(0 : Int32), (58 : Int32), (59 : Int32), (65 : Int32), (90 : Int32), (91 : Int32), (95 : Int32), (96 : Int32), (97 : Int32), (122 : Int32), (123 : Int32), (128 : Int32), (192 : Int32), (214 : Int32), (215 : Int32), (216 : Int32), (246 : Int32), (247 : Int32), (248 : Int32), (767 : Int32), (768 : Int32), (880 : Int32), (893 : Int32), (894 : Int32), (895 : Int32), (8191 : Int32), (8204 : Int32), (8205 : Int32), (8206 : Int32), (8304 : Int32), (8591 : Int32), (11264 : Int32), (12271 : Int32), (12289 : Int32), (55295 : Int32), (63744 : Int32), (64975 : Int32), (65008 : Int32), (65533 : Int32), (65536 : Int32), (983039 : Int32), (1114111 : Int32), (-1 : Int32), (2147483647 : Int32)] _) (dB at_309) 310 rfl ?_
  refine w_iload X289 hx v295 (dB at_310) 312 rfl rfl ?_
  obtain ⟨v297, e297⟩ : ∃ z : Int32, z = v296 + v295 := ⟨_, rfl⟩
  have n297 : (v297.toInt - (v296.toInt + v295.toInt)) % 4294967296 = 0 := by rw [e297]; exact addM rfl rfl
  have n297b : -2147483648 ≤ v297.toInt ∧ v297.toInt < 2147483648 := by rw [e297]; exact rng32 _
  refine w_iadd X289 hx (dB at_312) 313 rfl e297 ?_
  refine w_istore X289 hx (dB at_313) 315 rfl #[.val (.int a), .val (.int b), .val (.int kk), .val (.int d), .val (.ref a202), .val (.int v292), .val (.int v295), .val (.int v297), .unset, .unset] rfl ?_
  refine w_iloadN X289 hx b (dB at_315) 316 rfl rfl ?_
  refine w_ldc X289 hx hZ hown (tw_11 hw) (dB at_316) 318 rfl ?_
  obtain ⟨v298, e298⟩ : ∃ z : Int32, z = b &&& (1048575 : Int32) := ⟨_, rfl⟩
  have n298 : v298.toInt = b.toInt % 1048576 := by rw [e298]; exact maskX 20 rfl (by decide) (by decide)
  refine w_iand X289 hx (dB at_318) 319 rfl e298 ?_
  refine w_istore X289 hx (dB at_319) 321 rfl #[.val (.int a), .val (.int b), .val (.int kk), .val (.int d), .val (.ref a202), .val (.int v292), .val (.int v295), .val (.int v297), .val (.int v298), .unset] rfl ?_
  refine w_iloadN X289 hx d (dB at_321) 322 rfl rfl ?_
  refine w_ldc X289 hx hZ hown (tw_10 hw) (dB at_322) 324 rfl ?_
  obtain ⟨v299, e299⟩ : ∃ z : Int32, z = d &&& (65535 : Int32) := ⟨_, rfl⟩
  have n299 : v299.toInt = d.toInt % 65536 := by rw [e299]; exact maskX 16 rfl (by decide) (by decide)
  refine w_iand X289 hx (dB at_324) 325 rfl e299 ?_
  refine w_istore X289 hx (dB at_325) 327 rfl #[.val (.int a), .val (.int b), .val (.int kk), .val (.int d), .val (.ref a202), .val (.int v292), .val (.int v295), .val (.int v297), .val (.int v298), .val (.int v299)] rfl ?_
  refine w_iloadN X289 hx a (dB at_327) 328 rfl rfl ?_
  refine w_callS X289 hx hZ hown e289 (rm1 l Z a0 hw [] a h289 n0 Z289 ) (tw_12 hw) (tw_13 hw) (tw_14 hw) (tw_15 hw) (by decide) (by rw [hml]; rfl) [(.int a)] [] (lenOf pd_0 rfl) rfl rfl (by decide) 0 rfl (by decide) (by decide) (by decide) (dB at_328) 331 rfl (fun r300 T300 L300 X300 q300 => ?_)
  obtain ⟨z300, rfl, f300, Nq300, eq300⟩ := q300
  have N300 := Fr.app N289 Nq300
  dsimp only [Option.toList_some, Option.toList_none, List.cons_append, List.nil_append]
  refine w_if_eq X300 hx z300.toInt rfl (dB at_331) 362 334 (fun c301 => ?_) (fun c301 => ?_)
  ·exfalso; omega
  ·refine w_iload X300 hx v298 (dB at_334) 336 rfl rfl ?_
   refine w_callS X300 hx hZ hown eq300 (rm1 l Z a0 hw [] v298 h289 n0 Z289 ) (tw_12 hw) (tw_13 hw) (tw_14 hw) (tw_15 hw) (by decide) (by rw [hml]; rfl) [(.int v298)] [] (lenOf pd_0 rfl) rfl rfl (by decide) 0 rfl (by decide) (by decide) (by decide) (dB at_336) 339 rfl (fun r302 T302 L302 X302 q302 => ?_)
   obtain ⟨z302, rfl, f302, Nq302, eq302⟩ := q302
   have N302 := Fr.app N300 Nq302
   dsimp only [Option.toList_some, Option.toList_none, List.cons_append, List.nil_append]
   refine w_if_eq X302 hx z302.toInt rfl (dB at_339) 362 342 (fun c303 => ?_) (fun c303 => ?_)
   ·exfalso; omega
   ·refine w_iload X302 hx v299 (dB at_342) 344 rfl rfl ?_
    refine w_callS X302 hx hZ hown eq302 (rm1 l Z a0 hw [] v299 h289 n0 Z289 ) (tw_12 hw) (tw_13 hw) (tw_14 hw) (tw_15 hw) (by decide) (by rw [hml]; rfl) [(.int v299)] [] (lenOf pd_0 rfl) rfl rfl (by decide) 0 rfl (by decide) (by decide) (by decide) (dB at_344) 347 rfl (fun r304 T304 L304 X304 q304 => ?_)
    obtain ⟨z304, rfl, f304, Nq304, eq304⟩ := q304
    have N304 := Fr.app N302 Nq304
    dsimp only [Option.toList_some, Option.toList_none, List.cons_append, List.nil_append]
    refine w_if_eq X304 hx z304.toInt rfl (dB at_347) 362 350 (fun c305 => ?_) (fun c305 => ?_)
    ·exfalso; omega
    ·refine w_iload X304 hx v297 (dB at_350) 352 rfl rfl ?_
     refine w_callS X304 hx hZ hown eq304 (rm1 l Z a0 hw [] v297 h289 n0 Z289 ) (tw_12 hw) (tw_13 hw) (tw_14 hw) (tw_15 hw) (by decide) (by rw [hml]; rfl) [(.int v297)] [] (lenOf pd_0 rfl) rfl rfl (by decide) 0 rfl (by decide) (by decide) (by decide) (dB at_352) 355 rfl (fun r306 T306 L306 X306 q306 => ?_)
     obtain ⟨z306, rfl, f306, Nq306, eq306⟩ := q306
     have N306 := Fr.app N304 Nq306
     dsimp only [Option.toList_some, Option.toList_none, List.cons_append, List.nil_append]
     refine w_if_eq X306 hx z306.toInt rfl (dB at_355) 362 358 (fun c307 => ?_) (fun c307 => ?_)
     ·exfalso; omega
     ·refine w_iconst X306 hx (dB at_358) 359 rfl (1 : Int32) (by decide) ?_
      refine w_goto X306 hx (dB at_359) 363 ?_
      refine w_retN X306 hx hlk (t := .boolean) hret (by simp) (dB at_363) (by decide) (by decide) ?_
      rw [eq306]
      exact ⟨rfl, N306⟩
set_option maxRecDepth 65536 in
set_option maxHeartbeats 40000000 in
theorem comes_1 {Post : Tables → Env → Array Value → State → Outcome → State → Prop} (hpost : ∀ tb e args s v u, (limb_1_1.after args s (.returned v) u = true ∧ limb_1_2.after args s (.returned v) u = true ∧ True) → FrameEnd s (.returned v) u (Jvm.fieldLocs frame_1_writes args s ++ Jvm.arrayLocs frame_1_arrays args s ++ Jvm.staticLocs frame_1_statics s) 16 192 → Post tb e args s (.returned v) u) :
    ArmFor flags0 classFile x code maxLocals ret World_1 tables_1 room_1 Calls_1 rest_1 Pre_1 Post := by
  intro l hfl _ _ p e ha hc hk s m args below hf hA hF happ hP
  obtain ⟨hcalls, hrest, hpre⟩ := hP
  obtain ⟨-, -, -, hnamed, -, -, -, hat⟩ := (Spec.applies_iff hf).mp happ
  obtain ⟨hg, hn⟩ := and_e (Cond.before_iff.mp (show (Jvm.Cond.and given_1 narrow_1).before args s = true from hpre))
  obtain ⟨gg1, gg2⟩ := and_e hg
  obtain ⟨gg3, gg4⟩ := and_e gg2
  obtain ⟨gg5, gg6⟩ := and_e gg4
  obtain ⟨gg7, gg8⟩ := and_e gg6
  obtain ⟨w0, w1, w2, w3, rfl⟩ : ∃ w0 w1 w2 w3 : Value, args = #[w0, w1, w2, w3] := by
    have hs : args.size = 4 := by simpa [Cond.value, given_1] using gg1
    obtain ⟨L⟩ := args
    match L, hs with
    | [w0, w1, w2, w3], _ => exact ⟨w0, w1, w2, w3, rfl⟩
  have hw := fun d (hd : d ∈ tables_1) => atoms_spec (ws := Jvm.Cond.code x code maxLocals ret :: tables_1) hat d (List.mem_cons_of_mem _ hd)
  have hfit : Fit s := fun {y c} hc i hi => by
    obtain ⟨ha, rfl⟩ := Array.getElem?_eq_some_iff.mp hc
    have q := List.all_eq_true.mp ((Array.all_eq_true_iff_forall_mem.mp hF) _ (Array.getElem_mem ha)) i (List.mem_range.mpr hi)
    simpa [Array.getElem?_eq_getElem hi] using q
  obtain ⟨i0, ei0⟩ := is_v gg3
  obtain rfl : w0 = (.int i0) := Option.some.inj ei0
  obtain ⟨i1, ei1⟩ := is_v gg5
  obtain rfl : w1 = (.int i1) := Option.some.inj ei1
  obtain ⟨i2, ei2⟩ := is_v gg7
  obtain rfl : w2 = (.int i2) := Option.some.inj ei2
  obtain ⟨i3, ei3⟩ := is_v gg8
  obtain rfl : w3 = (.int i3) := Option.some.inj ei3
  obtain ⟨n, o, h1, h2, h3, _, L, rfl, ⟨rfl, N⟩, hq⟩ := rm0 l s _ hw tables_1 i0 i1 i2 i3 s.heap s.heap.size (Nat.le_refl _) p e ha hc hk s m _ below hf ((Spec.applies_iff_loose hf).mp happ).1 ⟨rfl, State.Warmed39.refl s, rfl⟩ trivial
  refine ⟨n, _, h1, h2, h3, hpost _ _ _ _ _ _ ⟨Cond.after_iff.mpr rfl, Cond.after_iff.mpr (eq_i res_at (Term.int_eval (1)) rfl), trivial⟩ ⟨hq.1, hq.2.1, (hq.2.2.sift fun y hy => Or.inr (N y hy)).mono (by decide) (by decide)⟩⟩
theorem main_1_1 : Claimed_1_1 := comes_1 fun _ _ _ _ _ _ h hF => ⟨h.1, hF⟩
theorem main_1_2 : Claimed_1_2 := comes_1 fun _ _ _ _ _ _ h hF => ⟨h.2.1, hF⟩
end Jvm.Pilot.@@N@@
namespace Jvm.Pilot.@@N@@
open Jvm Jvm.ClassFile Sem Op Lib Jvm.Free Jvm.Stand Jvm.Pilot.@@N@@.Jvm.D
/-! MADE BY PROGRAM (witnessworld.py) out of the Statement's table words and the real class files: 9 classes; the members and pool entries that the words name. The judged class is class 1, her method 3. -/
namespace start1
open Jvm.ClassFile
def u (s : String) : CpInfo := .utf8 (stringToUtf16 s)
/-- a pool by its gaps: so many unusable entries, then the entry; so many at the end -/
def gap : Nat → List CpInfo → List CpInfo
  | 0, r => r
  | n + 1, r => .unusable :: gap n r
def poolList (es : List (Nat × CpInfo)) (last : Nat) : List CpInfo := es.foldr (fun e r => gap e.1 (e.2 :: r)) (gap last [])
def pool (es : List (Nat × CpInfo)) (last : Nat) : Array CpInfo := ⟨poolList es last⟩
def fileOf (pool : Array CpInfo) (this : Nat) (attrs : Array Attribute := #[]) (ms : Array MethodInfo := #[]) (fl : Nat := 33) (sup : Nat := 0) (ifs : Array Nat := #[]) (fds : Array FieldInfo := #[]) : ClassFile where
  minorVersion := 0
  majorVersion := 65
  constantPool := pool
  accessFlags := fl
  thisClass := this
  superClass := sup
  interfaces := ifs
  fields := fds
  methods := ms
  attributes := attrs
def plain (name : String) (sup : Option ClassId) : Class where
  name := name
  kind := .ordinary
  loader := none
  accessFlags := 33
  super := sup
  interfaces := #[]
  cf := none
  fields := #[]
  methods := #[]
  instanceTypes := #[]
  staticTypes := #[]
  resolved := #[]
  callSites := []
  init := .initialized
  statics := none
  mirror := none

def pool0 : Array CpInfo := pool [(5, u "<init>"), (0, u "()V"), (1, .class_ 10), (1, u "java/lang/Object")] 113

def k0m0 : Method := { name := "<init>", desc := "()V", sig := { parameters := [], returnType := none }, accessFlags := 1, code := none }
/-- java/lang/Object -/
def k0 : Class := { plain "java/lang/Object" none with
  accessFlags := 33
  interfaces := #[]
  cf := some (fileOf pool0 8 #[] #[{ accessFlags := 1, nameIndex := 5, descriptorIndex := 6, attributes := #[] }] 33 0 #[] #[])
  fields := #[]
  methods := #[k0m0]
  instanceTypes := #[]
  staticTypes := #[]
  resolved := Array.replicate 124 none
  statics := none }

def pool1 : Array CpInfo := pool [(2, .class_ 4), (1, u "java/lang/Object"), (0, u "<init>"), (0, u "()V"), (0, .integer 983039), (0, .integer 55296), (0, .integer 63743), (0, .integer 64976), (0, .integer 65007), (0, .integer 65534), (0, .integer 65535), (0, .methodref 15 16), (0, .class_ 17), (0, .nameAndType 18 19), (0, u "com/example/coralline/coralline/xml/XmlChars"), (0, u "isNameStartChar"), (0, u "(I)Z"), (0, .methodref 21 22), (0, .class_ 23), (0, .nameAndType 24 19), (0, u "com/example/coralline/coralline/xml/XmlCharsIsNameStartCharPinLaw"), (0, u "ref"), (0, .integer 55295), (0, .integer 63744), (0, .integer 64975), (0, .integer 65008), (0, .integer 65533), (0, .integer 65536), (0, .integer 1114111), (0, .integer 2147483647), (0, .integer 1048575), (0, .methodref 21 35), (0, .nameAndType 36 19), (0, u "same"), (3, u "law"), (0, u "(IIII)Z")] 4

def k1m0 : Method := { name := "<init>", desc := "()V", sig := { parameters := [], returnType := none }, accessFlags := 2, code := none }
def k1c1 : Code := { maxStack := 2, maxLocals := 1, code := method_2_code, exceptionTable := #[], attributes := #[] }
def k1m1 : Method := { name := "ref", desc := "(I)Z", sig := { parameters := [.int], returnType := some .boolean }, accessFlags := 10, code := some k1c1 }
def k1c2 : Code := { maxStack := 2, maxLocals := 1, code := method_3_code, exceptionTable := #[], attributes := #[] }
def k1m2 : Method := { name := "same", desc := "(I)Z", sig := { parameters := [.int], returnType := some .boolean }, accessFlags := 10, code := some k1c2 }
def k1c3 : Code := { maxStack := 4, maxLocals := 10, code := code, exceptionTable := #[], attributes := #[] }
def k1m3 : Method := { name := "law", desc := "(IIII)Z", sig := { parameters := [.int, .int, .int, .int], returnType := some .boolean }, accessFlags := 9, code := some k1c3 }
/-- com/example/coralline/coralline/xml/XmlCharsIsNameStartCharPinLaw -/
def k1 : Class := { plain "com/example/coralline/coralline/xml/XmlCharsIsNameStartCharPinLaw" (some 0) with
  accessFlags := 49
  interfaces := #[]
  cf := some (fileOf pool1 21 #[] #[{ accessFlags := 2, nameIndex := 5, descriptorIndex := 6, attributes := #[] }, { accessFlags := 10, nameIndex := 24, descriptorIndex := 19, attributes := #[] }, { accessFlags := 10, nameIndex := 36, descriptorIndex := 19, attributes := #[] }, { accessFlags := 9, nameIndex := 40, descriptorIndex := 41, attributes := #[] }] 49 2 #[] #[])
  fields := #[]
  methods := #[k1m0, k1m1, k1m2, k1m3]
  instanceTypes := #[]
  staticTypes := #[]
  resolved := Array.replicate 46 none
  statics := none }

def pool2 : Array CpInfo := pool [(2, .class_ 4), (1, u "java/lang/Object"), (0, u "<init>"), (0, u "()V"), (0, .integer 55295), (1, .integer 65533), (0, .integer 65536), (1, .integer 63744), (0, .integer 64975), (0, .integer 65008), (0, .integer 983039), (1, .class_ 19), (1, u "com/example/coralline/coralline/xml/XmlChars"), (0, u "isNameStartChar"), (0, u "(I)Z")] 8

def k2m0 : Method := { name := "<init>", desc := "()V", sig := { parameters := [], returnType := none }, accessFlags := 2, code := none }
def k2c1 : Code := { maxStack := 2, maxLocals := 1, code := prog_131_method_4_code, exceptionTable := #[], attributes := #[] }
def k2m1 : Method := { name := "isNameStartChar", desc := "(I)Z", sig := { parameters := [.int], returnType := some .boolean }, accessFlags := 8, code := some k2c1 }
/-- com/example/coralline/coralline/xml/XmlChars -/
def k2 : Class := { plain "com/example/coralline/coralline/xml/XmlChars" (some 0) with
  accessFlags := 48
  interfaces := #[]
  cf := some (fileOf pool2 17 #[] #[{ accessFlags := 2, nameIndex := 5, descriptorIndex := 6, attributes := #[] }, { accessFlags := 8, nameIndex := 20, descriptorIndex := 21, attributes := #[] }] 48 2 #[] #[])
  fields := #[]
  methods := #[k2m0, k2m1]
  instanceTypes := #[]
  staticTypes := #[]
  resolved := Array.replicate 30 none
  statics := none }

def pool3 : Array CpInfo := pool [(1, u "java/lang/Cloneable"), (0, .class_ 1), (0, u "java/lang/Object"), (0, .class_ 3)] 3

/-- java/lang/Cloneable -/
def k3 : Class := { plain "java/lang/Cloneable" (some 0) with
  accessFlags := 1537
  interfaces := #[]
  cf := some (fileOf pool3 2 #[] #[] 1537 4 #[] #[])
  fields := #[]
  methods := #[]
  instanceTypes := #[]
  staticTypes := #[]
  resolved := Array.replicate 8 none
  statics := none }

def pool4 : Array CpInfo := pool [(1, u "java/io/Serializable"), (0, .class_ 1), (0, u "java/lang/Object"), (0, .class_ 3)] 3

/-- java/io/Serializable -/
def k4 : Class := { plain "java/io/Serializable" (some 0) with
  accessFlags := 1537
  interfaces := #[]
  cf := some (fileOf pool4 2 #[] #[] 1537 4 #[] #[])
  fields := #[]
  methods := #[]
  instanceTypes := #[]
  staticTypes := #[]
  resolved := Array.replicate 8 none
  statics := none }

/-- the primitive byte -/
def k5 : Class := { plain "byte" none with kind := .primitive 'B', accessFlags := 0x411 }
/-- [B -/
def k6 : Class := { plain "[B" (some 0) with kind := .array 5 .byte, interfaces := #[3, 4], accessFlags := 1041 }

/-- the primitive int -/
def k7 : Class := { plain "int" none with kind := .primitive 'I', accessFlags := 0x411 }
/-- [I -/
def k8 : Class := { plain "[I" (some 0) with kind := .array 7 .int, interfaces := #[3, 4], accessFlags := 1041 }

def heap : Heap := #[]
def classes : Array Class := #[k0, k1, k2, k3, k4, k5, k6, k7, k8]
def interned : List (Array UInt16 × Addr) := []
def slotsUsed : Nat := 0
def theMethod : MethodId := ⟨1, 3⟩
def args0 : Array Value := #[.int 5, .int 7, .int 9, .int 11]
def aboutOver (below : List Frame) : State where
  vm := { classes := classes, interned := interned.toArray }
  heap := heap
  slotsUsed := slotsUsed
  threads := #[{ frames := .invoking theMethod args0 :: below }]
def below0 : List Frame := [.native { method := ⟨0, 0⟩, args := #[] }]
def about1 : State := aboutOver below0
def p0 : Program := .bare "" "" ""
def e0 : Env := launch0.env 0 0 0
theorem w_frames : about1.frames = Frame.invoking theMethod args0 :: below0 := rfl
set_option maxRecDepth 65536 in
theorem w_args : argsFit about1.vm theMethod args0 = true := by decide +kernel
set_option maxRecDepth 65536 in
theorem w_heap : heapFits about1 = true := by decide +kernel
set_option maxRecDepth 65536 in
theorem w_runnable : about1.curStatus? = some .runnable := by decide +kernel
set_option maxRecDepth 65536 in
theorem w_alone : about1.alone = true := by decide +kernel
set_option maxRecDepth 65536 in
theorem w_named : about1.methodNamed? x = some theMethod := by decide +kernel
set_option maxRecDepth 65536 in
theorem w_hears : about1.hears theMethod below0 = true := by decide +kernel
set_option maxRecDepth 65536 in
theorem w_ripe : about1.ripe theMethod args0 below0 = true := by decide +kernel
theorem w_running : about1.status = .running := rfl
set_option maxRecDepth 65536 in
theorem w_room : about1.hasRoom e0.platform room_1 = true :=
  launch0.hasRoom_least _ room_1 (by decide +kernel) (by decide +kernel) (by decide +kernel) (by decide +kernel) (by decide +kernel) (by decide +kernel)
theorem allAtoms_all (ts : List Jvm.Cond) (a : Array Jvm.Value) (st : Jvm.State) : (allAtoms ts).before a st = ts.all (fun c => c.before a st) := by
  induction ts with
  | nil => rfl
  | cons c t ih =>
    show (Jvm.Cond.and c (allAtoms t)).before a st = _
    rw [Jvm.Cond.before_and, ih, List.all_cons]
def words1 : List Jvm.Cond := Jvm.Cond.code x code maxLocals ret :: tables_1
/-- a 'code' word, met by the world's own term for the bytes: nothing is compared byte by byte -/
theorem code_word {y : MethodName} {bytes : ByteArray} {mx : Nat} {rt : Option FieldType} {a : Array Value} {s : State} {m : MethodId} {meth : Method} {c : Code} (h1 : s.methodNamed? y = some m) (h2 : s.vm.method? m = some meth) (h3 : meth.code = some c) (h4 : c.code = bytes)
    (h5 : (c.maxLocals == mx && c.exceptionTable.isEmpty && decide (c.maxStack ≤ mostOperands) && decide (meth.sig.returnType = rt) && !meth.locks && decide (parseMethodDescriptor y.desc = some meth.sig)) = true) : (Jvm.Cond.code y bytes mx rt).before a s = true := by
  simp only [Bool.and_eq_true, beq_iff_eq, Bool.not_eq_true', decide_eq_true_eq] at h5
  obtain ⟨⟨⟨⟨⟨g1, g2⟩, g3⟩, g4⟩, g5⟩, g6⟩ := h5
  simp [Cond.before, Cond.holds, Cond.value, h1, h2, h3, h4, g1, g2, g3, g4, g5, g6]
def isCode : Jvm.Cond → Bool
  | .code _ _ _ _ => true
  | _ => false
theorem all_split {L : List Jvm.Cond} {P : Jvm.Cond → Bool} (h1 : L.all (fun c => isCode c || P c) = true) (h2 : ∀ c ∈ L.filter isCode, P c = true) : L.all P = true := by
  refine List.all_eq_true.mpr fun c hc => ?_
  have h := List.all_eq_true.mp h1 c hc
  rcases Bool.eq_false_or_eq_true (isCode c) with hi | hi
  · exact h2 c (List.mem_filter.mpr ⟨hc, hi⟩)
  · simpa [hi] using h
set_option maxRecDepth 65536 in
theorem w_c0 : (Jvm.Cond.code x code maxLocals ret).before args0 about1 = true := code_word (m := ⟨1, 3⟩) (meth := k1m3) (c := k1c3) (by decide +kernel) rfl rfl rfl (by decide +kernel)
set_option maxRecDepth 65536 in
theorem w_c1 : (Jvm.Cond.code ({ cls := "com/example/coralline/coralline/xml/XmlCharsIsNameStartCharPinLaw", name := "same", desc := "(I)Z" } : Jvm.MethodName) method_3_code (1 : Nat) (Option.some Jvm.ClassFile.FieldType.boolean)).before args0 about1 = true := code_word (m := ⟨1, 2⟩) (meth := k1m2) (c := k1c2) (by decide +kernel) rfl rfl rfl (by decide +kernel)
set_option maxRecDepth 65536 in
theorem w_c2 : (Jvm.Cond.code ({ cls := "com/example/coralline/coralline/xml/XmlChars", name := "isNameStartChar", desc := "(I)Z" } : Jvm.MethodName) prog_131_method_4_code (1 : Nat) (Option.some Jvm.ClassFile.FieldType.boolean)).before args0 about1 = true := code_word (m := ⟨2, 1⟩) (meth := k2m1) (c := k2c1) (by decide +kernel) rfl rfl rfl (by decide +kernel)
set_option maxRecDepth 65536 in
theorem w_c3 : (Jvm.Cond.code ({ cls := "com/example/coralline/coralline/xml/XmlCharsIsNameStartCharPinLaw", name := "ref", desc := "(I)Z" } : Jvm.MethodName) method_2_code (1 : Nat) (Option.some Jvm.ClassFile.FieldType.boolean)).before args0 about1 = true := code_word (m := ⟨1, 1⟩) (meth := k1m1) (c := k1c1) (by decide +kernel) rfl rfl rfl (by decide +kernel)
def codes1 : List Jvm.Cond := [Jvm.Cond.code x code maxLocals ret, Jvm.Cond.code ({ cls := "com/example/coralline/coralline/xml/XmlCharsIsNameStartCharPinLaw", name := "same", desc := "(I)Z" } : Jvm.MethodName) method_3_code (1 : Nat) (Option.some Jvm.ClassFile.FieldType.boolean), Jvm.Cond.code ({ cls := "com/example/coralline/coralline/xml/XmlChars", name := "isNameStartChar", desc := "(I)Z" } : Jvm.MethodName) prog_131_method_4_code (1 : Nat) (Option.some Jvm.ClassFile.FieldType.boolean), Jvm.Cond.code ({ cls := "com/example/coralline/coralline/xml/XmlCharsIsNameStartCharPinLaw", name := "ref", desc := "(I)Z" } : Jvm.MethodName) method_2_code (1 : Nat) (Option.some Jvm.ClassFile.FieldType.boolean)]
set_option maxRecDepth 65536 in
theorem codes_eq : words1.filter isCode = codes1 := rfl
theorem w_codes : ∀ c ∈ words1.filter isCode, c.before args0 about1 = true := by
  rw [codes_eq]
  intro c hc
  simp only [codes1, List.mem_cons, List.not_mem_nil, or_false] at hc
  rcases hc with rfl | rfl | rfl | rfl
  · exact w_c0
  · exact w_c1
  · exact w_c2
  · exact w_c3
set_option maxRecDepth 65536 in
theorem w_t1 : (words1.take 24).all (fun c => isCode c || c.before args0 about1) = true := by decide +kernel
set_option maxRecDepth 65536 in
theorem w_t2 : (words1.drop 24).all (fun c => isCode c || c.before args0 about1) = true := by decide +kernel
theorem w_tables : (allAtoms (Jvm.Cond.code x code maxLocals ret :: tables_1)).before args0 about1 = true := by
  rw [allAtoms_all]
  show words1.all (fun c => c.before args0 about1) = true
  refine all_split ?_ w_codes
  rw [← List.take_append_drop 24 words1, List.all_append, w_t1, w_t2]
  rfl
set_option maxRecDepth 65536 in
theorem w_case : (Jvm.Cond.and given_1 narrow_1).before args0 about1 = true := by decide +kernel
theorem w_applies : (headSpec (Jvm.Cond.code x code maxLocals ret :: tables_1) room_1).applies x e0.platform about1 = true :=
  (Spec.applies_iff w_frames).mpr ⟨w_running, w_runnable, w_alone, w_named, w_hears, w_ripe, w_room, w_tables⟩
theorem atStart : AtStart classFile x code maxLocals ret World_1 tables_1 room_1 Calls_1 rest_1 Pre_1 launch0 p0 e0 about1 theMethod args0 below0 :=
  ⟨lists_1, trivial, launch0.admits_env _ _ _, launch0.least_env, fairChoices_fair.cas, fairChoices_fair.clock, w_frames, w_args, w_heap, w_applies, trivial, trivial, w_case⟩
end start1
theorem witness_1 : WitnessClaimed_1 := ⟨start1.p0, start1.e0, start1.about1, start1.theMethod, start1.args0, start1.below0, start1.atStart⟩
end Jvm.Pilot.@@N@@
