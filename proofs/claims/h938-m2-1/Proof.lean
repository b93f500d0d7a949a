import JvmDerived
import JvmDerived.Pilot.@@N@@Statement
import JvmDerived.Pilot.@@N@@Code
set_option linter.unusedVariables false
set_option linter.unusedSimpArgs false
namespace Jvm.Own
open Sem ClassFile Op Lib Jvm.Stand Jvm.Free Jvm.LawKit Jvm.RoadKit
/-- from here the run goes on to a return that the contract allows -/
def Wk (p : Program) (e : Env) (below : List Frame) (F : Outcome → State → Prop) (T : State) (g : JFrame) : Prop :=
  ∃ s₂ o, Steps p.tables e below (T.setTop g) s₂ ∧ s₂.status = .running ∧ Ended s₂ below o ∧ F o s₂
abbrev FN (s : State) (Q : Option Value → Heap → List Loc → Prop) (kc ks : Nat) : Outcome → State → Prop := fun o s₂ => ∃ v L, o = .returned v ∧ Q v s₂.heap L ∧ FrameEnd s o s₂ L kc ks
section Walk
variable {p : Program} {l : Launch} {e : Env} {R : Room} {s : State} {m : MethodId} {args : Array Value} {below : List Frame} {meth : Method} {c : Code} {T : State} {locs : List Loc} {cells slots : Nat} {Q : Option Value → Heap → List Loc → Prop} {Fe : Outcome → State → Prop} {kc ks pc : Nat} {Ls : Array Slot} {S : List Value} {Z : State} {a0 : Array Value} {h : Heap}
theorem Wk.step {T' : State} {g g' : JFrame} (h : Wk p e below Fe T' g') (st : ∀ t, Steps p.tables e below (T'.setTop g') t → Steps p.tables e below (T.setTop g) t) : Wk p e below Fe T g := by
  obtain ⟨s₂, o, h1, h2⟩ := h
  exact ⟨s₂, o, st _ h1, h2⟩
theorem Wk.come {T' : State} {g g' : JFrame} (h : Wk p e below Fe T' g') (st : Steps p.tables e below (T.setTop g) (T'.setTop g')) : Wk p e below Fe T g := h.step fun _ k => st.trans k
theorem w_iload (X : Stand p l e R s m args below meth c T locs cells slots) (hx : p.tables.exec = Jvm.exec) {k : Nat} (v : Int32) (hd : decode c.code pc = .ok (.iload k, 2)) (pc' : Nat) (hp : pc + 2 = pc') (hl : Ls[k]? = some (.val (.int v))) (h : Wk p e below Fe T (mkF m pc' Ls (.int v :: S))) : Wk p e below Fe T (mkF m pc Ls S) := by
  subst hp; exact h.step fun _ k => XS.iload X.here hx rfl hd hl k
theorem w_iloadN (X : Stand p l e R s m args below meth c T locs cells slots) (hx : p.tables.exec = Jvm.exec) {k : Fin 4} (v : Int32) (hd : decode c.code pc = .ok (.iload_n k, 1)) (pc' : Nat) (hp : pc + 1 = pc') (hl : Ls[k.val]? = some (.val (.int v))) (h : Wk p e below Fe T (mkF m pc' Ls (.int v :: S))) : Wk p e below Fe T (mkF m pc Ls S) := by
  subst hp; exact h.step fun _ k => XS.iloadN X.here hx rfl hd hl k
theorem w_aload (X : Stand p l e R s m args below meth c T locs cells slots) (hx : p.tables.exec = Jvm.exec) {k : Nat} (v : Value) (hd : decode c.code pc = .ok (.aload k, 2)) (pc' : Nat) (hp : pc + 2 = pc') (hl : Ls[k]? = some (.val v)) (hv : v.isRef = true) (h : Wk p e below Fe T (mkF m pc' Ls (v :: S))) : Wk p e below Fe T (mkF m pc Ls S) := by
  subst hp; exact h.step fun _ k => XS.aload X.here hx rfl hd hl hv k
theorem w_aloadN (X : Stand p l e R s m args below meth c T locs cells slots) (hx : p.tables.exec = Jvm.exec) {k : Fin 4} (v : Value) (hd : decode c.code pc = .ok (.aload_n k, 1)) (pc' : Nat) (hp : pc + 1 = pc') (hl : Ls[k.val]? = some (.val v)) (hv : v.isRef = true) (h : Wk p e below Fe T (mkF m pc' Ls (v :: S))) : Wk p e below Fe T (mkF m pc Ls S) := by
  subst hp; exact h.step fun _ k => XS.aloadN X.here hx rfl hd hl hv k
theorem w_istore (X : Stand p l e R s m args below meth c T locs cells slots) (hx : p.tables.exec = Jvm.exec) {k : Nat} {x : Int32} (hd : decode c.code pc = .ok (.istore k, 2)) (pc' : Nat) (hp : pc + 2 = pc') (l' : Array Slot) (hl : storeLocals Ls k (.int x) = some l') (h : Wk p e below Fe T (mkF m pc' l' S)) : Wk p e below Fe T (mkF m pc Ls (.int x :: S)) := by
  subst hp; exact h.step fun _ k => XS.istore X.here hx rfl hd rfl hl k
theorem w_astore (X : Stand p l e R s m args below meth c T locs cells slots) (hx : p.tables.exec = Jvm.exec) {k : Nat} {x : Value} (hd : decode c.code pc = .ok (.astore k, 2)) (pc' : Nat) (hp : pc + 2 = pc') (hv : x.isRef = true) (l' : Array Slot) (hl : storeLocals Ls k x = some l') (h : Wk p e below Fe T (mkF m pc' l' S)) : Wk p e below Fe T (mkF m pc Ls (x :: S)) := by
  subst hp; exact h.step fun _ k => XS.astore X.here hx rfl hd rfl hv hl k
theorem w_iconst (X : Stand p l e R s m args below meth c T locs cells slots) (hx : p.tables.exec = Jvm.exec) {i : Int} (hd : decode c.code pc = .ok (.iconst i, 1)) (pc' : Nat) (hp : pc + 1 = pc') (z : Int32) (hz : Int32.ofInt i = z) (h : Wk p e below Fe T (mkF m pc' Ls (.int z :: S))) : Wk p e below Fe T (mkF m pc Ls S) := by
  subst hp hz; exact h.step fun _ k => XS.iconst X.here hx rfl hd k
theorem w_bipush (X : Stand p l e R s m args below meth c T locs cells slots) (hx : p.tables.exec = Jvm.exec) {i : Int} (hd : decode c.code pc = .ok (.bipush i, 2)) (pc' : Nat) (hp : pc + 2 = pc') (z : Int32) (hz : (Int8.ofInt i).toInt32 = z) (h : Wk p e below Fe T (mkF m pc' Ls (.int z :: S))) : Wk p e below Fe T (mkF m pc Ls S) := by
  subst hp hz; exact h.step fun _ k => XS.bipush X.here hx rfl hd k
theorem w_sipush (X : Stand p l e R s m args below meth c T locs cells slots) (hx : p.tables.exec = Jvm.exec) {i : Int} (hd : decode c.code pc = .ok (.sipush i, 3)) (pc' : Nat) (hp : pc + 3 = pc') (z : Int32) (hz : (Int16.ofInt i).toInt32 = z) (h : Wk p e below Fe T (mkF m pc' Ls (.int z :: S))) : Wk p e below Fe T (mkF m pc Ls S) := by
  subst hp hz; exact h.step fun _ k => XS.sipush X.here hx rfl hd k
theorem w_ldc (X : Stand p l e R s m args below meth c T locs cells slots) (hx : p.tables.exec = Jvm.exec) (hZ : Z.Warmed39 s.vm) {own : String} {index : Nat} {v : Int32} (hown : s.vm.findClass own = some m.cls) (w : (Cond.constant own index v).before a0 Z = true) (hd : decode c.code pc = .ok (.ldc index, 2)) (pc' : Nat) (hp : pc + 2 = pc') (h : Wk p e below Fe T (mkF m pc' Ls (.int v :: S))) : Wk p e below Fe T (mkF m pc Ls S) := by
  subst hp; exact h.step fun _ k => X.ldcInt hx hown (mvT hZ w) (g := mkF m pc Ls S) rfl hd _ k
theorem w_iadd (X : Stand p l e R s m args below meth c T locs cells slots) (hx : p.tables.exec = Jvm.exec) {x y : Int32} (hd : decode c.code pc = .ok (.iadd, 1)) (pc' : Nat) (hp : pc + 1 = pc') {z : Int32} (hz : z = x + y) (h : Wk p e below Fe T (mkF m pc' Ls (.int z :: S))) : Wk p e below Fe T (mkF m pc Ls (.int y :: .int x :: S)) := by
  subst hp hz; exact h.step fun _ k => XS.iadd X.here hx rfl hd rfl k
theorem w_isub (X : Stand p l e R s m args below meth c T locs cells slots) (hx : p.tables.exec = Jvm.exec) {x y : Int32} (hd : decode c.code pc = .ok (.isub, 1)) (pc' : Nat) (hp : pc + 1 = pc') {z : Int32} (hz : z = x - y) (h : Wk p e below Fe T (mkF m pc' Ls (.int z :: S))) : Wk p e below Fe T (mkF m pc Ls (.int y :: .int x :: S)) := by
  subst hp hz; exact h.step fun _ k => XS.isub X.here hx rfl hd rfl k
theorem w_iand (X : Stand p l e R s m args below meth c T locs cells slots) (hx : p.tables.exec = Jvm.exec) {x y : Int32} (hd : decode c.code pc = .ok (.iand, 1)) (pc' : Nat) (hp : pc + 1 = pc') {z : Int32} (hz : z = x &&& y) (h : Wk p e below Fe T (mkF m pc' Ls (.int z :: S))) : Wk p e below Fe T (mkF m pc Ls (.int y :: .int x :: S)) := by
  subst hp hz; exact h.step fun _ k => XS.iand X.here hx rfl hd rfl k
theorem w_irem (X : Stand p l e R s m args below meth c T locs cells slots) (hx : p.tables.exec = Jvm.exec) {x y : Int32} (hd : decode c.code pc = .ok (.irem, 1)) (pc' : Nat) (hp : pc + 1 = pc') (hy : y ≠ 0) {z : Int32} (hz : z = x % y) (h : Wk p e below Fe T (mkF m pc' Ls (.int z :: S))) : Wk p e below Fe T (mkF m pc Ls (.int y :: .int x :: S)) := by
  subst hp hz; exact h.step fun _ k => iremM (g := mkF m pc Ls (.int y :: .int x :: S)) X hx rfl hd rfl hy k
theorem w_i2b (X : Stand p l e R s m args below meth c T locs cells slots) (hx : p.tables.exec = Jvm.exec) {x : Int32} (hd : decode c.code pc = .ok (.i2b, 1)) (pc' : Nat) (hp : pc + 1 = pc') {z : Int32} (hz : z = x.toInt8.toInt32) (h : Wk p e below Fe T (mkF m pc' Ls (.int z :: S))) : Wk p e below Fe T (mkF m pc Ls (.int x :: S)) := by
  subst hp hz; exact h.step fun _ k => XS.i2b X.here hx rfl hd rfl k
theorem w_dup (X : Stand p l e R s m args below meth c T locs cells slots) (hx : p.tables.exec = Jvm.exec) {x : Value} (hd : decode c.code pc = .ok (.dup, 1)) (pc' : Nat) (hp : pc + 1 = pc') (hc : x.category = 1) (h : Wk p e below Fe T (mkF m pc' Ls (x :: x :: S))) : Wk p e below Fe T (mkF m pc Ls (x :: S)) := by
  subst hp; exact h.step fun _ k => XS.dup X.here hx rfl hd rfl hc k
theorem w_goto (X : Stand p l e R s m args below meth c T locs cells slots) (hx : p.tables.exec = Jvm.exec) {o : Int} (hd : decode c.code pc = .ok (.goto o, 3)) (pc' : Nat) (h : Wk p e below Fe T (mkF m pc' Ls S)) (ho : 0 ≤ (pc : Int) + o := by decide) (hp : ((pc : Int) + o).toNat = pc' := by decide) : Wk p e below Fe T (mkF m pc Ls S) := by
  exact h.step fun _ k => XS.goto X.here hx rfl rfl hd ho hp k
theorem holds_eq {x y : Int32} {A B : Int} (ha : x.toInt = A) (hb : y.toInt = B) : ((A = B) → if_icmp.holds .eq x y = true) ∧ ((¬ A = B) → if_icmp.holds .eq x y = false) := by
  subst ha hb
  constructor
  · intro q
    first
    | exact (tlt (x := x) (y := y) (Int32.lt_iff_toInt_lt.mpr (by omega))).1
    | exact (flt (x := x) (y := y) (fun r => by have := Int32.lt_iff_toInt_lt.mp r; omega)).2.1
    | exact (tlt (x := y) (y := x) (Int32.lt_iff_toInt_lt.mpr (by omega))).2.2.1
    | exact (flt (x := y) (y := x) (fun r => by have := Int32.lt_iff_toInt_lt.mp r; omega)).2.2.2
    | exact (teq (x := x) (y := y) (Int32.toInt_inj.mp (by omega))).1
    | exact (feq (x := x) (y := y) (fun r => q (by rw [r]))).2
  · intro q
    first
    | exact (flt (x := x) (y := y) (fun r => by have := Int32.lt_iff_toInt_lt.mp r; omega)).1
    | exact (tlt (x := x) (y := y) (Int32.lt_iff_toInt_lt.mpr (by omega))).2.1
    | exact (flt (x := y) (y := x) (fun r => by have := Int32.lt_iff_toInt_lt.mp r; omega)).2.2.1
    | exact (tlt (x := y) (y := x) (Int32.lt_iff_toInt_lt.mpr (by omega))).2.2.2
    | exact (feq (x := x) (y := y) (fun r => q (by rw [r]))).1
    | exact (teq (x := x) (y := y) (Int32.toInt_inj.mp (by omega))).2
theorem w_icmp_eq (X : Stand p l e R s m args below meth c T locs cells slots) (hx : p.tables.exec = Jvm.exec) {x y : Int32} {o : Int} (A B : Int) (ha : x.toInt = A) (hb : y.toInt = B) (hd : decode c.code pc = .ok (.if_icmp .eq o, 3)) (pt pn : Nat) (h1 : A = B → Wk p e below Fe T (mkF m pt Ls S)) (h2 : ¬ A = B → Wk p e below Fe T (mkF m pn Ls S)) (ho : 0 ≤ (pc : Int) + o := by decide) (hp : ((pc : Int) + o).toNat = pt := by decide) (hn : pc + 3 = pn := by rfl) : Wk p e below Fe T (mkF m pc Ls (.int y :: .int x :: S)) := by
  subst hn
  by_cases q : A = B
  · exact (h1 q).step fun _ k => XS.icmpYes X.here hx rfl rfl hd rfl ((holds_eq ha hb).1 q) ho hp k
  · have q' : ¬ A = B := by omega
    exact (h2 q').step fun _ k => XS.icmpNo X.here hx rfl hd rfl ((holds_eq ha hb).2 q') k
theorem w_if_eq (X : Stand p l e R s m args below meth c T locs cells slots) (hx : p.tables.exec = Jvm.exec) {x : Int32} {o : Int} (A : Int) (ha : x.toInt = A) (hd : decode c.code pc = .ok (.ifCond .eq o, 3)) (pt pn : Nat) (h1 : A = 0 → Wk p e below Fe T (mkF m pt Ls S)) (h2 : ¬ A = 0 → Wk p e below Fe T (mkF m pn Ls S)) (ho : 0 ≤ (pc : Int) + o := by decide) (hp : ((pc : Int) + o).toNat = pt := by decide) (hn : pc + 3 = pn := by rfl) : Wk p e below Fe T (mkF m pc Ls (.int x :: S)) := by
  subst hn
  have hb : (0 : Int32).toInt = 0 := rfl
  by_cases q : A = 0
  · exact (h1 q).step fun _ k => XS.ifYes X.here hx rfl rfl hd rfl ((if0 _ _).trans ((holds_eq ha hb).1 q)) ho hp k
  · have q' : ¬ A = 0 := by omega
    exact (h2 q').step fun _ k => XS.ifNo X.here hx rfl hd rfl ((if0 _ _).trans ((holds_eq ha hb).2 q')) k
theorem holds_ne {x y : Int32} {A B : Int} (ha : x.toInt = A) (hb : y.toInt = B) : ((¬ A = B) → if_icmp.holds .ne x y = true) ∧ ((A = B) → if_icmp.holds .ne x y = false) := by
  subst ha hb
  constructor
  · intro q
    first
    | exact (tlt (x := x) (y := y) (Int32.lt_iff_toInt_lt.mpr (by omega))).1
    | exact (flt (x := x) (y := y) (fun r => by have := Int32.lt_iff_toInt_lt.mp r; omega)).2.1
    | exact (tlt (x := y) (y := x) (Int32.lt_iff_toInt_lt.mpr (by omega))).2.2.1
    | exact (flt (x := y) (y := x) (fun r => by have := Int32.lt_iff_toInt_lt.mp r; omega)).2.2.2
    | exact (teq (x := x) (y := y) (Int32.toInt_inj.mp (by omega))).1
    | exact (feq (x := x) (y := y) (fun r => q (by rw [r]))).2
  · intro q
    first
    | exact (flt (x := x) (y := y) (fun r => by have := Int32.lt_iff_toInt_lt.mp r; omega)).1
    | exact (tlt (x := x) (y := y) (Int32.lt_iff_toInt_lt.mpr (by omega))).2.1
    | exact (flt (x := y) (y := x) (fun r => by have := Int32.lt_iff_toInt_lt.mp r; omega)).2.2.1
    | exact (tlt (x := y) (y := x) (Int32.lt_iff_toInt_lt.mpr (by omega))).2.2.2
    | exact (feq (x := x) (y := y) (fun r => q (by rw [r]))).1
    | exact (teq (x := x) (y := y) (Int32.toInt_inj.mp (by omega))).2
theorem w_icmp_ne (X : Stand p l e R s m args below meth c T locs cells slots) (hx : p.tables.exec = Jvm.exec) {x y : Int32} {o : Int} (A B : Int) (ha : x.toInt = A) (hb : y.toInt = B) (hd : decode c.code pc = .ok (.if_icmp .ne o, 3)) (pt pn : Nat) (h1 : ¬ A = B → Wk p e below Fe T (mkF m pt Ls S)) (h2 : A = B → Wk p e below Fe T (mkF m pn Ls S)) (ho : 0 ≤ (pc : Int) + o := by decide) (hp : ((pc : Int) + o).toNat = pt := by decide) (hn : pc + 3 = pn := by rfl) : Wk p e below Fe T (mkF m pc Ls (.int y :: .int x :: S)) := by
  subst hn
  by_cases q : ¬ A = B
  · exact (h1 q).step fun _ k => XS.icmpYes X.here hx rfl rfl hd rfl ((holds_ne ha hb).1 q) ho hp k
  · have q' : A = B := by omega
    exact (h2 q').step fun _ k => XS.icmpNo X.here hx rfl hd rfl ((holds_ne ha hb).2 q') k
theorem holds_lt {x y : Int32} {A B : Int} (ha : x.toInt = A) (hb : y.toInt = B) : ((A < B) → if_icmp.holds .lt x y = true) ∧ ((B ≤ A) → if_icmp.holds .lt x y = false) := by
  subst ha hb
  constructor
  · intro q
    first
    | exact (tlt (x := x) (y := y) (Int32.lt_iff_toInt_lt.mpr (by omega))).1
    | exact (flt (x := x) (y := y) (fun r => by have := Int32.lt_iff_toInt_lt.mp r; omega)).2.1
    | exact (tlt (x := y) (y := x) (Int32.lt_iff_toInt_lt.mpr (by omega))).2.2.1
    | exact (flt (x := y) (y := x) (fun r => by have := Int32.lt_iff_toInt_lt.mp r; omega)).2.2.2
    | exact (teq (x := x) (y := y) (Int32.toInt_inj.mp (by omega))).1
    | exact (feq (x := x) (y := y) (fun r => q (by rw [r]))).2
  · intro q
    first
    | exact (flt (x := x) (y := y) (fun r => by have := Int32.lt_iff_toInt_lt.mp r; omega)).1
    | exact (tlt (x := x) (y := y) (Int32.lt_iff_toInt_lt.mpr (by omega))).2.1
    | exact (flt (x := y) (y := x) (fun r => by have := Int32.lt_iff_toInt_lt.mp r; omega)).2.2.1
    | exact (tlt (x := y) (y := x) (Int32.lt_iff_toInt_lt.mpr (by omega))).2.2.2
    | exact (feq (x := x) (y := y) (fun r => q (by rw [r]))).1
    | exact (teq (x := x) (y := y) (Int32.toInt_inj.mp (by omega))).2
theorem w_icmp_lt (X : Stand p l e R s m args below meth c T locs cells slots) (hx : p.tables.exec = Jvm.exec) {x y : Int32} {o : Int} (A B : Int) (ha : x.toInt = A) (hb : y.toInt = B) (hd : decode c.code pc = .ok (.if_icmp .lt o, 3)) (pt pn : Nat) (h1 : A < B → Wk p e below Fe T (mkF m pt Ls S)) (h2 : B ≤ A → Wk p e below Fe T (mkF m pn Ls S)) (ho : 0 ≤ (pc : Int) + o := by decide) (hp : ((pc : Int) + o).toNat = pt := by decide) (hn : pc + 3 = pn := by rfl) : Wk p e below Fe T (mkF m pc Ls (.int y :: .int x :: S)) := by
  subst hn
  by_cases q : A < B
  · exact (h1 q).step fun _ k => XS.icmpYes X.here hx rfl rfl hd rfl ((holds_lt ha hb).1 q) ho hp k
  · have q' : B ≤ A := by omega
    exact (h2 q').step fun _ k => XS.icmpNo X.here hx rfl hd rfl ((holds_lt ha hb).2 q') k
theorem holds_le {x y : Int32} {A B : Int} (ha : x.toInt = A) (hb : y.toInt = B) : ((A ≤ B) → if_icmp.holds .le x y = true) ∧ ((B < A) → if_icmp.holds .le x y = false) := by
  subst ha hb
  constructor
  · intro q
    first
    | exact (tlt (x := x) (y := y) (Int32.lt_iff_toInt_lt.mpr (by omega))).1
    | exact (flt (x := x) (y := y) (fun r => by have := Int32.lt_iff_toInt_lt.mp r; omega)).2.1
    | exact (tlt (x := y) (y := x) (Int32.lt_iff_toInt_lt.mpr (by omega))).2.2.1
    | exact (flt (x := y) (y := x) (fun r => by have := Int32.lt_iff_toInt_lt.mp r; omega)).2.2.2
    | exact (teq (x := x) (y := y) (Int32.toInt_inj.mp (by omega))).1
    | exact (feq (x := x) (y := y) (fun r => q (by rw [r]))).2
  · intro q
    first
    | exact (flt (x := x) (y := y) (fun r => by have := Int32.lt_iff_toInt_lt.mp r; omega)).1
    | exact (tlt (x := x) (y := y) (Int32.lt_iff_toInt_lt.mpr (by omega))).2.1
    | exact (flt (x := y) (y := x) (fun r => by have := Int32.lt_iff_toInt_lt.mp r; omega)).2.2.1
    | exact (tlt (x := y) (y := x) (Int32.lt_iff_toInt_lt.mpr (by omega))).2.2.2
    | exact (feq (x := x) (y := y) (fun r => q (by rw [r]))).1
    | exact (teq (x := x) (y := y) (Int32.toInt_inj.mp (by omega))).2
theorem w_icmp_le (X : Stand p l e R s m args below meth c T locs cells slots) (hx : p.tables.exec = Jvm.exec) {x y : Int32} {o : Int} (A B : Int) (ha : x.toInt = A) (hb : y.toInt = B) (hd : decode c.code pc = .ok (.if_icmp .le o, 3)) (pt pn : Nat) (h1 : A ≤ B → Wk p e below Fe T (mkF m pt Ls S)) (h2 : B < A → Wk p e below Fe T (mkF m pn Ls S)) (ho : 0 ≤ (pc : Int) + o := by decide) (hp : ((pc : Int) + o).toNat = pt := by decide) (hn : pc + 3 = pn := by rfl) : Wk p e below Fe T (mkF m pc Ls (.int y :: .int x :: S)) := by
  subst hn
  by_cases q : A ≤ B
  · exact (h1 q).step fun _ k => XS.icmpYes X.here hx rfl rfl hd rfl ((holds_le ha hb).1 q) ho hp k
  · have q' : B < A := by omega
    exact (h2 q').step fun _ k => XS.icmpNo X.here hx rfl hd rfl ((holds_le ha hb).2 q') k
theorem w_if_le (X : Stand p l e R s m args below meth c T locs cells slots) (hx : p.tables.exec = Jvm.exec) {x : Int32} {o : Int} (A : Int) (ha : x.toInt = A) (hd : decode c.code pc = .ok (.ifCond .le o, 3)) (pt pn : Nat) (h1 : A ≤ 0 → Wk p e below Fe T (mkF m pt Ls S)) (h2 : 0 < A → Wk p e below Fe T (mkF m pn Ls S)) (ho : 0 ≤ (pc : Int) + o := by decide) (hp : ((pc : Int) + o).toNat = pt := by decide) (hn : pc + 3 = pn := by rfl) : Wk p e below Fe T (mkF m pc Ls (.int x :: S)) := by
  subst hn
  have hb : (0 : Int32).toInt = 0 := rfl
  by_cases q : A ≤ 0
  · exact (h1 q).step fun _ k => XS.ifYes X.here hx rfl rfl hd rfl ((if0 _ _).trans ((holds_le ha hb).1 q)) ho hp k
  · have q' : 0 < A := by omega
    exact (h2 q').step fun _ k => XS.ifNo X.here hx rfl hd rfl ((if0 _ _).trans ((holds_le ha hb).2 q')) k
theorem w_retN (X : Stand p l e R s m args below meth c T locs cells slots) (hx : p.tables.exec = Jvm.exec) (hlocks : meth.locks = false) {t : FieldType} {z : Int32} (hret : meth.sig.returnType = some t) (ht : t = .boolean ∨ t = .byte ∨ t = .char ∨ t = .short) (hd : decode c.code pc = .ok (.ireturn, 1)) (hc : cells ≤ kc) (hs : slots ≤ ks) (hQ : Q (some (.int (nar t z))) T.heap locs) : Wk p e below (FN s Q kc ks) T (mkF m pc Ls (.int z :: S)) := by
  obtain ⟨fs, hr, hrun, hended, hW, hsame⟩ := X.leave (v := some (.int (nar t z))) (fun h => by rw [hret] at h; cases h) hlocks
  exact ⟨_, _, retN X hx hret ht hd hr, hrun, hended, _, _, rfl, hQ, ⟨_, rfl⟩, hW, hsame.mono hc hs⟩
theorem w_ret0 (X : Stand p l e R s m args below meth c T locs cells slots) (hx : p.tables.exec = Jvm.exec) (hlocks : meth.locks = false) (hret : meth.sig.returnType = none) (hd : decode c.code pc = .ok (.return_, 1)) (hc : cells ≤ kc) (hs : slots ≤ ks) (hQ : Q none T.heap locs) : Wk p e below (FN s Q kc ks) T (mkF m pc Ls []) := by
  obtain ⟨fs, hr, hrun, hended, hW, hsame⟩ := X.leave (v := none) (fun _ => rfl) hlocks
  exact ⟨_, _, X.returnOut hx hret hd hr, hrun, hended, _, _, rfl, hQ, ⟨_, rfl⟩, hW, hsame.mono hc hs⟩
theorem w_callS (X : Stand p l e R s m args below meth c T locs cells slots) (hx : p.tables.exec = Jvm.exec) (hZ : Z.Warmed39 s.vm) {own : String} {index : Nat} {y : MethodName} {bytes : ByteArray} {maxL : Nat} {ret : Option FieldType} {rm : Room} {as' : Array Value} {Qc : Option Value → Heap → List Loc → Prop} (hown : s.vm.findClass own = some m.cls) (eT : T.heap = h)
    (hM : MetFree l y (head1 [Cond.code y bytes maxL ret] rm) (fun a U => a = as' ∧ Z.Warmed39 U.vm ∧ U.heap = h) (fun _ _ _ _ _ => True) (fun _ U o U' => ∃ v L, o = .returned v ∧ Qc v U'.heap L ∧ FrameEnd U o U' L rm.cells rm.slots))
    (w1 : (Cond.methodLink own index y).before a0 Z = true) (w2 : (Cond.static y).before a0 Z = true) (w3 : (Cond.initialized y.cls).before a0 Z = true) (w4 : (Cond.code y bytes maxL ret).before a0 Z = true) (hy : y.cls ≠ "java/lang/invoke/MethodHandle" ∧ y.cls ≠ "java/lang/invoke/VarHandle")
    (hsize : Ls.size = c.maxLocals) (argsL rest : List Value) (hlen : ∀ sig, parseMethodDescriptor y.desc = some sig → argsL.length = sig.parameters.length) (hst : S = argsL.reverse ++ rest) (has : argsL.toArray = as')
    (hf : rm.frames + 1 ≤ R.frames) (W : Nat) (hW : (rest.map fun v => v.category).sum = W) (hl : W + (maxL + 11) + rm.locals ≤ R.locals) (hc : cells + rm.cells ≤ R.cells) (hs : slots + rm.slots ≤ R.slots) (hd : decode c.code pc = .ok (.invokestatic index, 3)) (pc' : Nat) (hp : pc + 3 = pc')
    (k : ∀ (v : Option Value) (T' : State) (L : List Loc), Stand p l e R s m args below meth c T' (locs ++ L) (cells + rm.cells) (slots + rm.slots) → Qc v T'.heap L → Wk p e below Fe T' (mkF m pc' Ls (v.toList ++ rest))) : Wk p e below Fe T (mkF m pc Ls S) := by
  subst hp hst has hW
  obtain ⟨v, _, ⟨T', L', k', n'⟩, -, X', ⟨Lc, q1, q2, q3, q4⟩, st⟩ := Jvm.LawKit.callS X hx hown (mvT hZ w1) (mvT hZ w2) (mvT hZ w3) (mvT hZ w4) hy (backOf hM hZ w4 w3 hf hl) (g := mkF m pc Ls (argsL.reverse ++ rest)) rfl hsize hlen rfl (by show 2 * 0 + _ ≤ _; rw [Nat.mul_zero, Nat.zero_add]; exact Nat.le_refl _) hd (fun _ _ => ⟨rfl, eT, hc, hs⟩)
  dsimp only [Pt.U, Pt.locs, Pt.cells, Pt.slots] at X' q2 q3 q4 st q1
  subst q2 q3 q4
  exact (k v T' Lc X' q1).step st
theorem w_init (X : Stand p l e R s m args below meth c T locs cells slots) (hx : p.tables.exec = Jvm.exec) (hZ : Z.Warmed39 s.vm) {own : String} {index : Nat} {y : MethodName} {bytes : ByteArray} {maxL : Nat} {rm : Room} {as' : Array Value} {Qc : Option Value → Heap → List Loc → Prop} (hy1 : y.name = "<init>") (hown : s.vm.findClass own = some m.cls) (eT : T.heap = h)
    (hM : MetFree l y (head1 [Cond.code y bytes maxL none] rm) (fun a U => a = as' ∧ Z.Warmed39 U.vm ∧ U.heap = h) (fun _ _ _ _ _ => True) (fun _ U o U' => ∃ v L, o = .returned v ∧ Qc v U'.heap L ∧ FrameEnd U o U' L rm.cells rm.slots))
    (w1 : (Cond.methodLink own index y).before a0 Z = true) (w2 : (Cond.instanceMethod y).before a0 Z = true) (w3 : (Cond.initialized y.cls).before a0 Z = true) (w4 : (Cond.code y bytes maxL none).before a0 Z = true) (hy : y.cls ≠ "java/lang/invoke/MethodHandle" ∧ y.cls ≠ "java/lang/invoke/VarHandle")
    (hsize : Ls.size = c.maxLocals) (a : Addr) (argsL rest : List Value) (hlen : ∀ sig, parseMethodDescriptor y.desc = some sig → argsL.length = sig.parameters.length) (hst : S = argsL.reverse ++ .ref a :: rest) (has : (Value.ref a :: argsL).toArray = as')
    (hf : rm.frames + 1 ≤ R.frames) (W : Nat) (hW : (rest.map fun v => v.category).sum = W) (hl : W + (maxL + 11) + rm.locals ≤ R.locals) (hc : cells + rm.cells ≤ R.cells) (hs : slots + rm.slots ≤ R.slots) (hd : decode c.code pc = .ok (.invokespecial index, 3)) (pc' : Nat) (hp : pc + 3 = pc')
    (k : ∀ (v : Option Value) (T' : State) (L : List Loc), Stand p l e R s m args below meth c T' (locs ++ L) (cells + rm.cells) (slots + rm.slots) → Qc v T'.heap L → Wk p e below Fe T' (mkF m pc' Ls (v.toList ++ rest))) : Wk p e below Fe T (mkF m pc Ls S) := by
  subst hp hst has hW
  obtain ⟨v, _, ⟨T', L', k', n'⟩, -, X', ⟨Lc, q1, q2, q3, q4⟩, st⟩ := X.specialBack hx hy1 hown (mvT hZ w1) (mvT hZ w2) (mvT hZ w4) hy (backOf hM hZ w4 w3 hf hl) (g := mkF m pc Ls (argsL.reverse ++ .ref a :: rest)) rfl hsize (Steps.refl _) hlen rfl (by show 2 * 0 + _ ≤ _; rw [Nat.mul_zero, Nat.zero_add]; exact Nat.le_refl _) hd (fun _ _ => ⟨rfl, eT, hc, hs⟩)
  dsimp only [Pt.U, Pt.locs, Pt.cells, Pt.slots] at X' q2 q3 q4 st q1
  subst q2 q3 q4
  exact (k v T' Lc X' q1).come st
theorem w_virt (X : Stand p l e R s m args below meth c T locs cells slots) (hx : p.tables.exec = Jvm.exec) (hZ : Z.Warmed39 s.vm) {own : String} {index : Nat} {y : MethodName} {bytes : ByteArray} {maxL : Nat} {ret : Option FieldType} {rm : Room} {as' : Array Value} {Qc : Option Value → Heap → List Loc → Prop} {C : String} {y0 : MethodName} (hown : s.vm.findClass own = some m.cls) (eT : T.heap = h)
    (hM : MetFree l y (head1 [Cond.code y bytes maxL ret] rm) (fun a U => a = as' ∧ Z.Warmed39 U.vm ∧ U.heap = h) (fun _ _ _ _ _ => True) (fun _ U o U' => ∃ v L, o = .returned v ∧ Qc v U'.heap L ∧ FrameEnd U o U' L rm.cells rm.slots))
    (w1 : (Cond.methodLink own index y0).before a0 Z = true) (w2 : (Cond.declares y0).before a0 Z = true) (nf : NotFace s y0) (w5 : (Cond.selects C y0 y).before a0 Z = true) (w6 : (Cond.instanceMethod y).before a0 Z = true) (w3 : (Cond.initialized y.cls).before a0 Z = true) (w4 : (Cond.code y bytes maxL ret).before a0 Z = true) (hy : y0.cls ≠ "java/lang/invoke/MethodHandle" ∧ y0.cls ≠ "java/lang/invoke/VarHandle")
    (a : Addr) (E : Exa Z h a C)
    (hsize : Ls.size = c.maxLocals) (argsL rest : List Value) (hlen : ∀ sig, parseMethodDescriptor y0.desc = some sig → argsL.length = sig.parameters.length) (hst : S = argsL.reverse ++ .ref a :: rest) (has : (Value.ref a :: argsL).toArray = as')
    (hf : rm.frames + 1 ≤ R.frames) (W : Nat) (hW : (rest.map fun v => v.category).sum = W) (hl : W + (maxL + 11) + rm.locals ≤ R.locals) (hc : cells + rm.cells ≤ R.cells) (hs : slots + rm.slots ≤ R.slots) (hd : decode c.code pc = .ok (.invokevirtual index, 3)) (pc' : Nat) (hp : pc + 3 = pc')
    (k : ∀ (v : Option Value) (T' : State) (L : List Loc), Stand p l e R s m args below meth c T' (locs ++ L) (cells + rm.cells) (slots + rm.slots) → Qc v T'.heap L → Wk p e below Fe T' (mkF m pc' Ls (v.toList ++ rest))) : Wk p e below Fe T (mkF m pc Ls S) := by
  subst hp hst has hW
  obtain ⟨cq, kq, qa, qb, qc⟩ := isOf hZ eT E
  obtain ⟨v, _, ⟨T', L', k', n'⟩, -, X', ⟨Lc, q1, q2, q3, q4⟩, st⟩ := X.virtualBack hx hown (mvT hZ w1) (mvT hZ w2) nf (mvT hZ w5) (mvT hZ w6) hy (backOf hM hZ w4 w3 hf hl) qa qc (g := mkF m pc Ls (argsL.reverse ++ .ref a :: rest)) rfl hsize (Steps.refl _) hlen rfl (by show 2 * 0 + _ ≤ _; rw [Nat.mul_zero, Nat.zero_add]; exact Nat.le_refl _) hd (fun _ _ => ⟨rfl, eT, hc, hs⟩)
  dsimp only [Pt.U, Pt.locs, Pt.cells, Pt.slots] at X' q2 q3 q4 st q1
  subst q2 q3 q4
  exact (k v T' Lc X' q1).come st
theorem w_objinit (X : Stand p l e R s m args below meth c T locs cells slots) (hx : p.tables.exec = Jvm.exec) (hZ : Z.Warmed39 s.vm) {own : String} {idx : Nat} (hown : s.vm.findClass own = some m.cls) (eT : T.heap = h) (w1 : (Cond.methodLink own idx Lib.objectInit).before a0 Z = true) (w2 : (Cond.instanceMethod Lib.objectInit).before a0 Z = true) (w3 : (Cond.code Lib.objectInit ⟨#[0xb1]⟩ 1 none).before a0 Z = true)
    (hsize : Ls.size = c.maxLocals) {a : Addr} (hf : 1 ≤ R.frames) (W : Nat) (hW : (S.map fun v => v.category).sum = W) (hl : W + 12 ≤ R.locals) (hd : decode c.code pc = .ok (.invokespecial idx, 3)) (pc' : Nat) (hp : pc + 3 = pc')
    (k : ∀ T' : State, Stand p l e R s m args below meth c T' locs cells slots → T'.heap = h → Wk p e below Fe T' (mkF m pc' Ls S)) : Wk p e below Fe T (mkF m pc Ls (.ref a :: S)) := by
  subst hp hW
  obtain ⟨T', X', e', st⟩ := initO X hx hZ hown w1 w2 w3 eT (g := mkF m pc Ls (.ref a :: S)) rfl hsize rfl hd hf (by show 2 * 0 + _ ≤ _; rw [Nat.mul_zero, Nat.zero_add]; exact Nat.le_refl _) hl
  exact (k T' X' e').step st
theorem w_getF (X : Stand p l e R s m args below meth c T locs cells slots) (hx : p.tables.exec = Jvm.exec) (hZ : Z.Warmed39 s.vm) {own R0 O n d host : String} {index : Nat} (hown : s.vm.findClass own = some m.cls) (eT : T.heap = h) (w : (Cond.fieldLink own index R0 n d).before a0 Z = true ∨ (Cond.fieldLinkNest own index R0 n d host).before a0 Z = true) (via : Via Z R0 O n d)
    {a : Addr} {v : Value} (F : Fld Z h a O n d v) (hd : decode c.code pc = .ok (.getfield index, 3)) (pc' : Nat) (hp : pc + 3 = pc')
    (k : ∀ T' : State, Stand p l e R s m args below meth c T' locs cells slots → T'.heap = h → Wk p e below Fe T' (mkF m pc' Ls (v :: S))) : Wk p e below Fe T (mkF m pc Ls (.ref a :: S)) := by
  subst hp
  obtain ⟨T', X', e', st⟩ := getF X hx hZ hown w via eT F (g := mkF m pc Ls (.ref a :: S)) rfl rfl hd
  exact (k T' X' e').step st
theorem w_putF (X : Stand p l e R s m args below meth c T locs cells slots) (hx : p.tables.exec = Jvm.exec) (hZ : Z.Warmed39 s.vm) {own R0 O n d host C : String} {index kk : Nat} {ty : FieldType} (hown : s.vm.findClass own = some m.cls) (eT : T.heap = h) (w : (Cond.fieldLink own index R0 n d).before a0 Z = true ∨ (Cond.fieldLinkNest own index R0 n d host).before a0 Z = true) (via : Via Z R0 O n d)
    {a : Addr} {v old : Value} (F : Fld Z h a O n d old) (E : Exa Z h a C) (L : (Cond.lays C O n d).before a0 Z = true ∨ ((Cond.laysFinal C O n d).before a0 Z = true ∧ own = O ∧ meth.name = "<init>")) (wi : (Cond.instantiable C kk).before a0 Z = true)
    (hty : parseFieldDescriptor d = some ty) (hn : narrow ty v = v) (hf : fits ty v = true) (hd : decode c.code pc = .ok (.putfield index, 3)) (pc' : Nat) (hp : pc + 3 = pc')
    (k : ∀ (T' : State) (h' : Heap), Stand p l e R s m args below meth c T' (locs ++ [⟨a, Jvm.RoadKit.slotOf Z O n d⟩]) cells slots → T'.heap = h' → Wr h h' a (Jvm.RoadKit.slotOf Z O n d) v → Wk p e below Fe T' (mkF m pc' Ls S)) : Wk p e below Fe T (mkF m pc Ls (v :: .ref a :: S)) := by
  subst hp
  obtain ⟨T', h', X', e', W', st⟩ := putF X hx hZ hown w via eT F E L wi hty hn hf (g := mkF m pc Ls (v :: .ref a :: S)) rfl rfl hd
  exact (k T' h' X' e' W').step st
theorem w_new (X : Stand p l e R s m args below meth c T locs cells slots) (hx : p.tables.exec = Jvm.exec) (hZ : Z.Warmed39 s.vm) {own C : String} {index n : Nat} (hown : s.vm.findClass own = some m.cls) (eT : T.heap = h) (w : (Cond.classLink own index C).before a0 Z = true) (wi : (Cond.instantiable C n).before a0 Z = true) (wz : (Cond.initialized C).before a0 Z = true)
    (hc : cells + 1 ≤ R.cells) (hl : slots + n ≤ R.slots) (hd : decode c.code pc = .ok (.new index, 3)) (pc' : Nat) (hp : pc + 3 = pc')
    (k : ∀ (T' : State) (h' : Heap) (a : Addr), Stand p l e R s m args below meth c T' locs (cells + 1) (slots + n) → T'.heap = h' → a = h.size → Ext h h' → Exa Z h' a C → (∀ {O nm d : String} {ty : FieldType}, Laid Z a0 C O nm d → parseFieldDescriptor d = some ty → Fld Z h' a O nm d (defaultValue ty)) → Wk p e below Fe T' (mkF m pc' Ls (.ref a :: S))) : Wk p e below Fe T (mkF m pc Ls S) := by
  subst hp
  obtain ⟨T', h', X', e', E', A', D', -, st⟩ := newO X hx hZ hown w wi wz eT (g := mkF m pc Ls S) rfl hd hc hl
  exact (k T' h' _ X' e' rfl E' A' D').step st
theorem w_newP (X : Stand p l e R s m args below meth c T locs cells slots) (hx : p.tables.exec = Jvm.exec) (hZ : Z.Warmed39 s.vm) (eT : T.heap = h) {aty : ArrayType} (w : (Cond.arrayClass (newarray.typeOf aty)).before a0 Z = true) {n : Int32} (hn : ¬ n < 0) (cap : Nat) (hcap : n.toNatClampNeg ≤ cap) (hb : cap * 8 ≤ 536870912) (hc : cells + 1 ≤ R.cells) (hl : slots + cap ≤ R.slots) (hd : decode c.code pc = .ok (.newarray aty, 2)) (pc' : Nat) (hp : pc + 2 = pc')
    (k : ∀ (T' : State) (h' : Heap) (a : Addr) (cA : ClassId), Stand p l e R s m args below meth c T' locs (cells + 1) (slots + cap) → T'.heap = h' → a = h.size → Ext h h' → Arv Z h' a cA (newarray.typeOf aty) n [] (defaultValue (newarray.typeOf aty)) → Wk p e below Fe T' (mkF m pc' Ls (.ref a :: S))) : Wk p e below Fe T (mkF m pc Ls (.int n :: S)) := by
  subst hp
  obtain ⟨T', h', cA, X', e', E', A', st⟩ := newP X hx hZ w eT (g := mkF m pc Ls (.int n :: S)) rfl hd rfl hn hcap hb hc hl
  exact (k T' h' _ cA X' e' rfl E' (Arv.new A' hn)).step st
theorem w_length (X : Stand p l e R s m args below meth c T locs cells slots) (hx : p.tables.exec = Jvm.exec) (hZ : Z.Warmed39 s.vm) (eT : T.heap = h) {a : Addr} {kA : ClassId} {ty : FieldType} {z : Int32} {vs : List Value} {dv : Value} (A : Arv Z h a kA ty z vs dv) (hd : decode c.code pc = .ok (.arraylength, 1)) (pc' : Nat) (hp : pc + 1 = pc')
    (k : Wk p e below Fe T (mkF m pc' Ls (.int z :: S))) : Wk p e below Fe T (mkF m pc Ls (.ref a :: S)) := by
  subst hp
  obtain ⟨cl, Ar, -, Sz, Nz, -, -⟩ := A
  refine k.step fun t q => X.arraylength hx (by rw [eT]; exact Ar.1) (State.isArrayOf_alike hZ.alike Ar.2.1) (g := mkF m pc Ls (.ref a :: S)) rfl rfl hd t ?_
  rw [len_of Sz Nz]; exact q
theorem w_bastore (X : Stand p l e R s m args below meth c T locs cells slots) (hx : p.tables.exec = Jvm.exec) (hZ : Z.Warmed39 s.vm) (eT : T.heap = h) {a : Addr} {kA : ClassId} {z : Int32} {vs : List Value} {dv : Value} (A : Arv Z h a kA .byte z vs dv) {j x : Int32} (hj : 0 ≤ j.toInt ∧ j.toInt < z.toInt) (i : Nat) (hi : j.toNatClampNeg = i) (hv : i < vs.length) (hd : decode c.code pc = .ok (.bastore, 1)) (pc' : Nat) (hp : pc + 1 = pc')
    (k : ∀ (T' : State) (h' : Heap), Stand p l e R s m args below meth c T' (locs ++ [⟨a, j.toNatClampNeg⟩]) cells slots → T'.heap = h' → Wr h h' a j.toNatClampNeg (.int x.toInt8.toInt32) → Arv Z h' a kA .byte z (vs.set i (.int x.toInt8.toInt32)) dv → Wk p e below Fe T' (mkF m pc' Ls S)) : Wk p e below Fe T (mkF m pc Ls (.int x :: .int j :: .ref a :: S)) := by
  subst hp
  obtain ⟨cl, Ar, q, Sz, Nz, H, G⟩ := A
  have hin : ¬ (j < 0 ∨ cl.slots.size ≤ j.toNatClampNeg) := inb_of Sz ⟨fun r => by have := Int32.lt_iff_toInt_lt.mp r; have h0 : (0 : Int32).toInt = 0 := rfl; omega, Int32.lt_iff_toInt_lt.mpr hj.2⟩
  obtain ⟨T', h', X', e', W', st⟩ := stB X hx hZ eT Ar hin (g := mkF m pc Ls (.int x :: .int j :: .ref a :: S)) rfl rfl hd
  exact (k T' h' X' e' W' (Arv.set Ar q Sz Nz H G (fits_nar_byte _) W' i hi hv)).step st
theorem w_baload (X : Stand p l e R s m args below meth c T locs cells slots) (hx : p.tables.exec = Jvm.exec) (hZ : Z.Warmed39 s.vm) (eT : T.heap = h) {a : Addr} {kA : ClassId} {z : Int32} {vs : List Value} {dv : Value} (A : Arv Z h a kA .byte z vs dv) {j : Int32} (hj : 0 ≤ j.toInt ∧ j.toInt < z.toInt) {v : Value} (hv : vs.getD j.toNatClampNeg dv = v) (hd : decode c.code pc = .ok (.baload, 1)) (pc' : Nat) (hp : pc + 1 = pc')
    (k : Wk p e below Fe T (mkF m pc' Ls (v :: S))) : Wk p e below Fe T (mkF m pc Ls (.int j :: .ref a :: S)) := by
  subst hp
  obtain ⟨cl, Ar, q, Sz, Nz, H, G⟩ := A
  have hin : ¬ (j < 0 ∨ cl.slots.size ≤ j.toNatClampNeg) := inb_of Sz ⟨fun r => by have := Int32.lt_iff_toInt_lt.mp r; have h0 : (0 : Int32).toInt = 0 := rfl; omega, Int32.lt_iff_toInt_lt.mpr hj.2⟩
  exact k.step fun t r => X.baloadBytes hx (by rw [eT]; exact Ar.1) (State.isArrayOf_alike hZ.alike Ar.2.1) Ar.2.2 hin (Has.at H hin hv) (g := mkF m pc Ls (.int j :: .ref a :: S)) rfl rfl hd t r
theorem w_priv0 (X : Stand p l e R s m args below meth c T locs cells slots) (hx : p.tables.exec = Jvm.exec) (hZ : Z.Warmed39 s.vm) {own : String} {index : Nat} {y : MethodName} {bytes : ByteArray} {maxL : Nat} {ret : Option FieldType} {rm : Room} {as' : Array Value} {Qc : Option Value → Heap → List Loc → Prop} (hown : s.vm.findClass own = some m.cls) (eT : T.heap = h)
    (hM : MetFree l y (head1 [Cond.code y bytes maxL ret] rm) (fun a U => a = as' ∧ Z.Warmed39 U.vm ∧ U.heap = h) (fun _ _ _ _ _ => True) (fun _ U o U' => ∃ v L, o = .returned v ∧ Qc v U'.heap L ∧ FrameEnd U o U' L rm.cells rm.slots))
    (w1 : (Cond.methodLink own index y).before a0 Z = true) (w2 : (Cond.instanceMethod y).before a0 Z = true) {ni : Nat} (w5 : (Cond.instantiable y.cls ni).before a0 Z = true) (w6 : (Cond.privateMethod y).before a0 Z = true) (w3 : (Cond.initialized y.cls).before a0 Z = true) (w4 : (Cond.code y bytes maxL ret).before a0 Z = true) (hy : y.cls ≠ "java/lang/invoke/MethodHandle" ∧ y.cls ≠ "java/lang/invoke/VarHandle")
    (a : Addr) {C : String} (E : Exa Z h a C)
    (hsize : Ls.size = c.maxLocals) (argsL rest : List Value) (hlen : ∀ sig, parseMethodDescriptor y.desc = some sig → argsL.length = sig.parameters.length) (hst : S = argsL.reverse ++ .ref a :: rest) (has : (Value.ref a :: argsL).toArray = as')
    (hf : rm.frames + 1 ≤ R.frames) (W : Nat) (hW : (rest.map fun v => v.category).sum = W) (hl : W + (maxL + 11) + rm.locals ≤ R.locals) (hc : cells + rm.cells ≤ R.cells) (hs : slots + rm.slots ≤ R.slots) (hd : decode c.code pc = .ok (.invokevirtual index, 3)) (pc' : Nat) (hp : pc + 3 = pc')
    (k : ∀ (v : Option Value) (T' : State) (L : List Loc), Stand p l e R s m args below meth c T' (locs ++ L) (cells + rm.cells) (slots + rm.slots) → Qc v T'.heap L → Wk p e below Fe T' (mkF m pc' Ls (v.toList ++ rest))) : Wk p e below Fe T (mkF m pc Ls S) := by
  subst hp hst has hW
  obtain ⟨cq, q, q'⟩ := E.cell
  obtain ⟨ci, ki, i1, i2, -, i4, -⟩ := Cond.instantiable_spec (mvT (args := args) hZ w5)
  have hps := Cond.privateMethod_at (mvP hZ w6 (args := args))
  have hsel := Jvm.Stand.selects_self_of_private (args := args) i1 i2 (by cases hq : ki.isInterface <;> simp [hq] at i4 ⊢) hps (mvT hZ w2) hy
  obtain ⟨v, _, ⟨T', L', k', n'⟩, -, X', ⟨Lc, q1, q2, q3, q4⟩, st⟩ := X.privateBack hx hown (mvT hZ w1) (mvT hZ w2) hsel hps (mvT hZ w4) hy (backOf hM hZ w4 w3 hf hl) (g := mkF m pc Ls (argsL.reverse ++ .ref a :: rest)) rfl hsize (Steps.refl _) (a := a) (by rw [eT]; exact q) q' hlen rfl (by show 2 * 0 + _ ≤ _; rw [Nat.mul_zero, Nat.zero_add]; exact Nat.le_refl _) hd (fun _ _ => ⟨rfl, eT, hc, hs⟩)
  dsimp only [Pt.U, Pt.locs, Pt.cells, Pt.slots] at X' q2 q3 q4 st q1
  subst q2 q3 q4
  exact (k v T' Lc X' q1).come st
theorem w_copy (X : Stand p l e R s m args below meth c T locs cells slots) (hx : p.tables.exec = Jvm.exec) (hZ : Z.Warmed39 s.vm) {own : String} {index : Nat} (hown : s.vm.findClass own = some m.cls) (eT : T.heap = h) (w1 : (Cond.methodLink own index Jvm.Stand.acN).before a0 Z = true) (w2 : (Cond.native Jvm.Stand.acN).before a0 Z = true) (w3 : (Cond.static Jvm.Stand.acN).before a0 Z = true) (w4 : (Cond.initialized "java/lang/System").before a0 Z = true)
    {a b : Addr} {kA kB : ClassId} {ty : FieldType} {z z' sp dp nn : Int32} {vs vd : List Value} {dv dd : Value} (A : Arv Z h a kA ty z vs dv) (B : Arv Z h b kB ty z' vd dd) (hty : refKind ty = false) (i1 i2 i3 : Nat) (e1 : sp.toNatClampNeg = i1) (e2 : dp.toNatClampNeg = i2) (e3 : nn.toNatClampNeg = i3) (h1 : ¬ sp < 0) (h2 : ¬ dp < 0) (h3 : ¬ nn < 0)
    (h4 : i1 + i3 ≤ z.toNatClampNeg) (h5 : i2 + i3 ≤ z'.toNatClampNeg) (hl : i2 + i3 ≤ vd.length) (res : List Value) (hres : vd.take i2 ++ ((List.range i3).map fun i => vs.getD (i1 + i) dv) ++ vd.drop (i2 + i3) = res) {n0 : Nat} (N : Fr n0 locs) (ge : n0 ≤ b)
    (hsize : Ls.size = c.maxLocals) (hf : 1 ≤ R.frames) (W : Nat) (hW : (S.map fun v => v.category).sum = W) (hlo : W + 18 ≤ R.locals) (hd : decode c.code pc = .ok (.invokestatic index, 3)) (pc' : Nat) (hp : pc + 3 = pc')
    (k : ∀ (T' : State) (h' : Heap) (L : List Loc), Stand p l e R s m args below meth c T' L cells slots → T'.heap = h' → Fr n0 L → Keep h h' [b] → Arv Z h' b kB ty z' res dd → Wk p e below Fe T' (mkF m pc' Ls S)) : Wk p e below Fe T (mkF m pc Ls (.int nn :: .int dp :: .ref b :: .int sp :: .ref a :: S)) := by
  subst hp hW hres e1 e2 e3
  obtain ⟨T', h', L, X', e', N', K', A', st⟩ := cpA X hx hZ hown w1 w2 w3 w4 eT A B (Or.inl ⟨rfl, hty⟩) h1 h2 h3 h4 h5 rfl hl N ge (g := mkF m pc Ls (.int nn :: .int dp :: .ref b :: .int sp :: .ref a :: S)) rfl hsize rfl hd hf (by show 2 * 0 + _ ≤ _; rw [Nat.mul_zero, Nat.zero_add]; exact Nat.le_refl _) hlo
  exact (k T' h' L X' e' N' K' A').step st
abbrev CT (l : Launch) (y : MethodName) (bytes : ByteArray) (maxL : Nat) (ret : Option FieldType) (ws : List Cond) (rm : Room) (as' : Array Value) (Z : State) (h0 : Heap) (Q : Option Value → Heap → List Loc → Prop) : Prop :=
  MetFree l y (head1 (Cond.code y bytes maxL ret :: ws) rm) (fun a U => a = as' ∧ Z.Warmed39 U.vm ∧ U.heap = h0) (fun _ _ _ _ _ => True) (fun _ U o U' => ∃ v L, o = .returned v ∧ Q v U'.heap L ∧ FrameEnd U o U' L rm.cells rm.slots)
theorem body_of {y : MethodName} {bytes : ByteArray} {maxL : Nat} {ret : Option FieldType} {ws : List Cond} {rm : Room} {as' : Array Value} {h0 : Heap} (hpl : plainFor y = true)
    (k : ∀ (p : Program) (e : Env) (s : State) (m : MethodId) (below : List Frame) (meth : Method) (c : Code) (s₁ : State), p.tables.exec = Jvm.exec → (∀ {pc : Nat} {r : Except DecodeError (Instr × Nat)}, decode bytes pc = r → decode c.code pc = r) → meth.sig.returnType = ret → meth.locks = false → c.maxLocals = maxL → s.vm.findClass y.cls = some m.cls → meth.name = y.name → Stand p l e rm s m as' below meth c s₁ [] 0 0 → s₁.heap = h0 → Z.Warmed39 s.vm → Wk p e below (FN s Q kc ks) s₁ (entryFrame m as' maxL)) :
    MetFree l y (head1 (Cond.code y bytes maxL ret :: ws) rm) (fun a U => a = as' ∧ Z.Warmed39 U.vm ∧ U.heap = h0) (fun _ _ _ _ _ => True) (fun _ U o U' => ∃ v L, o = .returned v ∧ Q v U'.heap L ∧ FrameEnd U o U' L kc ks) := by
  refine MetFree.of_bodySF hpl hisR ?_
  intro p e s m args below meth c s₁ Bd hml0 hP hK
  obtain ⟨rfl, hZ, hh⟩ := hP
  obtain ⟨s₂, o, h1, h2⟩ := k p e s m below meth c s₁ Bd.exec (fun q => hb Bd.bytes q) Bd.returns Bd.notSynchronized hml0 (findClass_of_methodNamed Bd.named) (name_of_methodNamed Bd.named Bd.method).1 (Stand.of_body Bd) (by rw [← hh, Bd.state]; rfl) hZ
  exact ⟨s₂, o, h1, h2⟩
theorem ne_arv {a b : Addr} {C : String} {k : Nat} {kA : ClassId} {ty : FieldType} {z : Int32} {vs : List Value} {dv : Value} (F : Exa Z h a C) (wi : (Cond.instantiable C k).before a0 Z = true) (G : Arv Z h b kA ty z vs dv) : a ≠ b := by
  obtain ⟨c, A, -⟩ := G; exact ne_arr F wi A
end Walk
/-! plain facts on Int32 and Int64, in Ints -/
theorem eqI {x y : Int32} (h : x.toInt = y.toInt) : x = y := Int32.toInt_inj.mp h
theorem maskX {x m : Int32} {A : Int} (k : Nat) (ha : x.toInt = A) (hk : k ≤ 31) (hm : m.toBitVec.toNat = 2 ^ k - 1) : (x &&& m).toInt = A % (2 ^ k : Nat) := by subst ha; exact c_mask x m k hk hm
theorem iremX {x y : Int32} {A d : Int} (ha : x.toInt = A) (hy : y.toInt = d) (h0 : 0 ≤ A) : (x % y).toInt = A % d := by subst ha; exact (c_irem x y d hy).1 h0
theorem i2bX {x : Int32} {A : Int} (ha : x.toInt = A) : (x.toInt8.toInt32.toInt - A) % 256 = 0 ∧ -128 ≤ x.toInt8.toInt32.toInt ∧ x.toInt8.toInt32.toInt < 128 := by
  subst ha; exact c_i2b x
theorem byteE {x : Int32} {A : Int} (ha : x.toInt = A) (h0 : -128 ≤ A) (h1 : A < 128) : x.toInt8.toInt32.toInt = x.toInt := by
  have := c_i2b x; omega
end Jvm.Own
namespace Jvm.Pilot.@@N@@
open Jvm Jvm.ClassFile Sem Op Lib Jvm.Free Jvm.Stand Jvm.LawKit Jvm.RoadKit Bundle Jvm.Own Jvm.Pilot.@@N@@.Jvm.D
abbrev cN_0 : String := "com/example/scrinium/scrinium/io/HeaderLine"
abbrev cN_1 : String := "com/example/scrinium/scrinium/io/HeaderLineContinuesFieldPinLaw"
theorem tw_0 {Z : State} {a0 : Array Value} (hw : ∀ d ∈ tables_1, d.before a0 Z = true) : (Jvm.Cond.arrayClass Jvm.ClassFile.FieldType.byte).before a0 Z = true := hw _ (List.mem_of_getElem? (i := 0) rfl)
theorem tw_1 {Z : State} {a0 : Array Value} (hw : ∀ d ∈ tables_1, d.before a0 Z = true) : (Jvm.Cond.constant "com/example/scrinium/scrinium/io/HeaderLineContinuesFieldPinLaw" (7 : Nat) (2147483647 : Int32)).before a0 Z = true := hw _ (List.mem_of_getElem? (i := 1) rfl)
theorem tw_2 {Z : State} {a0 : Array Value} (hw : ∀ d ∈ tables_1, d.before a0 Z = true) : (Jvm.Cond.classLink "com/example/scrinium/scrinium/io/HeaderLineContinuesFieldPinLaw" (8 : Nat) "com/example/scrinium/scrinium/io/HeaderLine").before a0 Z = true := hw _ (List.mem_of_getElem? (i := 2) rfl)
theorem tw_3 {Z : State} {a0 : Array Value} (hw : ∀ d ∈ tables_1, d.before a0 Z = true) : (Jvm.Cond.instantiable "com/example/scrinium/scrinium/io/HeaderLine" (3 : Nat)).before a0 Z = true := hw _ (List.mem_of_getElem? (i := 3) rfl)
theorem tw_4 {Z : State} {a0 : Array Value} (hw : ∀ d ∈ tables_1, d.before a0 Z = true) : (Jvm.Cond.initialized "com/example/scrinium/scrinium/io/HeaderLine").before a0 Z = true := hw _ (List.mem_of_getElem? (i := 4) rfl)
theorem tw_5 {Z : State} {a0 : Array Value} (hw : ∀ d ∈ tables_1, d.before a0 Z = true) : (Jvm.Cond.methodLink "com/example/scrinium/scrinium/io/HeaderLineContinuesFieldPinLaw" (10 : Nat) ({ cls := "com/example/scrinium/scrinium/io/HeaderLine", name := "<init>", desc := "()V" } : Jvm.MethodName)).before a0 Z = true := hw _ (List.mem_of_getElem? (i := 5) rfl)
theorem tw_6 {Z : State} {a0 : Array Value} (hw : ∀ d ∈ tables_1, d.before a0 Z = true) : (Jvm.Cond.instanceMethod ({ cls := "com/example/scrinium/scrinium/io/HeaderLine", name := "<init>", desc := "()V" } : Jvm.MethodName)).before a0 Z = true := hw _ (List.mem_of_getElem? (i := 6) rfl)
theorem tw_7 {Z : State} {a0 : Array Value} (hw : ∀ d ∈ tables_1, d.before a0 Z = true) : (Jvm.Cond.code ({ cls := "com/example/scrinium/scrinium/io/HeaderLine", name := "<init>", desc := "()V" } : Jvm.MethodName) prog_51_method_1_code (1 : Nat) (Option.none : Option Jvm.ClassFile.FieldType)).before a0 Z = true := hw _ (List.mem_of_getElem? (i := 7) rfl)
theorem tw_8 {Z : State} {a0 : Array Value} (hw : ∀ d ∈ tables_1, d.before a0 Z = true) : (Jvm.Cond.methodLink "com/example/scrinium/scrinium/io/HeaderLine" (1 : Nat) ({ cls := "java/lang/Object", name := "<init>", desc := "()V" } : Jvm.MethodName)).before a0 Z = true := hw _ (List.mem_of_getElem? (i := 8) rfl)
theorem tw_9 {Z : State} {a0 : Array Value} (hw : ∀ d ∈ tables_1, d.before a0 Z = true) : (Jvm.Cond.instanceMethod ({ cls := "java/lang/Object", name := "<init>", desc := "()V" } : Jvm.MethodName)).before a0 Z = true := hw _ (List.mem_of_getElem? (i := 9) rfl)
theorem tw_10 {Z : State} {a0 : Array Value} (hw : ∀ d ∈ tables_1, d.before a0 Z = true) : (Jvm.Cond.code ({ cls := "java/lang/Object", name := "<init>", desc := "()V" } : Jvm.MethodName) object_method_1_code (1 : Nat) (Option.none : Option Jvm.ClassFile.FieldType)).before a0 Z = true := hw _ (List.mem_of_getElem? (i := 10) rfl)
theorem tw_11 {Z : State} {a0 : Array Value} (hw : ∀ d ∈ tables_1, d.before a0 Z = true) : (Jvm.Cond.fieldLink "com/example/scrinium/scrinium/io/HeaderLine" (7 : Nat) "com/example/scrinium/scrinium/io/HeaderLine" "bytes" "[B").before a0 Z = true := hw _ (List.mem_of_getElem? (i := 11) rfl)
theorem tw_12 {Z : State} {a0 : Array Value} (hw : ∀ d ∈ tables_1, d.before a0 Z = true) : (Jvm.Cond.lays "com/example/scrinium/scrinium/io/HeaderLine" "com/example/scrinium/scrinium/io/HeaderLine" "bytes" "[B").before a0 Z = true := hw _ (List.mem_of_getElem? (i := 12) rfl)
theorem tw_13 {Z : State} {a0 : Array Value} (hw : ∀ d ∈ tables_1, d.before a0 Z = true) : (Jvm.Cond.methodLink "com/example/scrinium/scrinium/io/HeaderLineContinuesFieldPinLaw" (11 : Nat) ({ cls := "com/example/scrinium/scrinium/io/HeaderLine", name := "clear", desc := "(I)V" } : Jvm.MethodName)).before a0 Z = true := hw _ (List.mem_of_getElem? (i := 13) rfl)
theorem tw_14 {Z : State} {a0 : Array Value} (hw : ∀ d ∈ tables_1, d.before a0 Z = true) : (Jvm.Cond.declares ({ cls := "com/example/scrinium/scrinium/io/HeaderLine", name := "clear", desc := "(I)V" } : Jvm.MethodName)).before a0 Z = true := hw _ (List.mem_of_getElem? (i := 14) rfl)
theorem tw_15 {Z : State} {a0 : Array Value} (hw : ∀ d ∈ tables_1, d.before a0 Z = true) : (Jvm.Cond.instanceMethod ({ cls := "com/example/scrinium/scrinium/io/HeaderLine", name := "clear", desc := "(I)V" } : Jvm.MethodName)).before a0 Z = true := hw _ (List.mem_of_getElem? (i := 15) rfl)
theorem tw_16 {Z : State} {a0 : Array Value} (hw : ∀ d ∈ tables_1, d.before a0 Z = true) : (Jvm.Cond.selects "com/example/scrinium/scrinium/io/HeaderLine" ({ cls := "com/example/scrinium/scrinium/io/HeaderLine", name := "clear", desc := "(I)V" } : Jvm.MethodName) ({ cls := "com/example/scrinium/scrinium/io/HeaderLine", name := "clear", desc := "(I)V" } : Jvm.MethodName)).before a0 Z = true := hw _ (List.mem_of_getElem? (i := 16) rfl)
theorem tw_17 {Z : State} {a0 : Array Value} (hw : ∀ d ∈ tables_1, d.before a0 Z = true) : (Jvm.Cond.code ({ cls := "com/example/scrinium/scrinium/io/HeaderLine", name := "clear", desc := "(I)V" } : Jvm.MethodName) prog_51_method_2_code (2 : Nat) (Option.none : Option Jvm.ClassFile.FieldType)).before a0 Z = true := hw _ (List.mem_of_getElem? (i := 17) rfl)
theorem tw_18 {Z : State} {a0 : Array Value} (hw : ∀ d ∈ tables_1, d.before a0 Z = true) : (Jvm.Cond.fieldLink "com/example/scrinium/scrinium/io/HeaderLine" (13 : Nat) "com/example/scrinium/scrinium/io/HeaderLine" "length" "I").before a0 Z = true := hw _ (List.mem_of_getElem? (i := 18) rfl)
theorem tw_19 {Z : State} {a0 : Array Value} (hw : ∀ d ∈ tables_1, d.before a0 Z = true) : (Jvm.Cond.lays "com/example/scrinium/scrinium/io/HeaderLine" "com/example/scrinium/scrinium/io/HeaderLine" "length" "I").before a0 Z = true := hw _ (List.mem_of_getElem? (i := 19) rfl)
theorem tw_20 {Z : State} {a0 : Array Value} (hw : ∀ d ∈ tables_1, d.before a0 Z = true) : (Jvm.Cond.fieldLink "com/example/scrinium/scrinium/io/HeaderLine" (17 : Nat) "com/example/scrinium/scrinium/io/HeaderLine" "longest" "I").before a0 Z = true := hw _ (List.mem_of_getElem? (i := 20) rfl)
theorem tw_21 {Z : State} {a0 : Array Value} (hw : ∀ d ∈ tables_1, d.before a0 Z = true) : (Jvm.Cond.lays "com/example/scrinium/scrinium/io/HeaderLine" "com/example/scrinium/scrinium/io/HeaderLine" "longest" "I").before a0 Z = true := hw _ (List.mem_of_getElem? (i := 21) rfl)
theorem tw_22 {Z : State} {a0 : Array Value} (hw : ∀ d ∈ tables_1, d.before a0 Z = true) : (Jvm.Cond.methodLink "com/example/scrinium/scrinium/io/HeaderLineContinuesFieldPinLaw" (15 : Nat) ({ cls := "com/example/scrinium/scrinium/io/HeaderLine", name := "append", desc := "([BII)V" } : Jvm.MethodName)).before a0 Z = true := hw _ (List.mem_of_getElem? (i := 22) rfl)
theorem tw_23 {Z : State} {a0 : Array Value} (hw : ∀ d ∈ tables_1, d.before a0 Z = true) : (Jvm.Cond.declares ({ cls := "com/example/scrinium/scrinium/io/HeaderLine", name := "append", desc := "([BII)V" } : Jvm.MethodName)).before a0 Z = true := hw _ (List.mem_of_getElem? (i := 23) rfl)
theorem tw_24 {Z : State} {a0 : Array Value} (hw : ∀ d ∈ tables_1, d.before a0 Z = true) : (Jvm.Cond.instanceMethod ({ cls := "com/example/scrinium/scrinium/io/HeaderLine", name := "append", desc := "([BII)V" } : Jvm.MethodName)).before a0 Z = true := hw _ (List.mem_of_getElem? (i := 24) rfl)
theorem tw_25 {Z : State} {a0 : Array Value} (hw : ∀ d ∈ tables_1, d.before a0 Z = true) : (Jvm.Cond.selects "com/example/scrinium/scrinium/io/HeaderLine" ({ cls := "com/example/scrinium/scrinium/io/HeaderLine", name := "append", desc := "([BII)V" } : Jvm.MethodName) ({ cls := "com/example/scrinium/scrinium/io/HeaderLine", name := "append", desc := "([BII)V" } : Jvm.MethodName)).before a0 Z = true := hw _ (List.mem_of_getElem? (i := 25) rfl)
theorem tw_26 {Z : State} {a0 : Array Value} (hw : ∀ d ∈ tables_1, d.before a0 Z = true) : (Jvm.Cond.code ({ cls := "com/example/scrinium/scrinium/io/HeaderLine", name := "append", desc := "([BII)V" } : Jvm.MethodName) prog_51_method_3_code (4 : Nat) (Option.none : Option Jvm.ClassFile.FieldType)).before a0 Z = true := hw _ (List.mem_of_getElem? (i := 26) rfl)
theorem tw_27 {Z : State} {a0 : Array Value} (hw : ∀ d ∈ tables_1, d.before a0 Z = true) : (Jvm.Cond.methodLink "com/example/scrinium/scrinium/io/HeaderLine" (20 : Nat) ({ cls := "com/example/scrinium/scrinium/io/HeaderLine", name := "makeRoom", desc := "(I)V" } : Jvm.MethodName)).before a0 Z = true := hw _ (List.mem_of_getElem? (i := 27) rfl)
theorem tw_28 {Z : State} {a0 : Array Value} (hw : ∀ d ∈ tables_1, d.before a0 Z = true) : (Jvm.Cond.instanceMethod ({ cls := "com/example/scrinium/scrinium/io/HeaderLine", name := "makeRoom", desc := "(I)V" } : Jvm.MethodName)).before a0 Z = true := hw _ (List.mem_of_getElem? (i := 28) rfl)
theorem tw_29 {Z : State} {a0 : Array Value} (hw : ∀ d ∈ tables_1, d.before a0 Z = true) : (Jvm.Cond.privateMethod ({ cls := "com/example/scrinium/scrinium/io/HeaderLine", name := "makeRoom", desc := "(I)V" } : Jvm.MethodName)).before a0 Z = true := hw _ (List.mem_of_getElem? (i := 29) rfl)
theorem tw_30 {Z : State} {a0 : Array Value} (hw : ∀ d ∈ tables_1, d.before a0 Z = true) : (Jvm.Cond.code ({ cls := "com/example/scrinium/scrinium/io/HeaderLine", name := "makeRoom", desc := "(I)V" } : Jvm.MethodName) prog_51_method_10_code (2 : Nat) (Option.none : Option Jvm.ClassFile.FieldType)).before a0 Z = true := hw _ (List.mem_of_getElem? (i := 30) rfl)
theorem tw_31 {Z : State} {a0 : Array Value} (hw : ∀ d ∈ tables_1, d.before a0 Z = true) : (Jvm.Cond.methodLink "com/example/scrinium/scrinium/io/HeaderLine" (24 : Nat) ({ cls := "java/lang/System", name := "arraycopy", desc := "(Ljava/lang/Object;ILjava/lang/Object;II)V" } : Jvm.MethodName)).before a0 Z = true := hw _ (List.mem_of_getElem? (i := 31) rfl)
theorem tw_32 {Z : State} {a0 : Array Value} (hw : ∀ d ∈ tables_1, d.before a0 Z = true) : (Jvm.Cond.static ({ cls := "java/lang/System", name := "arraycopy", desc := "(Ljava/lang/Object;ILjava/lang/Object;II)V" } : Jvm.MethodName)).before a0 Z = true := hw _ (List.mem_of_getElem? (i := 32) rfl)
theorem tw_33 {Z : State} {a0 : Array Value} (hw : ∀ d ∈ tables_1, d.before a0 Z = true) : (Jvm.Cond.initialized "java/lang/System").before a0 Z = true := hw _ (List.mem_of_getElem? (i := 33) rfl)
theorem tw_34 {Z : State} {a0 : Array Value} (hw : ∀ d ∈ tables_1, d.before a0 Z = true) : (Jvm.Cond.native ({ cls := "java/lang/System", name := "arraycopy", desc := "(Ljava/lang/Object;ILjava/lang/Object;II)V" } : Jvm.MethodName)).before a0 Z = true := hw _ (List.mem_of_getElem? (i := 34) rfl)
theorem tw_35 {Z : State} {a0 : Array Value} (hw : ∀ d ∈ tables_1, d.before a0 Z = true) : (Jvm.Cond.methodLink "com/example/scrinium/scrinium/io/HeaderLineContinuesFieldPinLaw" (19 : Nat) ({ cls := "com/example/scrinium/scrinium/io/HeaderLine", name := "continuesField", desc := "()Z" } : Jvm.MethodName)).before a0 Z = true := hw _ (List.mem_of_getElem? (i := 35) rfl)
theorem tw_36 {Z : State} {a0 : Array Value} (hw : ∀ d ∈ tables_1, d.before a0 Z = true) : (Jvm.Cond.declares ({ cls := "com/example/scrinium/scrinium/io/HeaderLine", name := "continuesField", desc := "()Z" } : Jvm.MethodName)).before a0 Z = true := hw _ (List.mem_of_getElem? (i := 36) rfl)
theorem tw_37 {Z : State} {a0 : Array Value} (hw : ∀ d ∈ tables_1, d.before a0 Z = true) : (Jvm.Cond.instanceMethod ({ cls := "com/example/scrinium/scrinium/io/HeaderLine", name := "continuesField", desc := "()Z" } : Jvm.MethodName)).before a0 Z = true := hw _ (List.mem_of_getElem? (i := 37) rfl)
theorem tw_38 {Z : State} {a0 : Array Value} (hw : ∀ d ∈ tables_1, d.before a0 Z = true) : (Jvm.Cond.selects "com/example/scrinium/scrinium/io/HeaderLine" ({ cls := "com/example/scrinium/scrinium/io/HeaderLine", name := "continuesField", desc := "()Z" } : Jvm.MethodName) ({ cls := "com/example/scrinium/scrinium/io/HeaderLine", name := "continuesField", desc := "()Z" } : Jvm.MethodName)).before a0 Z = true := hw _ (List.mem_of_getElem? (i := 38) rfl)
theorem tw_39 {Z : State} {a0 : Array Value} (hw : ∀ d ∈ tables_1, d.before a0 Z = true) : (Jvm.Cond.code ({ cls := "com/example/scrinium/scrinium/io/HeaderLine", name := "continuesField", desc := "()Z" } : Jvm.MethodName) prog_51_method_7_code (1 : Nat) (Option.some Jvm.ClassFile.FieldType.boolean)).before a0 Z = true := hw _ (List.mem_of_getElem? (i := 39) rfl)
theorem tw_40 {Z : State} {a0 : Array Value} (hw : ∀ d ∈ tables_1, d.before a0 Z = true) : (Jvm.Cond.methodLink "com/example/scrinium/scrinium/io/HeaderLineContinuesFieldPinLaw" (23 : Nat) ({ cls := "com/example/scrinium/scrinium/io/HeaderLineContinuesFieldPinLaw", name := "blank", desc := "(B)Z" } : Jvm.MethodName)).before a0 Z = true := hw _ (List.mem_of_getElem? (i := 40) rfl)
theorem tw_41 {Z : State} {a0 : Array Value} (hw : ∀ d ∈ tables_1, d.before a0 Z = true) : (Jvm.Cond.static ({ cls := "com/example/scrinium/scrinium/io/HeaderLineContinuesFieldPinLaw", name := "blank", desc := "(B)Z" } : Jvm.MethodName)).before a0 Z = true := hw _ (List.mem_of_getElem? (i := 41) rfl)
theorem tw_42 {Z : State} {a0 : Array Value} (hw : ∀ d ∈ tables_1, d.before a0 Z = true) : (Jvm.Cond.initialized "com/example/scrinium/scrinium/io/HeaderLineContinuesFieldPinLaw").before a0 Z = true := hw _ (List.mem_of_getElem? (i := 42) rfl)
theorem tw_43 {Z : State} {a0 : Array Value} (hw : ∀ d ∈ tables_1, d.before a0 Z = true) : (Jvm.Cond.code ({ cls := "com/example/scrinium/scrinium/io/HeaderLineContinuesFieldPinLaw", name := "blank", desc := "(B)Z" } : Jvm.MethodName) method_2_code (1 : Nat) (Option.some Jvm.ClassFile.FieldType.boolean)).before a0 Z = true := hw _ (List.mem_of_getElem? (i := 43) rfl)
theorem d1_0 : decode prog_51_method_1_code 0 = .ok (.aload_n 0, 1) := by decide +kernel
theorem d1_1 : decode prog_51_method_1_code 1 = .ok (.invokespecial 1, 3) := by decide +kernel
theorem d1_4 : decode prog_51_method_1_code 4 = .ok (.aload_n 0, 1) := by decide +kernel
theorem d1_5 : decode prog_51_method_1_code 5 = .ok (.sipush 256, 3) := by decide +kernel
theorem d1_8 : decode prog_51_method_1_code 8 = .ok (.newarray .byte, 2) := by decide +kernel
theorem d1_10 : decode prog_51_method_1_code 10 = .ok (.putfield 7, 3) := by decide +kernel
theorem d1_13 : decode prog_51_method_1_code 13 = .ok (.return_, 1) := by decide +kernel
theorem pn_0 : plainName "com/example/scrinium/scrinium/io/HeaderLine" = true := by first | (simp [plainName, overriddenIn]; done) | decide +kernel
abbrev mN_1 : MethodName := ⟨"com/example/scrinium/scrinium/io/HeaderLine", "<init>", "()V"⟩
theorem d3_0 : decode prog_51_method_2_code 0 = .ok (.aload_n 0, 1) := by decide +kernel
theorem d3_1 : decode prog_51_method_2_code 1 = .ok (.iconst 0, 1) := by decide +kernel
theorem d3_2 : decode prog_51_method_2_code 2 = .ok (.putfield 13, 3) := by decide +kernel
theorem d3_5 : decode prog_51_method_2_code 5 = .ok (.aload_n 0, 1) := by decide +kernel
theorem d3_6 : decode prog_51_method_2_code 6 = .ok (.iload_n 1, 1) := by decide +kernel
theorem d3_7 : decode prog_51_method_2_code 7 = .ok (.putfield 17, 3) := by decide +kernel
theorem d3_10 : decode prog_51_method_2_code 10 = .ok (.return_, 1) := by decide +kernel
abbrev mN_3 : MethodName := ⟨"com/example/scrinium/scrinium/io/HeaderLine", "clear", "(I)V"⟩
theorem d5_0 : decode prog_51_method_10_code 0 = .ok (.iload_n 1, 1) := by decide +kernel
theorem d5_1 : decode prog_51_method_10_code 1 = .ok (.aload_n 0, 1) := by decide +kernel
theorem d5_2 : decode prog_51_method_10_code 2 = .ok (.getfield 17, 3) := by decide +kernel
theorem d5_5 : decode prog_51_method_10_code 5 = .ok (.aload_n 0, 1) := by decide +kernel
theorem d5_6 : decode prog_51_method_10_code 6 = .ok (.getfield 13, 3) := by decide +kernel
theorem d5_9 : decode prog_51_method_10_code 9 = .ok (.isub, 1) := by decide +kernel
theorem d5_10 : decode prog_51_method_10_code 10 = .ok (.if_icmp .lt 20, 3) := by decide +kernel
theorem d5_30 : decode prog_51_method_10_code 30 = .ok (.aload_n 0, 1) := by decide +kernel
theorem d5_31 : decode prog_51_method_10_code 31 = .ok (.getfield 13, 3) := by decide +kernel
theorem d5_34 : decode prog_51_method_10_code 34 = .ok (.iload_n 1, 1) := by decide +kernel
theorem d5_35 : decode prog_51_method_10_code 35 = .ok (.iadd, 1) := by decide +kernel
theorem d5_36 : decode prog_51_method_10_code 36 = .ok (.aload_n 0, 1) := by decide +kernel
theorem d5_37 : decode prog_51_method_10_code 37 = .ok (.getfield 7, 3) := by decide +kernel
theorem d5_40 : decode prog_51_method_10_code 40 = .ok (.arraylength, 1) := by decide +kernel
theorem d5_41 : decode prog_51_method_10_code 41 = .ok (.if_icmp .le 30, 3) := by decide +kernel
theorem d5_71 : decode prog_51_method_10_code 71 = .ok (.return_, 1) := by decide +kernel
abbrev mN_5 : MethodName := ⟨"com/example/scrinium/scrinium/io/HeaderLine", "makeRoom", "(I)V"⟩
theorem pd_0 : parseMethodDescriptor "(I)V" = some ⟨[.int], none⟩ := by decide +kernel
theorem d4_0 : decode prog_51_method_3_code 0 = .ok (.aload_n 0, 1) := by decide +kernel
theorem d4_1 : decode prog_51_method_3_code 1 = .ok (.iload_n 3, 1) := by decide +kernel
theorem d4_2 : decode prog_51_method_3_code 2 = .ok (.invokevirtual 20, 3) := by decide +kernel
theorem d4_5 : decode prog_51_method_3_code 5 = .ok (.aload_n 1, 1) := by decide +kernel
theorem d4_6 : decode prog_51_method_3_code 6 = .ok (.iload_n 2, 1) := by decide +kernel
theorem d4_7 : decode prog_51_method_3_code 7 = .ok (.aload_n 0, 1) := by decide +kernel
theorem d4_8 : decode prog_51_method_3_code 8 = .ok (.getfield 7, 3) := by decide +kernel
theorem d4_11 : decode prog_51_method_3_code 11 = .ok (.aload_n 0, 1) := by decide +kernel
theorem d4_12 : decode prog_51_method_3_code 12 = .ok (.getfield 13, 3) := by decide +kernel
theorem d4_15 : decode prog_51_method_3_code 15 = .ok (.iload_n 3, 1) := by decide +kernel
theorem d4_16 : decode prog_51_method_3_code 16 = .ok (.invokestatic 24, 3) := by decide +kernel
theorem d4_19 : decode prog_51_method_3_code 19 = .ok (.aload_n 0, 1) := by decide +kernel
theorem d4_20 : decode prog_51_method_3_code 20 = .ok (.dup, 1) := by decide +kernel
theorem d4_21 : decode prog_51_method_3_code 21 = .ok (.getfield 13, 3) := by decide +kernel
theorem d4_24 : decode prog_51_method_3_code 24 = .ok (.iload_n 3, 1) := by decide +kernel
theorem d4_25 : decode prog_51_method_3_code 25 = .ok (.iadd, 1) := by decide +kernel
theorem d4_26 : decode prog_51_method_3_code 26 = .ok (.putfield 13, 3) := by decide +kernel
theorem d4_29 : decode prog_51_method_3_code 29 = .ok (.return_, 1) := by decide +kernel
abbrev mN_4 : MethodName := ⟨"com/example/scrinium/scrinium/io/HeaderLine", "append", "([BII)V"⟩
theorem d6_0 : decode prog_51_method_7_code 0 = .ok (.aload_n 0, 1) := by decide +kernel
theorem d6_1 : decode prog_51_method_7_code 1 = .ok (.getfield 13, 3) := by decide +kernel
theorem d6_4 : decode prog_51_method_7_code 4 = .ok (.ifCond .le 29, 3) := by decide +kernel
theorem d6_7 : decode prog_51_method_7_code 7 = .ok (.aload_n 0, 1) := by decide +kernel
theorem d6_8 : decode prog_51_method_7_code 8 = .ok (.getfield 7, 3) := by decide +kernel
theorem d6_11 : decode prog_51_method_7_code 11 = .ok (.iconst 0, 1) := by decide +kernel
theorem d6_12 : decode prog_51_method_7_code 12 = .ok (.baload, 1) := by decide +kernel
theorem d6_13 : decode prog_51_method_7_code 13 = .ok (.bipush 32, 2) := by decide +kernel
theorem d6_15 : decode prog_51_method_7_code 15 = .ok (.if_icmp .eq 14, 3) := by decide +kernel
theorem d6_18 : decode prog_51_method_7_code 18 = .ok (.aload_n 0, 1) := by decide +kernel
theorem d6_19 : decode prog_51_method_7_code 19 = .ok (.getfield 7, 3) := by decide +kernel
theorem d6_22 : decode prog_51_method_7_code 22 = .ok (.iconst 0, 1) := by decide +kernel
theorem d6_23 : decode prog_51_method_7_code 23 = .ok (.baload, 1) := by decide +kernel
theorem d6_24 : decode prog_51_method_7_code 24 = .ok (.bipush 9, 2) := by decide +kernel
theorem d6_26 : decode prog_51_method_7_code 26 = .ok (.if_icmp .ne 7, 3) := by decide +kernel
theorem d6_29 : decode prog_51_method_7_code 29 = .ok (.iconst 1, 1) := by decide +kernel
theorem d6_30 : decode prog_51_method_7_code 30 = .ok (.goto 4, 3) := by decide +kernel
theorem d6_33 : decode prog_51_method_7_code 33 = .ok (.iconst 0, 1) := by decide +kernel
theorem d6_34 : decode prog_51_method_7_code 34 = .ok (.ireturn, 1) := by decide +kernel
abbrev mN_6 : MethodName := ⟨"com/example/scrinium/scrinium/io/HeaderLine", "continuesField", "()Z"⟩
theorem d7_0 : decode method_2_code 0 = .ok (.iload_n 0, 1) := by decide +kernel
theorem d7_1 : decode method_2_code 1 = .ok (.bipush 32, 2) := by decide +kernel
theorem d7_3 : decode method_2_code 3 = .ok (.if_icmp .eq 9, 3) := by decide +kernel
theorem d7_6 : decode method_2_code 6 = .ok (.iload_n 0, 1) := by decide +kernel
theorem d7_7 : decode method_2_code 7 = .ok (.bipush 9, 2) := by decide +kernel
theorem d7_9 : decode method_2_code 9 = .ok (.if_icmp .ne 7, 3) := by decide +kernel
theorem d7_12 : decode method_2_code 12 = .ok (.iconst 1, 1) := by decide +kernel
theorem d7_13 : decode method_2_code 13 = .ok (.goto 4, 3) := by decide +kernel
theorem d7_16 : decode method_2_code 16 = .ok (.iconst 0, 1) := by decide +kernel
theorem d7_17 : decode method_2_code 17 = .ok (.ireturn, 1) := by decide +kernel
theorem pn_1 : plainName "com/example/scrinium/scrinium/io/HeaderLineContinuesFieldPinLaw" = true := by first | (simp [plainName, overriddenIn]; done) | decide +kernel
abbrev mN_7 : MethodName := ⟨"com/example/scrinium/scrinium/io/HeaderLineContinuesFieldPinLaw", "blank", "(B)Z"⟩
theorem pd_1 : parseMethodDescriptor "()V" = some ⟨[], none⟩ := by decide +kernel
theorem pd_2 : parseMethodDescriptor "([BII)V" = some ⟨[(.array .byte), .int, .int], none⟩ := by decide +kernel
theorem pd_3 : parseMethodDescriptor "()Z" = some ⟨[], some .boolean⟩ := by decide +kernel
theorem pd_4 : parseMethodDescriptor "(B)Z" = some ⟨[.byte], some .boolean⟩ := by decide +kernel
theorem ef_1 (m : MethodId) (x0 : Addr) : entryFrame m #[(.ref x0)] 1 = mkF m 0 #[.val (.ref x0)] [] := by first | (simp [entryFrame, mkF, argsToLocals, Value.category]; done) | rfl
def Q1 (Z : State) (a : Addr) (h0 : Heap) (n0 : Nat) (v : Option Value) (h : Heap) (L : List Loc) : Prop := ∃ bb : Addr, ∃ kb : ClassId, v = none ∧ Fr n0 L ∧ Keep h0 h [a] ∧ h0.size ≤ bb ∧ Fld Z h a cN_0 "bytes" "[B" (.ref bb) ∧ Fld Z h a cN_0 "length" "I" (.int (0 : Int32)) ∧ Fld Z h a cN_0 "longest" "I" (.int (0 : Int32)) ∧ Arv Z h bb kb .byte (256 : Int32) [(.int (0 : Int32)), (.int (0 : Int32)), (.int (0 : Int32)), (.int (0 : Int32))] (.int (0 : Int32))
set_option maxRecDepth 65536 in
set_option maxHeartbeats 40000000 in
theorem rm1 (l : Launch) (Z : State) (a0 : Array Value) (hw : ∀ d ∈ tables_1, d.before a0 Z = true) (ws : List Jvm.Cond) (a : Addr) (h0 : Heap) (n0 : Nat) (Z0 : n0 ≤ h0.size) (E_a : Exa Z h0 a cN_0) (F_bytes_a : Fld Z h0 a cN_0 "bytes" "[B" .null) (F_length_a : Fld Z h0 a cN_0 "length" "I" (.int (0 : Int32))) (F_longest_a : Fld Z h0 a cN_0 "longest" "I" (.int (0 : Int32))) (g_a : n0 ≤ a) :
    CT l mN_1 prog_51_method_1_code 1 none ws ({ frames := 1, cells := 1, slots := 256, locals := 12 } : Room) #[(.ref a)] Z h0 (Q1 Z a h0 n0) := by
  refine body_of (plainFor_of_name pn_0) ?_
  intro p e s m below meth c s₁ hx dB hret hlk hml hown0 hnm X0 e0 hZ
  have hown : s.vm.findClass cN_0 = some m.cls := hown0
  have N0 := Fr.nil n0
  rw [ef_1]
  show Wk p e below (FN s (Q1 Z a h0 n0) 1 256) s₁ (mkF m 0 #[.val (.ref a)] [])
  refine w_aloadN X0 hx (.ref a) (dB d1_0) 1 rfl rfl rfl ?_
  refine w_objinit X0 hx hZ hown e0 (tw_8 hw) (tw_9 hw) (tw_10 hw) (by rw [hml]; rfl) (by decide) 0 rfl (by decide) (dB d1_1) 4 rfl (fun T1 X1 e1 => ?_)
  refine w_aloadN X1 hx (.ref a) (dB d1_4) 5 rfl rfl rfl ?_
  refine w_sipush X1 hx (dB d1_5) 8 rfl (256 : Int32) (by decide) ?_
  refine w_newP X1 hx hZ e1 (aty := .byte) (tw_0 hw) (by decide) 256 (by decide) (by decide) (by decide) (by decide) (dB d1_8) 10 rfl (fun T2 h2 a2 k2 X2 e2 g2 E2 A2 => ?_)
  have ne_a_a2 : a ≠ a2 := Nat.ne_of_lt (Nat.lt_of_lt_of_le E_a.lt (Nat.le_of_eq g2.symm))
  have g_a2 : n0 ≤ a2 := Nat.le_trans Z0 (Nat.le_of_eq g2.symm)
  have s_a2 : h0.size ≤ a2 := Nat.le_trans (Keep.refl h0 [a]).1 (Nat.le_of_eq g2.symm)
  have F3 : Exa Z h2 a cN_0 := E_a.ext E2
  have F4 : Fld Z h2 a cN_0 "bytes" "[B" .null := F_bytes_a.ext E2
  have F5 : Fld Z h2 a cN_0 "length" "I" (.int (0 : Int32)) := F_length_a.ext E2
  have F6 : Fld Z h2 a cN_0 "longest" "I" (.int (0 : Int32)) := F_longest_a.ext E2
  have Z2 : n0 ≤ h2.size := Nat.le_trans Z0 E2.1
  have K2 : Keep h0 h2 [a] := (Keep.refl h0 [a]).ext E2
  have V2 : Arv Z h2 a2 k2 .byte (256 : Int32) [(.int (0 : Int32)), (.int (0 : Int32)), (.int (0 : Int32)), (.int (0 : Int32))] (.int (0 : Int32)) := A2.pad (pad_rep [] (.int (0 : Int32)) 4)
  refine w_putF X2 hx hZ hown e2 (host := "") (Or.inl (tw_11 hw)) Via.refl F4 F3 (Or.inl (tw_12 hw)) (tw_3 hw) (ty := (.array .byte)) (by decide) rfl rfl (dB d1_10) 13 rfl (fun T7 h7 X7 e7 W7 => ?_)
  have F8 : Exa Z h7 a cN_0 := F3.wr W7
  have F9 : Fld Z h7 a cN_0 "bytes" "[B" (.ref a2) := F4.same W7
  have F10 : Fld Z h7 a cN_0 "length" "I" (.int (0 : Int32)) := F5.other W7 (Or.inr (slot_ne (Or.inl (tw_19 hw)) (Or.inl (tw_12 hw)) (by decide) (t := .int) (t' := (.array .byte)) (by decide) (by decide)))
  have F11 : Fld Z h7 a cN_0 "longest" "I" (.int (0 : Int32)) := F6.other W7 (Or.inr (slot_ne (Or.inl (tw_21 hw)) (Or.inl (tw_12 hw)) (by decide) (t := .int) (t' := (.array .byte)) (by decide) (by decide)))
  have F12 : Arv Z h7 a2 k2 .byte (256 : Int32) [(.int (0 : Int32)), (.int (0 : Int32)), (.int (0 : Int32)), (.int (0 : Int32))] (.int (0 : Int32)) := V2.other W7 (Ne.symm ne_a_a2)
  have Z7 : n0 ≤ h7.size := by rw [W7.size]; exact Z2
  have K7 : Keep h0 h7 [a] := K2.wr W7 (Or.inl (List.mem_of_getElem? (i := 0) rfl))
  have N7 := Fr.snoc X7 N0 g_a
  refine w_ret0 X7 hx hlk hret (dB d1_13) (by decide) (by decide) ?_
  rw [e7]
  exact ⟨a2, k2, rfl, N7, K7, s_a2, F9, F10, F11, F12⟩
theorem ef_3 (m : MethodId) (x0 : Addr) : entryFrame m #[(.ref x0), (.int (64 : Int32))] 2 = mkF m 0 #[.val (.ref x0), .val (.int (64 : Int32))] [] := by first | (simp [entryFrame, mkF, argsToLocals, Value.category]; done) | rfl
def Q3 (Z : State) (a : Addr) (bb : Addr) (xl : Int32) (xg : Int32) (h0 : Heap) (n0 : Nat) (v : Option Value) (h : Heap) (L : List Loc) : Prop := v = none ∧ Fr n0 L ∧ Keep h0 h [a] ∧ Fld Z h a cN_0 "bytes" "[B" (.ref bb) ∧ Fld Z h a cN_0 "length" "I" (.int (0 : Int32)) ∧ Fld Z h a cN_0 "longest" "I" (.int (64 : Int32))
set_option maxRecDepth 65536 in
set_option maxHeartbeats 40000000 in
theorem rm3 (l : Launch) (Z : State) (a0 : Array Value) (hw : ∀ d ∈ tables_1, d.before a0 Z = true) (ws : List Jvm.Cond) (a : Addr) (bb : Addr) (xl : Int32) (xg : Int32) (h0 : Heap) (n0 : Nat) (Z0 : n0 ≤ h0.size) (E_a : Exa Z h0 a cN_0) (F_bytes_a : Fld Z h0 a cN_0 "bytes" "[B" (.ref bb)) (F_length_a : Fld Z h0 a cN_0 "length" "I" (.int xl)) (F_longest_a : Fld Z h0 a cN_0 "longest" "I" (.int xg)) (g_a : n0 ≤ a) :
    CT l mN_3 prog_51_method_2_code 2 none ws ({ frames := 0, cells := 0, slots := 0, locals := 0 } : Room) #[(.ref a), (.int (64 : Int32))] Z h0 (Q3 Z a bb xl xg h0 n0) := by
  refine body_of (plainFor_of_name pn_0) ?_
  intro p e s m below meth c s₁ hx dB hret hlk hml hown0 hnm X0 e0 hZ
  have hown : s.vm.findClass cN_0 = some m.cls := hown0
  have N0 := Fr.nil n0
  rw [ef_3]
  show Wk p e below (FN s (Q3 Z a bb xl xg h0 n0) 0 0) s₁ (mkF m 0 #[.val (.ref a), .val (.int (64 : Int32))] [])
  refine w_aloadN X0 hx (.ref a) (dB d3_0) 1 rfl rfl rfl ?_
  refine w_iconst X0 hx (dB d3_1) 2 rfl (0 : Int32) (by decide) ?_
  refine w_putF X0 hx hZ hown e0 (host := "") (Or.inl (tw_18 hw)) Via.refl F_length_a E_a (Or.inl (tw_19 hw)) (tw_3 hw) (ty := .int) (by decide) rfl rfl (dB d3_2) 5 rfl (fun T13 h13 X13 e13 W13 => ?_)
  have F14 : Exa Z h13 a cN_0 := E_a.wr W13
  have F15 : Fld Z h13 a cN_0 "bytes" "[B" (.ref bb) := F_bytes_a.other W13 (Or.inr (slot_ne (Or.inl (tw_12 hw)) (Or.inl (tw_19 hw)) (by decide) (t := (.array .byte)) (t' := .int) (by decide) (by decide)))
  have F16 : Fld Z h13 a cN_0 "length" "I" (.int (0 : Int32)) := F_length_a.same W13
  have F17 : Fld Z h13 a cN_0 "longest" "I" (.int xg) := F_longest_a.other W13 (Or.inr (slot_ne (Or.inl (tw_21 hw)) (Or.inl (tw_19 hw)) (by decide) (t := .int) (t' := .int) (by decide) (by decide)))
  have Z13 : n0 ≤ h13.size := by rw [W13.size]; exact Z0
  have K13 : Keep h0 h13 [a] := (Keep.refl h0 [a]).wr W13 (Or.inl (List.mem_of_getElem? (i := 0) rfl))
  have N13 := Fr.snoc X13 N0 g_a
  refine w_aloadN X13 hx (.ref a) (dB d3_5) 6 rfl rfl rfl ?_
  refine w_iloadN X13 hx (64 : Int32) (dB d3_6) 7 rfl rfl ?_
  refine w_putF X13 hx hZ hown e13 (host := "") (Or.inl (tw_20 hw)) Via.refl F17 F14 (Or.inl (tw_21 hw)) (tw_3 hw) (ty := .int) (by decide) rfl rfl (dB d3_7) 10 rfl (fun T18 h18 X18 e18 W18 => ?_)
  have F19 : Exa Z h18 a cN_0 := F14.wr W18
  have F20 : Fld Z h18 a cN_0 "bytes" "[B" (.ref bb) := F15.other W18 (Or.inr (slot_ne (Or.inl (tw_12 hw)) (Or.inl (tw_21 hw)) (by decide) (t := (.array .byte)) (t' := .int) (by decide) (by decide)))
  have F21 : Fld Z h18 a cN_0 "length" "I" (.int (0 : Int32)) := F16.other W18 (Or.inr (slot_ne (Or.inl (tw_19 hw)) (Or.inl (tw_21 hw)) (by decide) (t := .int) (t' := .int) (by decide) (by decide)))
  have F22 : Fld Z h18 a cN_0 "longest" "I" (.int (64 : Int32)) := F17.same W18
  have Z18 : n0 ≤ h18.size := by rw [W18.size]; exact Z13
  have K18 : Keep h0 h18 [a] := K13.wr W18 (Or.inl (List.mem_of_getElem? (i := 0) rfl))
  have N18 := Fr.snoc X18 N13 g_a
  refine w_ret0 X18 hx hlk hret (dB d3_10) (by decide) (by decide) ?_
  rw [e18]
  exact ⟨rfl, N18, K18, F20, F21, F22⟩
theorem ef_5n0 (m : MethodId) (x0 : Addr) : entryFrame m #[(.ref x0), (.int (0 : Int32))] 2 = mkF m 0 #[.val (.ref x0), .val (.int (0 : Int32))] [] := by first | (simp [entryFrame, mkF, argsToLocals, Value.category]; done) | rfl
def Q5n0 (Z : State) (a : Addr) (bb : Addr) (kb : ClassId) (d0 : Int32) (d1 : Int32) (d2 : Int32) (d3 : Int32) (h0 : Heap) (n0 : Nat) (v : Option Value) (h : Heap) (L : List Loc) : Prop := v = none ∧ Fr n0 L ∧ h = h0
set_option maxRecDepth 65536 in
set_option maxHeartbeats 40000000 in
theorem rm5n0 (l : Launch) (Z : State) (a0 : Array Value) (hw : ∀ d ∈ tables_1, d.before a0 Z = true) (ws : List Jvm.Cond) (a : Addr) (bb : Addr) (kb : ClassId) (d0 : Int32) (d1 : Int32) (d2 : Int32) (d3 : Int32) (h0 : Heap) (n0 : Nat) (Z0 : n0 ≤ h0.size) (F_bytes_a : Fld Z h0 a cN_0 "bytes" "[B" (.ref bb)) (F_length_a : Fld Z h0 a cN_0 "length" "I" (.int (0 : Int32))) (F_longest_a : Fld Z h0 a cN_0 "longest" "I" (.int (64 : Int32))) (V_bb : Arv Z h0 bb kb .byte (256 : Int32) [(.int d0), (.int d1), (.int d2), (.int d3)] (.int (0 : Int32))) :
    CT l mN_5 prog_51_method_10_code 2 none ws ({ frames := 0, cells := 0, slots := 0, locals := 0 } : Room) #[(.ref a), (.int (0 : Int32))] Z h0 (Q5n0 Z a bb kb d0 d1 d2 d3 h0 n0) := by
  refine body_of (plainFor_of_name pn_0) ?_
  intro p e s m below meth c s₁ hx dB hret hlk hml hown0 hnm X0 e0 hZ
  have hown : s.vm.findClass cN_0 = some m.cls := hown0
  have N0 := Fr.nil n0
  rw [ef_5n0]
  show Wk p e below (FN s (Q5n0 Z a bb kb d0 d1 d2 d3 h0 n0) 0 0) s₁ (mkF m 0 #[.val (.ref a), .val (.int (0 : Int32))] [])
  refine w_iloadN X0 hx (0 : Int32) (dB d5_0) 1 rfl rfl ?_
  refine w_aloadN X0 hx (.ref a) (dB d5_1) 2 rfl rfl rfl ?_
  refine w_getF X0 hx hZ hown e0 (host := "") (Or.inl (tw_20 hw)) Via.refl F_longest_a (dB d5_2) 5 rfl (fun T23 X23 e23 => ?_)
  refine w_aloadN X23 hx (.ref a) (dB d5_5) 6 rfl rfl rfl ?_
  refine w_getF X23 hx hZ hown e23 (host := "") (Or.inl (tw_18 hw)) Via.refl F_length_a (dB d5_6) 9 rfl (fun T24 X24 e24 => ?_)
  refine w_isub X24 hx (dB d5_9) 10 rfl (show (64 : Int32) = (64 : Int32) - (0 : Int32) from by decide) ?_
  refine w_icmp_lt X24 hx 0 64 (by decide) (by decide) (dB d5_10) 30 13 (fun c25 => ?_) (fun c25 => ?_)
  ·refine w_aloadN X24 hx (.ref a) (dB d5_30) 31 rfl rfl rfl ?_
   refine w_getF X24 hx hZ hown e24 (host := "") (Or.inl (tw_18 hw)) Via.refl F_length_a (dB d5_31) 34 rfl (fun T26 X26 e26 => ?_)
   refine w_iloadN X26 hx (0 : Int32) (dB d5_34) 35 rfl rfl ?_
   refine w_iadd X26 hx (dB d5_35) 36 rfl (show (0 : Int32) = (0 : Int32) + (0 : Int32) from by decide) ?_
   refine w_aloadN X26 hx (.ref a) (dB d5_36) 37 rfl rfl rfl ?_
   refine w_getF X26 hx hZ hown e26 (host := "") (Or.inl (tw_11 hw)) Via.refl F_bytes_a (dB d5_37) 40 rfl (fun T27 X27 e27 => ?_)
   refine w_length X27 hx hZ e27 V_bb (dB d5_40) 41 rfl ?_
   refine w_icmp_le X27 hx 0 256 (by decide) (by decide) (dB d5_41) 71 44 (fun c28 => ?_) (fun c28 => ?_)
   ·refine w_ret0 X27 hx hlk hret (dB d5_71) (by decide) (by decide) ?_
    rw [e27]
    exact ⟨rfl, N0, rfl⟩
   ·exfalso; omega
  ·exfalso; omega
theorem ef_5n1 (m : MethodId) (x0 : Addr) : entryFrame m #[(.ref x0), (.int (1 : Int32))] 2 = mkF m 0 #[.val (.ref x0), .val (.int (1 : Int32))] [] := by first | (simp [entryFrame, mkF, argsToLocals, Value.category]; done) | rfl
def Q5n1 (Z : State) (a : Addr) (bb : Addr) (kb : ClassId) (d0 : Int32) (d1 : Int32) (d2 : Int32) (d3 : Int32) (h0 : Heap) (n0 : Nat) (v : Option Value) (h : Heap) (L : List Loc) : Prop := v = none ∧ Fr n0 L ∧ h = h0
set_option maxRecDepth 65536 in
set_option maxHeartbeats 40000000 in
theorem rm5n1 (l : Launch) (Z : State) (a0 : Array Value) (hw : ∀ d ∈ tables_1, d.before a0 Z = true) (ws : List Jvm.Cond) (a : Addr) (bb : Addr) (kb : ClassId) (d0 : Int32) (d1 : Int32) (d2 : Int32) (d3 : Int32) (h0 : Heap) (n0 : Nat) (Z0 : n0 ≤ h0.size) (F_bytes_a : Fld Z h0 a cN_0 "bytes" "[B" (.ref bb)) (F_length_a : Fld Z h0 a cN_0 "length" "I" (.int (0 : Int32))) (F_longest_a : Fld Z h0 a cN_0 "longest" "I" (.int (64 : Int32))) (V_bb : Arv Z h0 bb kb .byte (256 : Int32) [(.int d0), (.int d1), (.int d2), (.int d3)] (.int (0 : Int32))) :
    CT l mN_5 prog_51_method_10_code 2 none ws ({ frames := 0, cells := 0, slots := 0, locals := 0 } : Room) #[(.ref a), (.int (1 : Int32))] Z h0 (Q5n1 Z a bb kb d0 d1 d2 d3 h0 n0) := by
  refine body_of (plainFor_of_name pn_0) ?_
  intro p e s m below meth c s₁ hx dB hret hlk hml hown0 hnm X0 e0 hZ
  have hown : s.vm.findClass cN_0 = some m.cls := hown0
  have N0 := Fr.nil n0
  rw [ef_5n1]
  show Wk p e below (FN s (Q5n1 Z a bb kb d0 d1 d2 d3 h0 n0) 0 0) s₁ (mkF m 0 #[.val (.ref a), .val (.int (1 : Int32))] [])
  refine w_iloadN X0 hx (1 : Int32) (dB d5_0) 1 rfl rfl ?_
  refine w_aloadN X0 hx (.ref a) (dB d5_1) 2 rfl rfl rfl ?_
  refine w_getF X0 hx hZ hown e0 (host := "") (Or.inl (tw_20 hw)) Via.refl F_longest_a (dB d5_2) 5 rfl (fun T29 X29 e29 => ?_)
  refine w_aloadN X29 hx (.ref a) (dB d5_5) 6 rfl rfl rfl ?_
  refine w_getF X29 hx hZ hown e29 (host := "") (Or.inl (tw_18 hw)) Via.refl F_length_a (dB d5_6) 9 rfl (fun T30 X30 e30 => ?_)
  refine w_isub X30 hx (dB d5_9) 10 rfl (show (64 : Int32) = (64 : Int32) - (0 : Int32) from by decide) ?_
  refine w_icmp_lt X30 hx 1 64 (by decide) (by decide) (dB d5_10) 30 13 (fun c31 => ?_) (fun c31 => ?_)
  ·refine w_aloadN X30 hx (.ref a) (dB d5_30) 31 rfl rfl rfl ?_
   refine w_getF X30 hx hZ hown e30 (host := "") (Or.inl (tw_18 hw)) Via.refl F_length_a (dB d5_31) 34 rfl (fun T32 X32 e32 => ?_)
   refine w_iloadN X32 hx (1 : Int32) (dB d5_34) 35 rfl rfl ?_
   refine w_iadd X32 hx (dB d5_35) 36 rfl (show (1 : Int32) = (0 : Int32) + (1 : Int32) from by decide) ?_
   refine w_aloadN X32 hx (.ref a) (dB d5_36) 37 rfl rfl rfl ?_
   refine w_getF X32 hx hZ hown e32 (host := "") (Or.inl (tw_11 hw)) Via.refl F_bytes_a (dB d5_37) 40 rfl (fun T33 X33 e33 => ?_)
   refine w_length X33 hx hZ e33 V_bb (dB d5_40) 41 rfl ?_
   refine w_icmp_le X33 hx 1 256 (by decide) (by decide) (dB d5_41) 71 44 (fun c34 => ?_) (fun c34 => ?_)
   ·refine w_ret0 X33 hx hlk hret (dB d5_71) (by decide) (by decide) ?_
    rw [e33]
    exact ⟨rfl, N0, rfl⟩
   ·exfalso; omega
  ·exfalso; omega
theorem ef_5n2 (m : MethodId) (x0 : Addr) : entryFrame m #[(.ref x0), (.int (2 : Int32))] 2 = mkF m 0 #[.val (.ref x0), .val (.int (2 : Int32))] [] := by first | (simp [entryFrame, mkF, argsToLocals, Value.category]; done) | rfl
def Q5n2 (Z : State) (a : Addr) (bb : Addr) (kb : ClassId) (d0 : Int32) (d1 : Int32) (d2 : Int32) (d3 : Int32) (h0 : Heap) (n0 : Nat) (v : Option Value) (h : Heap) (L : List Loc) : Prop := v = none ∧ Fr n0 L ∧ h = h0
set_option maxRecDepth 65536 in
set_option maxHeartbeats 40000000 in
theorem rm5n2 (l : Launch) (Z : State) (a0 : Array Value) (hw : ∀ d ∈ tables_1, d.before a0 Z = true) (ws : List Jvm.Cond) (a : Addr) (bb : Addr) (kb : ClassId) (d0 : Int32) (d1 : Int32) (d2 : Int32) (d3 : Int32) (h0 : Heap) (n0 : Nat) (Z0 : n0 ≤ h0.size) (F_bytes_a : Fld Z h0 a cN_0 "bytes" "[B" (.ref bb)) (F_length_a : Fld Z h0 a cN_0 "length" "I" (.int (0 : Int32))) (F_longest_a : Fld Z h0 a cN_0 "longest" "I" (.int (64 : Int32))) (V_bb : Arv Z h0 bb kb .byte (256 : Int32) [(.int d0), (.int d1), (.int d2), (.int d3)] (.int (0 : Int32))) :
    CT l mN_5 prog_51_method_10_code 2 none ws ({ frames := 0, cells := 0, slots := 0, locals := 0 } : Room) #[(.ref a), (.int (2 : Int32))] Z h0 (Q5n2 Z a bb kb d0 d1 d2 d3 h0 n0) := by
  refine body_of (plainFor_of_name pn_0) ?_
  intro p e s m below meth c s₁ hx dB hret hlk hml hown0 hnm X0 e0 hZ
  have hown : s.vm.findClass cN_0 = some m.cls := hown0
  have N0 := Fr.nil n0
  rw [ef_5n2]
  show Wk p e below (FN s (Q5n2 Z a bb kb d0 d1 d2 d3 h0 n0) 0 0) s₁ (mkF m 0 #[.val (.ref a), .val (.int (2 : Int32))] [])
  refine w_iloadN X0 hx (2 : Int32) (dB d5_0) 1 rfl rfl ?_
  refine w_aloadN X0 hx (.ref a) (dB d5_1) 2 rfl rfl rfl ?_
  refine w_getF X0 hx hZ hown e0 (host := "") (Or.inl (tw_20 hw)) Via.refl F_longest_a (dB d5_2) 5 rfl (fun T35 X35 e35 => ?_)
  refine w_aloadN X35 hx (.ref a) (dB d5_5) 6 rfl rfl rfl ?_
  refine w_getF X35 hx hZ hown e35 (host := "") (Or.inl (tw_18 hw)) Via.refl F_length_a (dB d5_6) 9 rfl (fun T36 X36 e36 => ?_)
  refine w_isub X36 hx (dB d5_9) 10 rfl (show (64 : Int32) = (64 : Int32) - (0 : Int32) from by decide) ?_
  refine w_icmp_lt X36 hx 2 64 (by decide) (by decide) (dB d5_10) 30 13 (fun c37 => ?_) (fun c37 => ?_)
  ·refine w_aloadN X36 hx (.ref a) (dB d5_30) 31 rfl rfl rfl ?_
   refine w_getF X36 hx hZ hown e36 (host := "") (Or.inl (tw_18 hw)) Via.refl F_length_a (dB d5_31) 34 rfl (fun T38 X38 e38 => ?_)
   refine w_iloadN X38 hx (2 : Int32) (dB d5_34) 35 rfl rfl ?_
   refine w_iadd X38 hx (dB d5_35) 36 rfl (show (2 : Int32) = (0 : Int32) + (2 : Int32) from by decide) ?_
   refine w_aloadN X38 hx (.ref a) (dB d5_36) 37 rfl rfl rfl ?_
   refine w_getF X38 hx hZ hown e38 (host := "") (Or.inl (tw_11 hw)) Via.refl F_bytes_a (dB d5_37) 40 rfl (fun T39 X39 e39 => ?_)
   refine w_length X39 hx hZ e39 V_bb (dB d5_40) 41 rfl ?_
   refine w_icmp_le X39 hx 2 256 (by decide) (by decide) (dB d5_41) 71 44 (fun c40 => ?_) (fun c40 => ?_)
   ·refine w_ret0 X39 hx hlk hret (dB d5_71) (by decide) (by decide) ?_
    rw [e39]
    exact ⟨rfl, N0, rfl⟩
   ·exfalso; omega
  ·exfalso; omega
theorem ef_4n0 (m : MethodId) (x0 : Addr) (x1 : Addr) : entryFrame m #[(.ref x0), (.ref x1), (.int (0 : Int32)), (.int (0 : Int32))] 4 = mkF m 0 #[.val (.ref x0), .val (.ref x1), .val (.int (0 : Int32)), .val (.int (0 : Int32))] [] := by first | (simp [entryFrame, mkF, argsToLocals, Value.category]; done) | rfl
def Q4n0 (Z : State) (a : Addr) (ar : Addr) (bb : Addr) (kb : ClassId) (ka : ClassId) (d0 : Int32) (d1 : Int32) (d2 : Int32) (d3 : Int32) (s0 : Int32) (s1 : Int32) (h0 : Heap) (n0 : Nat) (v : Option Value) (h : Heap) (L : List Loc) : Prop := v = none ∧ Fr n0 L ∧ Keep h0 h [a, bb] ∧ Fld Z h a cN_0 "bytes" "[B" (.ref bb) ∧ Fld Z h a cN_0 "length" "I" (.int (0 : Int32)) ∧ Fld Z h a cN_0 "longest" "I" (.int (64 : Int32)) ∧ Arv Z h bb kb .byte (256 : Int32) [(.int d0), (.int d1), (.int d2), (.int d3)] (.int (0 : Int32))
set_option maxRecDepth 65536 in
set_option maxHeartbeats 40000000 in
theorem rm4n0 (l : Launch) (Z : State) (a0 : Array Value) (hw : ∀ d ∈ tables_1, d.before a0 Z = true) (ws : List Jvm.Cond) (a : Addr) (ar : Addr) (bb : Addr) (kb : ClassId) (ka : ClassId) (d0 : Int32) (d1 : Int32) (d2 : Int32) (d3 : Int32) (s0 : Int32) (s1 : Int32) (h0 : Heap) (n0 : Nat) (Z0 : n0 ≤ h0.size) (E_a : Exa Z h0 a cN_0) (F_bytes_a : Fld Z h0 a cN_0 "bytes" "[B" (.ref bb)) (F_length_a : Fld Z h0 a cN_0 "length" "I" (.int (0 : Int32))) (F_longest_a : Fld Z h0 a cN_0 "longest" "I" (.int (64 : Int32))) (V_bb : Arv Z h0 bb kb .byte (256 : Int32) [(.int d0), (.int d1), (.int d2), (.int d3)] (.int (0 : Int32))) (V_ar : Arv Z h0 ar ka .byte (2 : Int32) [(.int s0), (.int s1)] (.int (0 : Int32))) (g_a : n0 ≤ a) (g_bb : n0 ≤ bb) (ne1 : ar ≠ bb) :
    CT l mN_4 prog_51_method_3_code 4 none ws ({ frames := 1, cells := 0, slots := 0, locals := 18 } : Room) #[(.ref a), (.ref ar), (.int (0 : Int32)), (.int (0 : Int32))] Z h0 (Q4n0 Z a ar bb kb ka d0 d1 d2 d3 s0 s1 h0 n0) := by
  refine body_of (plainFor_of_name pn_0) ?_
  intro p e s m below meth c s₁ hx dB hret hlk hml hown0 hnm X0 e0 hZ
  have hown : s.vm.findClass cN_0 = some m.cls := hown0
  have N0 := Fr.nil n0
  rw [ef_4n0]
  show Wk p e below (FN s (Q4n0 Z a ar bb kb ka d0 d1 d2 d3 s0 s1 h0 n0) 0 0) s₁ (mkF m 0 #[.val (.ref a), .val (.ref ar), .val (.int (0 : Int32)), .val (.int (0 : Int32))] [])
  refine w_aloadN X0 hx (.ref a) (dB d4_0) 1 rfl rfl rfl ?_
  refine w_iloadN X0 hx (0 : Int32) (dB d4_1) 2 rfl rfl ?_
  refine w_priv0 X0 hx hZ hown e0 (rm5n0 l Z a0 hw [] a bb kb d0 d1 d2 d3 h0 n0 Z0 F_bytes_a F_length_a F_longest_a V_bb) (tw_27 hw) (tw_28 hw) (tw_3 hw) (tw_29 hw) (tw_4 hw) (tw_30 hw) (by decide) a E_a (by rw [hml]; rfl) [(.int (0 : Int32))] [] (lenOf pd_0 rfl) rfl rfl (by decide) 0 rfl (by decide) (by decide) (by decide) (dB d4_2) 5 rfl (fun r41 T41 L41 X41 q41 => ?_)
  obtain ⟨rfl, Nq41, eq41⟩ := q41
  have N41 := Fr.app N0 Nq41
  dsimp only [Option.toList_some, Option.toList_none, List.cons_append, List.nil_append]
  refine w_aloadN X41 hx (.ref ar) (dB d4_5) 6 rfl rfl rfl ?_
  refine w_iloadN X41 hx (0 : Int32) (dB d4_6) 7 rfl rfl ?_
  refine w_aloadN X41 hx (.ref a) (dB d4_7) 8 rfl rfl rfl ?_
  refine w_getF X41 hx hZ hown eq41 (host := "") (Or.inl (tw_11 hw)) Via.refl F_bytes_a (dB d4_8) 11 rfl (fun T42 X42 e42 => ?_)
  refine w_aloadN X42 hx (.ref a) (dB d4_11) 12 rfl rfl rfl ?_
  refine w_getF X42 hx hZ hown e42 (host := "") (Or.inl (tw_18 hw)) Via.refl F_length_a (dB d4_12) 15 rfl (fun T43 X43 e43 => ?_)
  refine w_iloadN X43 hx (0 : Int32) (dB d4_15) 16 rfl rfl ?_
  refine w_copy X43 hx hZ hown e43 (tw_31 hw) (tw_34 hw) (tw_32 hw) (tw_33 hw) V_ar V_bb rfl 0 0 0 (by decide) (by decide) (by decide) (by decide) (by decide) (by decide) (by decide) (by decide) (show 0 ≤ 4 from (by decide)) [(.int d0), (.int d1), (.int d2), (.int d3)] rfl N41 g_bb (by rw [hml]; rfl) (by decide) 0 rfl (by decide) (dB d4_16) 19 rfl (fun T44 h44 L44 X44 e44 N44 Kq44 V44 => ?_)
  have F45 : Exa Z h44 a cN_0 := E_a.keep Kq44
  have F46 : Fld Z h44 a cN_0 "bytes" "[B" (.ref bb) := F_bytes_a.keep Kq44 (ninS (ne_arv E_a (tw_3 hw) V_bb) nin0)
  have F47 : Fld Z h44 a cN_0 "length" "I" (.int (0 : Int32)) := F_length_a.keep Kq44 (ninS (ne_arv E_a (tw_3 hw) V_bb) nin0)
  have F48 : Fld Z h44 a cN_0 "longest" "I" (.int (64 : Int32)) := F_longest_a.keep Kq44 (ninS (ne_arv E_a (tw_3 hw) V_bb) nin0)
  have F49 : Arv Z h44 ar ka .byte (2 : Int32) [(.int s0), (.int s1)] (.int (0 : Int32)) := V_ar.keep Kq44 (ninS ne1 nin0)
  have Z44 : n0 ≤ h44.size := Nat.le_trans Z0 Kq44.1
  have K44 : Keep h0 h44 [a, bb] := (Keep.refl h0 [a, bb]).trans Kq44 (allS (Or.inl (List.mem_of_getElem? (i := 1) rfl)) all0)
  refine w_aloadN X44 hx (.ref a) (dB d4_19) 20 rfl rfl rfl ?_
  refine w_dup X44 hx (dB d4_20) 21 rfl rfl ?_
  refine w_getF X44 hx hZ hown e44 (host := "") (Or.inl (tw_18 hw)) Via.refl F47 (dB d4_21) 24 rfl (fun T50 X50 e50 => ?_)
  refine w_iloadN X50 hx (0 : Int32) (dB d4_24) 25 rfl rfl ?_
  refine w_iadd X50 hx (dB d4_25) 26 rfl (show (0 : Int32) = (0 : Int32) + (0 : Int32) from by decide) ?_
  refine w_putF X50 hx hZ hown e50 (host := "") (Or.inl (tw_18 hw)) Via.refl F47 F45 (Or.inl (tw_19 hw)) (tw_3 hw) (ty := .int) (by decide) rfl rfl (dB d4_26) 29 rfl (fun T51 h51 X51 e51 W51 => ?_)
  have F52 : Exa Z h51 a cN_0 := F45.wr W51
  have F53 : Fld Z h51 a cN_0 "bytes" "[B" (.ref bb) := F46.other W51 (Or.inr (slot_ne (Or.inl (tw_12 hw)) (Or.inl (tw_19 hw)) (by decide) (t := (.array .byte)) (t' := .int) (by decide) (by decide)))
  have F54 : Fld Z h51 a cN_0 "length" "I" (.int (0 : Int32)) := F47.same W51
  have F55 : Fld Z h51 a cN_0 "longest" "I" (.int (64 : Int32)) := F48.other W51 (Or.inr (slot_ne (Or.inl (tw_21 hw)) (Or.inl (tw_19 hw)) (by decide) (t := .int) (t' := .int) (by decide) (by decide)))
  have F56 : Arv Z h51 ar ka .byte (2 : Int32) [(.int s0), (.int s1)] (.int (0 : Int32)) := F49.other W51 (Ne.symm (ne_arv F45 (tw_3 hw) F49))
  have F57 : Arv Z h51 bb kb .byte (256 : Int32) [(.int d0), (.int d1), (.int d2), (.int d3)] (.int (0 : Int32)) := V44.other W51 (Ne.symm (ne_arv F45 (tw_3 hw) V44))
  have Z51 : n0 ≤ h51.size := by rw [W51.size]; exact Z44
  have K51 : Keep h0 h51 [a, bb] := K44.wr W51 (Or.inl (List.mem_of_getElem? (i := 0) rfl))
  have N51 := Fr.snoc X51 N44 g_a
  refine w_ret0 X51 hx hlk hret (dB d4_29) (by decide) (by decide) ?_
  rw [e51]
  exact ⟨rfl, N51, K51, F53, F54, F55, F57⟩
theorem ef_4n1 (m : MethodId) (x0 : Addr) (x1 : Addr) : entryFrame m #[(.ref x0), (.ref x1), (.int (0 : Int32)), (.int (1 : Int32))] 4 = mkF m 0 #[.val (.ref x0), .val (.ref x1), .val (.int (0 : Int32)), .val (.int (1 : Int32))] [] := by first | (simp [entryFrame, mkF, argsToLocals, Value.category]; done) | rfl
def Q4n1 (Z : State) (a : Addr) (ar : Addr) (bb : Addr) (kb : ClassId) (ka : ClassId) (d0 : Int32) (d1 : Int32) (d2 : Int32) (d3 : Int32) (s0 : Int32) (s1 : Int32) (h0 : Heap) (n0 : Nat) (v : Option Value) (h : Heap) (L : List Loc) : Prop := v = none ∧ Fr n0 L ∧ Keep h0 h [a, bb] ∧ Fld Z h a cN_0 "bytes" "[B" (.ref bb) ∧ Fld Z h a cN_0 "length" "I" (.int (1 : Int32)) ∧ Fld Z h a cN_0 "longest" "I" (.int (64 : Int32)) ∧ Arv Z h bb kb .byte (256 : Int32) [(.int s0), (.int d1), (.int d2), (.int d3)] (.int (0 : Int32))
set_option maxRecDepth 65536 in
set_option maxHeartbeats 40000000 in
theorem rm4n1 (l : Launch) (Z : State) (a0 : Array Value) (hw : ∀ d ∈ tables_1, d.before a0 Z = true) (ws : List Jvm.Cond) (a : Addr) (ar : Addr) (bb : Addr) (kb : ClassId) (ka : ClassId) (d0 : Int32) (d1 : Int32) (d2 : Int32) (d3 : Int32) (s0 : Int32) (s1 : Int32) (h0 : Heap) (n0 : Nat) (Z0 : n0 ≤ h0.size) (E_a : Exa Z h0 a cN_0) (F_bytes_a : Fld Z h0 a cN_0 "bytes" "[B" (.ref bb)) (F_length_a : Fld Z h0 a cN_0 "length" "I" (.int (0 : Int32))) (F_longest_a : Fld Z h0 a cN_0 "longest" "I" (.int (64 : Int32))) (V_bb : Arv Z h0 bb kb .byte (256 : Int32) [(.int d0), (.int d1), (.int d2), (.int d3)] (.int (0 : Int32))) (V_ar : Arv Z h0 ar ka .byte (2 : Int32) [(.int s0), (.int s1)] (.int (0 : Int32))) (g_a : n0 ≤ a) (g_bb : n0 ≤ bb) (ne1 : ar ≠ bb) :
    CT l mN_4 prog_51_method_3_code 4 none ws ({ frames := 1, cells := 0, slots := 0, locals := 18 } : Room) #[(.ref a), (.ref ar), (.int (0 : Int32)), (.int (1 : Int32))] Z h0 (Q4n1 Z a ar bb kb ka d0 d1 d2 d3 s0 s1 h0 n0) := by
  refine body_of (plainFor_of_name pn_0) ?_
  intro p e s m below meth c s₁ hx dB hret hlk hml hown0 hnm X0 e0 hZ
  have hown : s.vm.findClass cN_0 = some m.cls := hown0
  have N0 := Fr.nil n0
  rw [ef_4n1]
  show Wk p e below (FN s (Q4n1 Z a ar bb kb ka d0 d1 d2 d3 s0 s1 h0 n0) 0 0) s₁ (mkF m 0 #[.val (.ref a), .val (.ref ar), .val (.int (0 : Int32)), .val (.int (1 : Int32))] [])
  refine w_aloadN X0 hx (.ref a) (dB d4_0) 1 rfl rfl rfl ?_
  refine w_iloadN X0 hx (1 : Int32) (dB d4_1) 2 rfl rfl ?_
  refine w_priv0 X0 hx hZ hown e0 (rm5n1 l Z a0 hw [] a bb kb d0 d1 d2 d3 h0 n0 Z0 F_bytes_a F_length_a F_longest_a V_bb) (tw_27 hw) (tw_28 hw) (tw_3 hw) (tw_29 hw) (tw_4 hw) (tw_30 hw) (by decide) a E_a (by rw [hml]; rfl) [(.int (1 : Int32))] [] (lenOf pd_0 rfl) rfl rfl (by decide) 0 rfl (by decide) (by decide) (by decide) (dB d4_2) 5 rfl (fun r58 T58 L58 X58 q58 => ?_)
  obtain ⟨rfl, Nq58, eq58⟩ := q58
  have N58 := Fr.app N0 Nq58
  dsimp only [Option.toList_some, Option.toList_none, List.cons_append, List.nil_append]
  refine w_aloadN X58 hx (.ref ar) (dB d4_5) 6 rfl rfl rfl ?_
  refine w_iloadN X58 hx (0 : Int32) (dB d4_6) 7 rfl rfl ?_
  refine w_aloadN X58 hx (.ref a) (dB d4_7) 8 rfl rfl rfl ?_
  refine w_getF X58 hx hZ hown eq58 (host := "") (Or.inl (tw_11 hw)) Via.refl F_bytes_a (dB d4_8) 11 rfl (fun T59 X59 e59 => ?_)
  refine w_aloadN X59 hx (.ref a) (dB d4_11) 12 rfl rfl rfl ?_
  refine w_getF X59 hx hZ hown e59 (host := "") (Or.inl (tw_18 hw)) Via.refl F_length_a (dB d4_12) 15 rfl (fun T60 X60 e60 => ?_)
  refine w_iloadN X60 hx (1 : Int32) (dB d4_15) 16 rfl rfl ?_
  refine w_copy X60 hx hZ hown e60 (tw_31 hw) (tw_34 hw) (tw_32 hw) (tw_33 hw) V_ar V_bb rfl 0 0 1 (by decide) (by decide) (by decide) (by decide) (by decide) (by decide) (by decide) (by decide) (show 1 ≤ 4 from (by decide)) [(.int s0), (.int d1), (.int d2), (.int d3)] rfl N58 g_bb (by rw [hml]; rfl) (by decide) 0 rfl (by decide) (dB d4_16) 19 rfl (fun T61 h61 L61 X61 e61 N61 Kq61 V61 => ?_)
  have F62 : Exa Z h61 a cN_0 := E_a.keep Kq61
  have F63 : Fld Z h61 a cN_0 "bytes" "[B" (.ref bb) := F_bytes_a.keep Kq61 (ninS (ne_arv E_a (tw_3 hw) V_bb) nin0)
  have F64 : Fld Z h61 a cN_0 "length" "I" (.int (0 : Int32)) := F_length_a.keep Kq61 (ninS (ne_arv E_a (tw_3 hw) V_bb) nin0)
  have F65 : Fld Z h61 a cN_0 "longest" "I" (.int (64 : Int32)) := F_longest_a.keep Kq61 (ninS (ne_arv E_a (tw_3 hw) V_bb) nin0)
  have F66 : Arv Z h61 ar ka .byte (2 : Int32) [(.int s0), (.int s1)] (.int (0 : Int32)) := V_ar.keep Kq61 (ninS ne1 nin0)
  have Z61 : n0 ≤ h61.size := Nat.le_trans Z0 Kq61.1
  have K61 : Keep h0 h61 [a, bb] := (Keep.refl h0 [a, bb]).trans Kq61 (allS (Or.inl (List.mem_of_getElem? (i := 1) rfl)) all0)
  refine w_aloadN X61 hx (.ref a) (dB d4_19) 20 rfl rfl rfl ?_
  refine w_dup X61 hx (dB d4_20) 21 rfl rfl ?_
  refine w_getF X61 hx hZ hown e61 (host := "") (Or.inl (tw_18 hw)) Via.refl F64 (dB d4_21) 24 rfl (fun T67 X67 e67 => ?_)
  refine w_iloadN X67 hx (1 : Int32) (dB d4_24) 25 rfl rfl ?_
  refine w_iadd X67 hx (dB d4_25) 26 rfl (show (1 : Int32) = (0 : Int32) + (1 : Int32) from by decide) ?_
  refine w_putF X67 hx hZ hown e67 (host := "") (Or.inl (tw_18 hw)) Via.refl F64 F62 (Or.inl (tw_19 hw)) (tw_3 hw) (ty := .int) (by decide) rfl rfl (dB d4_26) 29 rfl (fun T68 h68 X68 e68 W68 => ?_)
  have F69 : Exa Z h68 a cN_0 := F62.wr W68
  have F70 : Fld Z h68 a cN_0 "bytes" "[B" (.ref bb) := F63.other W68 (Or.inr (slot_ne (Or.inl (tw_12 hw)) (Or.inl (tw_19 hw)) (by decide) (t := (.array .byte)) (t' := .int) (by decide) (by decide)))
  have F71 : Fld Z h68 a cN_0 "length" "I" (.int (1 : Int32)) := F64.same W68
  have F72 : Fld Z h68 a cN_0 "longest" "I" (.int (64 : Int32)) := F65.other W68 (Or.inr (slot_ne (Or.inl (tw_21 hw)) (Or.inl (tw_19 hw)) (by decide) (t := .int) (t' := .int) (by decide) (by decide)))
  have F73 : Arv Z h68 ar ka .byte (2 : Int32) [(.int s0), (.int s1)] (.int (0 : Int32)) := F66.other W68 (Ne.symm (ne_arv F62 (tw_3 hw) F66))
  have F74 : Arv Z h68 bb kb .byte (256 : Int32) [(.int s0), (.int d1), (.int d2), (.int d3)] (.int (0 : Int32)) := V61.other W68 (Ne.symm (ne_arv F62 (tw_3 hw) V61))
  have Z68 : n0 ≤ h68.size := by rw [W68.size]; exact Z61
  have K68 : Keep h0 h68 [a, bb] := K61.wr W68 (Or.inl (List.mem_of_getElem? (i := 0) rfl))
  have N68 := Fr.snoc X68 N61 g_a
  refine w_ret0 X68 hx hlk hret (dB d4_29) (by decide) (by decide) ?_
  rw [e68]
  exact ⟨rfl, N68, K68, F70, F71, F72, F74⟩
theorem ef_4n2 (m : MethodId) (x0 : Addr) (x1 : Addr) : entryFrame m #[(.ref x0), (.ref x1), (.int (0 : Int32)), (.int (2 : Int32))] 4 = mkF m 0 #[.val (.ref x0), .val (.ref x1), .val (.int (0 : Int32)), .val (.int (2 : Int32))] [] := by first | (simp [entryFrame, mkF, argsToLocals, Value.category]; done) | rfl
def Q4n2 (Z : State) (a : Addr) (ar : Addr) (bb : Addr) (kb : ClassId) (ka : ClassId) (d0 : Int32) (d1 : Int32) (d2 : Int32) (d3 : Int32) (s0 : Int32) (s1 : Int32) (h0 : Heap) (n0 : Nat) (v : Option Value) (h : Heap) (L : List Loc) : Prop := v = none ∧ Fr n0 L ∧ Keep h0 h [a, bb] ∧ Fld Z h a cN_0 "bytes" "[B" (.ref bb) ∧ Fld Z h a cN_0 "length" "I" (.int (2 : Int32)) ∧ Fld Z h a cN_0 "longest" "I" (.int (64 : Int32)) ∧ Arv Z h bb kb .byte (256 : Int32) [(.int s0), (.int s1), (.int d2), (.int d3)] (.int (0 : Int32))
set_option maxRecDepth 65536 in
set_option maxHeartbeats 40000000 in
theorem rm4n2 (l : Launch) (Z : State) (a0 : Array Value) (hw : ∀ d ∈ tables_1, d.before a0 Z = true) (ws : List Jvm.Cond) (a : Addr) (ar : Addr) (bb : Addr) (kb : ClassId) (ka : ClassId) (d0 : Int32) (d1 : Int32) (d2 : Int32) (d3 : Int32) (s0 : Int32) (s1 : Int32) (h0 : Heap) (n0 : Nat) (Z0 : n0 ≤ h0.size) (E_a : Exa Z h0 a cN_0) (F_bytes_a : Fld Z h0 a cN_0 "bytes" "[B" (.ref bb)) (F_length_a : Fld Z h0 a cN_0 "length" "I" (.int (0 : Int32))) (F_longest_a : Fld Z h0 a cN_0 "longest" "I" (.int (64 : Int32))) (V_bb : Arv Z h0 bb kb .byte (256 : Int32) [(.int d0), (.int d1), (.int d2), (.int d3)] (.int (0 : Int32))) (V_ar : Arv Z h0 ar ka .byte (2 : Int32) [(.int s0), (.int s1)] (.int (0 : Int32))) (g_a : n0 ≤ a) (g_bb : n0 ≤ bb) (ne1 : ar ≠ bb) :
    CT l mN_4 prog_51_method_3_code 4 none ws ({ frames := 1, cells := 0, slots := 0, locals := 18 } : Room) #[(.ref a), (.ref ar), (.int (0 : Int32)), (.int (2 : Int32))] Z h0 (Q4n2 Z a ar bb kb ka d0 d1 d2 d3 s0 s1 h0 n0) := by
  refine body_of (plainFor_of_name pn_0) ?_
  intro p e s m below meth c s₁ hx dB hret hlk hml hown0 hnm X0 e0 hZ
  have hown : s.vm.findClass cN_0 = some m.cls := hown0
  have N0 := Fr.nil n0
  rw [ef_4n2]
  show Wk p e below (FN s (Q4n2 Z a ar bb kb ka d0 d1 d2 d3 s0 s1 h0 n0) 0 0) s₁ (mkF m 0 #[.val (.ref a), .val (.ref ar), .val (.int (0 : Int32)), .val (.int (2 : Int32))] [])
  refine w_aloadN X0 hx (.ref a) (dB d4_0) 1 rfl rfl rfl ?_
  refine w_iloadN X0 hx (2 : Int32) (dB d4_1) 2 rfl rfl ?_
  refine w_priv0 X0 hx hZ hown e0 (rm5n2 l Z a0 hw [] a bb kb d0 d1 d2 d3 h0 n0 Z0 F_bytes_a F_length_a F_longest_a V_bb) (tw_27 hw) (tw_28 hw) (tw_3 hw) (tw_29 hw) (tw_4 hw) (tw_30 hw) (by decide) a E_a (by rw [hml]; rfl) [(.int (2 : Int32))] [] (lenOf pd_0 rfl) rfl rfl (by decide) 0 rfl (by decide) (by decide) (by decide) (dB d4_2) 5 rfl (fun r75 T75 L75 X75 q75 => ?_)
  obtain ⟨rfl, Nq75, eq75⟩ := q75
  have N75 := Fr.app N0 Nq75
  dsimp only [Option.toList_some, Option.toList_none, List.cons_append, List.nil_append]
  refine w_aloadN X75 hx (.ref ar) (dB d4_5) 6 rfl rfl rfl ?_
  refine w_iloadN X75 hx (0 : Int32) (dB d4_6) 7 rfl rfl ?_
  refine w_aloadN X75 hx (.ref a) (dB d4_7) 8 rfl rfl rfl ?_
  refine w_getF X75 hx hZ hown eq75 (host := "") (Or.inl (tw_11 hw)) Via.refl F_bytes_a (dB d4_8) 11 rfl (fun T76 X76 e76 => ?_)
  refine w_aloadN X76 hx (.ref a) (dB d4_11) 12 rfl rfl rfl ?_
  refine w_getF X76 hx hZ hown e76 (host := "") (Or.inl (tw_18 hw)) Via.refl F_length_a (dB d4_12) 15 rfl (fun T77 X77 e77 => ?_)
  refine w_iloadN X77 hx (2 : Int32) (dB d4_15) 16 rfl rfl ?_
  refine w_copy X77 hx hZ hown e77 (tw_31 hw) (tw_34 hw) (tw_32 hw) (tw_33 hw) V_ar V_bb rfl 0 0 2 (by decide) (by decide) (by decide) (by decide) (by decide) (by decide) (by decide) (by decide) (show 2 ≤ 4 from (by decide)) [(.int s0), (.int s1), (.int d2), (.int d3)] rfl N75 g_bb (by rw [hml]; rfl) (by decide) 0 rfl (by decide) (dB d4_16) 19 rfl (fun T78 h78 L78 X78 e78 N78 Kq78 V78 => ?_)
  have F79 : Exa Z h78 a cN_0 := E_a.keep Kq78
  have F80 : Fld Z h78 a cN_0 "bytes" "[B" (.ref bb) := F_bytes_a.keep Kq78 (ninS (ne_arv E_a (tw_3 hw) V_bb) nin0)
  have F81 : Fld Z h78 a cN_0 "length" "I" (.int (0 : Int32)) := F_length_a.keep Kq78 (ninS (ne_arv E_a (tw_3 hw) V_bb) nin0)
  have F82 : Fld Z h78 a cN_0 "longest" "I" (.int (64 : Int32)) := F_longest_a.keep Kq78 (ninS (ne_arv E_a (tw_3 hw) V_bb) nin0)
  have F83 : Arv Z h78 ar ka .byte (2 : Int32) [(.int s0), (.int s1)] (.int (0 : Int32)) := V_ar.keep Kq78 (ninS ne1 nin0)
  have Z78 : n0 ≤ h78.size := Nat.le_trans Z0 Kq78.1
  have K78 : Keep h0 h78 [a, bb] := (Keep.refl h0 [a, bb]).trans Kq78 (allS (Or.inl (List.mem_of_getElem? (i := 1) rfl)) all0)
  refine w_aloadN X78 hx (.ref a) (dB d4_19) 20 rfl rfl rfl ?_
  refine w_dup X78 hx (dB d4_20) 21 rfl rfl ?_
  refine w_getF X78 hx hZ hown e78 (host := "") (Or.inl (tw_18 hw)) Via.refl F81 (dB d4_21) 24 rfl (fun T84 X84 e84 => ?_)
  refine w_iloadN X84 hx (2 : Int32) (dB d4_24) 25 rfl rfl ?_
  refine w_iadd X84 hx (dB d4_25) 26 rfl (show (2 : Int32) = (0 : Int32) + (2 : Int32) from by decide) ?_
  refine w_putF X84 hx hZ hown e84 (host := "") (Or.inl (tw_18 hw)) Via.refl F81 F79 (Or.inl (tw_19 hw)) (tw_3 hw) (ty := .int) (by decide) rfl rfl (dB d4_26) 29 rfl (fun T85 h85 X85 e85 W85 => ?_)
  have F86 : Exa Z h85 a cN_0 := F79.wr W85
  have F87 : Fld Z h85 a cN_0 "bytes" "[B" (.ref bb) := F80.other W85 (Or.inr (slot_ne (Or.inl (tw_12 hw)) (Or.inl (tw_19 hw)) (by decide) (t := (.array .byte)) (t' := .int) (by decide) (by decide)))
  have F88 : Fld Z h85 a cN_0 "length" "I" (.int (2 : Int32)) := F81.same W85
  have F89 : Fld Z h85 a cN_0 "longest" "I" (.int (64 : Int32)) := F82.other W85 (Or.inr (slot_ne (Or.inl (tw_21 hw)) (Or.inl (tw_19 hw)) (by decide) (t := .int) (t' := .int) (by decide) (by decide)))
  have F90 : Arv Z h85 ar ka .byte (2 : Int32) [(.int s0), (.int s1)] (.int (0 : Int32)) := F83.other W85 (Ne.symm (ne_arv F79 (tw_3 hw) F83))
  have F91 : Arv Z h85 bb kb .byte (256 : Int32) [(.int s0), (.int s1), (.int d2), (.int d3)] (.int (0 : Int32)) := V78.other W85 (Ne.symm (ne_arv F79 (tw_3 hw) V78))
  have Z85 : n0 ≤ h85.size := by rw [W85.size]; exact Z78
  have K85 : Keep h0 h85 [a, bb] := K78.wr W85 (Or.inl (List.mem_of_getElem? (i := 0) rfl))
  have N85 := Fr.snoc X85 N78 g_a
  refine w_ret0 X85 hx hlk hret (dB d4_29) (by decide) (by decide) ?_
  rw [e85]
  exact ⟨rfl, N85, K85, F87, F88, F89, F91⟩
theorem ef_6 (m : MethodId) (x0 : Addr) : entryFrame m #[(.ref x0)] 1 = mkF m 0 #[.val (.ref x0)] [] := by first | (simp [entryFrame, mkF, argsToLocals, Value.category]; done) | rfl
def Q6 (Z : State) (a : Addr) (bb : Addr) (kb : ClassId) (xl : Int32) (d0 : Int32) (d1 : Int32) (d2 : Int32) (d3 : Int32) (h0 : Heap) (n0 : Nat) (v : Option Value) (h : Heap) (L : List Loc) : Prop := ∃ z : Int32, v = some (.int z) ∧ ((z.toInt = 1 ∧ (0 < xl.toInt ∧ (d0.toInt = 32 ∨ d0.toInt = 9))) ∨ (z.toInt = 0 ∧ ¬ (0 < xl.toInt ∧ (d0.toInt = 32 ∨ d0.toInt = 9)))) ∧ Fr n0 L ∧ h = h0
set_option maxRecDepth 65536 in
set_option maxHeartbeats 40000000 in
theorem rm6 (l : Launch) (Z : State) (a0 : Array Value) (hw : ∀ d ∈ tables_1, d.before a0 Z = true) (ws : List Jvm.Cond) (a : Addr) (bb : Addr) (kb : ClassId) (xl : Int32) (d0 : Int32) (d1 : Int32) (d2 : Int32) (d3 : Int32) (h0 : Heap) (n0 : Nat) (Z0 : n0 ≤ h0.size) (F_bytes_a : Fld Z h0 a cN_0 "bytes" "[B" (.ref bb)) (F_length_a : Fld Z h0 a cN_0 "length" "I" (.int xl)) (V_bb : Arv Z h0 bb kb .byte (256 : Int32) [(.int d0), (.int d1), (.int d2), (.int d3)] (.int (0 : Int32))) :
    CT l mN_6 prog_51_method_7_code 1 (some .boolean) ws ({ frames := 0, cells := 0, slots := 0, locals := 0 } : Room) #[(.ref a)] Z h0 (Q6 Z a bb kb xl d0 d1 d2 d3 h0 n0) := by
  refine body_of (plainFor_of_name pn_0) ?_
  intro p e s m below meth c s₁ hx dB hret hlk hml hown0 hnm X0 e0 hZ
  have hown : s.vm.findClass cN_0 = some m.cls := hown0
  have N0 := Fr.nil n0
  rw [ef_6]
  show Wk p e below (FN s (Q6 Z a bb kb xl d0 d1 d2 d3 h0 n0) 0 0) s₁ (mkF m 0 #[.val (.ref a)] [])
  refine w_aloadN X0 hx (.ref a) (dB d6_0) 1 rfl rfl rfl ?_
  refine w_getF X0 hx hZ hown e0 (host := "") (Or.inl (tw_18 hw)) Via.refl F_length_a (dB d6_1) 4 rfl (fun T92 X92 e92 => ?_)
  refine w_if_le X92 hx xl.toInt rfl (dB d6_4) 33 7 (fun c93 => ?_) (fun c93 => ?_)
  ·refine w_iconst X92 hx (dB d6_33) 34 rfl (0 : Int32) (by decide) ?_
   refine w_retN X92 hx hlk (t := .boolean) hret (by simp) (dB d6_34) (by decide) (by decide) ?_
   rw [e92]
   exact ⟨(0 : Int32), rfl, by have hz : (0 : Int32).toInt = 0 := (by decide); omega, N0, rfl⟩
  ·refine w_aloadN X92 hx (.ref a) (dB d6_7) 8 rfl rfl rfl ?_
   refine w_getF X92 hx hZ hown e92 (host := "") (Or.inl (tw_11 hw)) Via.refl F_bytes_a (dB d6_8) 11 rfl (fun T94 X94 e94 => ?_)
   refine w_iconst X94 hx (dB d6_11) 12 rfl (0 : Int32) (by decide) ?_
   refine w_baload X94 hx hZ e94 V_bb ⟨by decide, by decide⟩ (v := (.int d0)) rfl (dB d6_12) 13 rfl ?_
   refine w_bipush X94 hx (dB d6_13) 15 rfl (32 : Int32) (by decide) ?_
   refine w_icmp_eq X94 hx d0.toInt 32 rfl (by decide) (dB d6_15) 29 18 (fun c95 => ?_) (fun c95 => ?_)
   ·refine w_iconst X94 hx (dB d6_29) 30 rfl (1 : Int32) (by decide) ?_
    refine w_goto X94 hx (dB d6_30) 34 ?_
    refine w_retN X94 hx hlk (t := .boolean) hret (by simp) (dB d6_34) (by decide) (by decide) ?_
    rw [e94]
    exact ⟨(1 : Int32), rfl, by have hz : (1 : Int32).toInt = 1 := (by decide); omega, N0, rfl⟩
   ·refine w_aloadN X94 hx (.ref a) (dB d6_18) 19 rfl rfl rfl ?_
    refine w_getF X94 hx hZ hown e94 (host := "") (Or.inl (tw_11 hw)) Via.refl F_bytes_a (dB d6_19) 22 rfl (fun T96 X96 e96 => ?_)
    refine w_iconst X96 hx (dB d6_22) 23 rfl (0 : Int32) (by decide) ?_
    refine w_baload X96 hx hZ e96 V_bb ⟨by decide, by decide⟩ (v := (.int d0)) rfl (dB d6_23) 24 rfl ?_
    refine w_bipush X96 hx (dB d6_24) 26 rfl (9 : Int32) (by decide) ?_
    refine w_icmp_ne X96 hx d0.toInt 9 rfl (by decide) (dB d6_26) 33 29 (fun c97 => ?_) (fun c97 => ?_)
    ·refine w_iconst X96 hx (dB d6_33) 34 rfl (0 : Int32) (by decide) ?_
     refine w_retN X96 hx hlk (t := .boolean) hret (by simp) (dB d6_34) (by decide) (by decide) ?_
     rw [e96]
     exact ⟨(0 : Int32), rfl, by have hz : (0 : Int32).toInt = 0 := (by decide); omega, N0, rfl⟩
    ·refine w_iconst X96 hx (dB d6_29) 30 rfl (1 : Int32) (by decide) ?_
     refine w_goto X96 hx (dB d6_30) 34 ?_
     refine w_retN X96 hx hlk (t := .boolean) hret (by simp) (dB d6_34) (by decide) (by decide) ?_
     rw [e96]
     exact ⟨(1 : Int32), rfl, by have hz : (1 : Int32).toInt = 1 := (by decide); omega, N0, rfl⟩
theorem ef_7 (m : MethodId) (x0 : Int32) : entryFrame m #[(.int x0)] 1 = mkF m 0 #[.val (.int x0)] [] := by first | (simp [entryFrame, mkF, argsToLocals, Value.category]; done) | rfl
def Q7 (Z : State) (x : Int32) (h0 : Heap) (n0 : Nat) (v : Option Value) (h : Heap) (L : List Loc) : Prop := ∃ z : Int32, v = some (.int z) ∧ ((z.toInt = 1 ∧ (x.toInt = 32 ∨ x.toInt = 9)) ∨ (z.toInt = 0 ∧ ¬ (x.toInt = 32 ∨ x.toInt = 9))) ∧ Fr n0 L ∧ h = h0
set_option maxRecDepth 65536 in
set_option maxHeartbeats 40000000 in
theorem rm7 (l : Launch) (Z : State) (a0 : Array Value) (hw : ∀ d ∈ tables_1, d.before a0 Z = true) (ws : List Jvm.Cond) (x : Int32) (h0 : Heap) (n0 : Nat) (Z0 : n0 ≤ h0.size) :
    CT l mN_7 method_2_code 1 (some .boolean) ws ({ frames := 0, cells := 0, slots := 0, locals := 0 } : Room) #[(.int x)] Z h0 (Q7 Z x h0 n0) := by
  refine body_of (plainFor_of_name pn_1) ?_
  intro p e s m below meth c s₁ hx dB hret hlk hml hown0 hnm X0 e0 hZ
  have hown : s.vm.findClass cN_1 = some m.cls := hown0
  have N0 := Fr.nil n0
  rw [ef_7]
  show Wk p e below (FN s (Q7 Z x h0 n0) 0 0) s₁ (mkF m 0 #[.val (.int x)] [])
  have r_x := rng32 x
  refine w_iloadN X0 hx x (dB d7_0) 1 rfl rfl ?_
  refine w_bipush X0 hx (dB d7_1) 3 rfl (32 : Int32) (by decide) ?_
  refine w_icmp_eq X0 hx x.toInt 32 rfl (by decide) (dB d7_3) 12 6 (fun c98 => ?_) (fun c98 => ?_)
  ·refine w_iconst X0 hx (dB d7_12) 13 rfl (1 : Int32) (by decide) ?_
   refine w_goto X0 hx (dB d7_13) 17 ?_
   refine w_retN X0 hx hlk (t := .boolean) hret (by simp) (dB d7_17) (by decide) (by decide) ?_
   rw [e0]
   exact ⟨(1 : Int32), rfl, by have hz : (1 : Int32).toInt = 1 := (by decide); omega, N0, rfl⟩
  ·refine w_iloadN X0 hx x (dB d7_6) 7 rfl rfl ?_
   refine w_bipush X0 hx (dB d7_7) 9 rfl (9 : Int32) (by decide) ?_
   refine w_icmp_ne X0 hx x.toInt 9 rfl (by decide) (dB d7_9) 16 12 (fun c99 => ?_) (fun c99 => ?_)
   ·refine w_iconst X0 hx (dB d7_16) 17 rfl (0 : Int32) (by decide) ?_
    refine w_retN X0 hx hlk (t := .boolean) hret (by simp) (dB d7_17) (by decide) (by decide) ?_
    rw [e0]
    exact ⟨(0 : Int32), rfl, by have hz : (0 : Int32).toInt = 0 := (by decide); omega, N0, rfl⟩
   ·refine w_iconst X0 hx (dB d7_12) 13 rfl (1 : Int32) (by decide) ?_
    refine w_goto X0 hx (dB d7_13) 17 ?_
    refine w_retN X0 hx hlk (t := .boolean) hret (by simp) (dB d7_17) (by decide) (by decide) ?_
    rw [e0]
    exact ⟨(1 : Int32), rfl, by have hz : (1 : Int32).toInt = 1 := (by decide); omega, N0, rfl⟩
theorem ef_0 (m : MethodId) (x0 : Int32) (x1 : Int32) (x2 : Int32) (x3 : Int32) (x4 : Int32) : entryFrame m #[(.int x0), (.int x1), (.int x2), (.int x3), (.int x4)] maxLocals = mkF m 0 #[.val (.int x0), .val (.int x1), .val (.int x2), .val (.int x3), .val (.int x4), .unset, .unset, .unset, .unset, .unset, .unset, .unset, .unset, .unset, .unset, .unset] [] := by first | (simp [entryFrame, mkF, argsToLocals, Value.category, maxLocals]; done) | rfl
def Q0 (Z : State) (a : Int32) (b : Int32) (d : Int32) (xe : Int32) (xc : Int32) (h0 : Heap) (n0 : Nat) (v : Option Value) (h : Heap) (L : List Loc) : Prop := v = some (.int 1) ∧ Fr n0 L
set_option maxRecDepth 65536 in
set_option maxHeartbeats 40000000 in
theorem rm0 (l : Launch) (Z : State) (a0 : Array Value) (hw : ∀ d ∈ tables_1, d.before a0 Z = true) (ws : List Jvm.Cond) (a : Int32) (b : Int32) (d : Int32) (xe : Int32) (xc : Int32) (h0 : Heap) (n0 : Nat) (Z0 : n0 ≤ h0.size) :
    MetFree l x (head1 (Jvm.Cond.code x code maxLocals ret :: ws) room_1) (fun as_ U => as_ = #[(.int a), (.int b), (.int d), (.int xe), (.int xc)] ∧ Z.Warmed39 U.vm ∧ U.heap = h0) (fun _ _ _ _ _ => True) (fun _ U o U' => ∃ v L, o = .returned v ∧ Q0 Z a b d xe xc h0 n0 v U'.heap L ∧ FrameEnd U o U' L 4 263) := by
  refine body_of (plainFor_of_name pn_1) ?_
  intro p e s m below meth c s₁ hx dB hret hlk hml hown0 hnm X0 e0 hZ
  have hown : s.vm.findClass cN_1 = some m.cls := hown0
  have N0 := Fr.nil n0
  rw [ef_0]
  show Wk p e below (FN s (Q0 Z a b d xe xc h0 n0) 4 263) s₁ (mkF m 0 #[.val (.int a), .val (.int b), .val (.int d), .val (.int xe), .val (.int xc), .unset, .unset, .unset, .unset, .unset, .unset, .unset, .unset, .unset, .unset, .unset] [])
  have r_a := rng32 a
  have r_b := rng32 b
  have r_d := rng32 d
  have r_xe := rng32 xe
  have r_xc := rng32 xc
  refine w_iloadN X0 hx a (dB at_0) 1 rfl rfl ?_
  obtain ⟨v100, e100⟩ : ∃ z : Int32, z = a.toInt8.toInt32 := ⟨_, rfl⟩
  have n100 : (v100.toInt - a.toInt) % 256 = 0 ∧ -128 ≤ v100.toInt ∧ v100.toInt < 128 := by rw [e100]; exact i2bX rfl
  refine w_i2b X0 hx (dB at_1) 2 rfl e100 ?_
  refine w_istore X0 hx (dB at_2) 4 rfl #[.val (.int a), .val (.int b), .val (.int d), .val (.int xe), .val (.int xc), .val (.int v100), .unset, .unset, .unset, .unset, .unset, .unset, .unset, .unset, .unset, .unset] rfl ?_
  refine w_iloadN X0 hx b (dB at_4) 5 rfl rfl ?_
  obtain ⟨v101, e101⟩ : ∃ z : Int32, z = b.toInt8.toInt32 := ⟨_, rfl⟩
  have n101 : (v101.toInt - b.toInt) % 256 = 0 ∧ -128 ≤ v101.toInt ∧ v101.toInt < 128 := by rw [e101]; exact i2bX rfl
  refine w_i2b X0 hx (dB at_5) 6 rfl e101 ?_
  refine w_istore X0 hx (dB at_6) 8 rfl #[.val (.int a), .val (.int b), .val (.int d), .val (.int xe), .val (.int xc), .val (.int v100), .val (.int v101), .unset, .unset, .unset, .unset, .unset, .unset, .unset, .unset, .unset] rfl ?_
  refine w_iloadN X0 hx d (dB at_8) 9 rfl rfl ?_
  obtain ⟨v102, e102⟩ : ∃ z : Int32, z = d.toInt8.toInt32 := ⟨_, rfl⟩
  have n102 : (v102.toInt - d.toInt) % 256 = 0 ∧ -128 ≤ v102.toInt ∧ v102.toInt < 128 := by rw [e102]; exact i2bX rfl
  refine w_i2b X0 hx (dB at_9) 10 rfl e102 ?_
  refine w_istore X0 hx (dB at_10) 12 rfl #[.val (.int a), .val (.int b), .val (.int d), .val (.int xe), .val (.int xc), .val (.int v100), .val (.int v101), .val (.int v102), .unset, .unset, .unset, .unset, .unset, .unset, .unset, .unset] rfl ?_
  refine w_iloadN X0 hx xe (dB at_12) 13 rfl rfl ?_
  obtain ⟨v103, e103⟩ : ∃ z : Int32, z = xe.toInt8.toInt32 := ⟨_, rfl⟩
  have n103 : (v103.toInt - xe.toInt) % 256 = 0 ∧ -128 ≤ v103.toInt ∧ v103.toInt < 128 := by rw [e103]; exact i2bX rfl
  refine w_i2b X0 hx (dB at_13) 14 rfl e103 ?_
  refine w_istore X0 hx (dB at_14) 16 rfl #[.val (.int a), .val (.int b), .val (.int d), .val (.int xe), .val (.int xc), .val (.int v100), .val (.int v101), .val (.int v102), .val (.int v103), .unset, .unset, .unset, .unset, .unset, .unset, .unset] rfl ?_
  refine w_iconst X0 hx (dB at_16) 17 rfl (2 : Int32) (by decide) ?_
  refine w_newP X0 hx hZ e0 (aty := .byte) (tw_0 hw) (by decide) 2 (by decide) (by decide) (by decide) (by decide) (dB at_17) 19 rfl (fun T104 h104 a104 k104 X104 e104 g104 E104 A104 => ?_)
  have g_a104 : n0 ≤ a104 := Nat.le_trans Z0 (Nat.le_of_eq g104.symm)
  have s_a104 : h0.size ≤ a104 := Nat.le_trans (Keep.refl h0 []).1 (Nat.le_of_eq g104.symm)
  have Z104 : n0 ≤ h104.size := Nat.le_trans Z0 E104.1
  have K104 : Keep h0 h104 [] := (Keep.refl h0 []).ext E104
  have V104 : Arv Z h104 a104 k104 .byte (2 : Int32) [(.int (0 : Int32)), (.int (0 : Int32))] (.int (0 : Int32)) := A104.pad (pad_rep [] (.int (0 : Int32)) 2)
  refine w_dup X104 hx (dB at_19) 20 rfl rfl ?_
  refine w_iconst X104 hx (dB at_20) 21 rfl (0 : Int32) (by decide) ?_
  refine w_iload X104 hx v100 (dB at_21) 23 rfl rfl ?_
  refine w_bastore X104 hx hZ e104 V104 ⟨by decide, by decide⟩ 0 (by decide) (show 0 < 2 from (by decide)) (dB at_23) 24 rfl (fun T105 h105 X105 e105 W105 V105 => ?_)
  have b105 : v100.toInt8.toInt32 = v100 := eqI (byteE rfl (by omega) (by omega))
  rw [b105] at W105 V105
  have F106 : Arv Z h105 a104 k104 .byte (2 : Int32) [(.int v100), (.int (0 : Int32))] (.int (0 : Int32)) := V105
  have Z105 : n0 ≤ h105.size := by rw [W105.size]; exact Z104
  have K105 : Keep h0 h105 [] := K104.wr W105 (Or.inr s_a104)
  have N105 := Fr.snoc X105 N0 g_a104
  refine w_dup X105 hx (dB at_24) 25 rfl rfl ?_
  refine w_iconst X105 hx (dB at_25) 26 rfl (1 : Int32) (by decide) ?_
  refine w_iload X105 hx v101 (dB at_26) 28 rfl rfl ?_
  refine w_bastore X105 hx hZ e105 F106 ⟨by decide, by decide⟩ 1 (by decide) (show 1 < 2 from (by decide)) (dB at_28) 29 rfl (fun T107 h107 X107 e107 W107 V107 => ?_)
  have b107 : v101.toInt8.toInt32 = v101 := eqI (byteE rfl (by omega) (by omega))
  rw [b107] at W107 V107
  have F108 : Arv Z h107 a104 k104 .byte (2 : Int32) [(.int v100), (.int v101)] (.int (0 : Int32)) := V107
  have Z107 : n0 ≤ h107.size := by rw [W107.size]; exact Z105
  have K107 : Keep h0 h107 [] := K105.wr W107 (Or.inr s_a104)
  have N107 := Fr.snoc X107 N105 g_a104
  refine w_astore X107 hx (dB at_29) 31 rfl rfl #[.val (.int a), .val (.int b), .val (.int d), .val (.int xe), .val (.int xc), .val (.int v100), .val (.int v101), .val (.int v102), .val (.int v103), .val (.ref a104), .unset, .unset, .unset, .unset, .unset, .unset] rfl ?_
  refine w_iconst X107 hx (dB at_31) 32 rfl (2 : Int32) (by decide) ?_
  refine w_newP X107 hx hZ e107 (aty := .byte) (tw_0 hw) (by decide) 2 (by decide) (by decide) (by decide) (by decide) (dB at_32) 34 rfl (fun T109 h109 a109 k109 X109 e109 g109 E109 A109 => ?_)
  have ne_a104_a109 : a104 ≠ a109 := Nat.ne_of_lt (Nat.lt_of_lt_of_le F108.lt (Nat.le_of_eq g109.symm))
  have g_a109 : n0 ≤ a109 := Nat.le_trans Z107 (Nat.le_of_eq g109.symm)
  have s_a109 : h0.size ≤ a109 := Nat.le_trans K107.1 (Nat.le_of_eq g109.symm)
  have F110 : Arv Z h109 a104 k104 .byte (2 : Int32) [(.int v100), (.int v101)] (.int (0 : Int32)) := F108.ext E109
  have Z109 : n0 ≤ h109.size := Nat.le_trans Z107 E109.1
  have K109 : Keep h0 h109 [] := K107.ext E109
  have V109 : Arv Z h109 a109 k109 .byte (2 : Int32) [(.int (0 : Int32)), (.int (0 : Int32))] (.int (0 : Int32)) := A109.pad (pad_rep [] (.int (0 : Int32)) 2)
  refine w_dup X109 hx (dB at_34) 35 rfl rfl ?_
  refine w_iconst X109 hx (dB at_35) 36 rfl (0 : Int32) (by decide) ?_
  refine w_iload X109 hx v102 (dB at_36) 38 rfl rfl ?_
  refine w_bastore X109 hx hZ e109 V109 ⟨by decide, by decide⟩ 0 (by decide) (show 0 < 2 from (by decide)) (dB at_38) 39 rfl (fun T111 h111 X111 e111 W111 V111 => ?_)
  have b111 : v102.toInt8.toInt32 = v102 := eqI (byteE rfl (by omega) (by omega))
  rw [b111] at W111 V111
  have F112 : Arv Z h111 a104 k104 .byte (2 : Int32) [(.int v100), (.int v101)] (.int (0 : Int32)) := F110.other W111 ne_a104_a109
  have F113 : Arv Z h111 a109 k109 .byte (2 : Int32) [(.int v102), (.int (0 : Int32))] (.int (0 : Int32)) := V111
  have Z111 : n0 ≤ h111.size := by rw [W111.size]; exact Z109
  have K111 : Keep h0 h111 [] := K109.wr W111 (Or.inr s_a109)
  have N111 := Fr.snoc X111 N107 g_a109
  refine w_dup X111 hx (dB at_39) 40 rfl rfl ?_
  refine w_iconst X111 hx (dB at_40) 41 rfl (1 : Int32) (by decide) ?_
  refine w_iload X111 hx v103 (dB at_41) 43 rfl rfl ?_
  refine w_bastore X111 hx hZ e111 F113 ⟨by decide, by decide⟩ 1 (by decide) (show 1 < 2 from (by decide)) (dB at_43) 44 rfl (fun T114 h114 X114 e114 W114 V114 => ?_)
  have b114 : v103.toInt8.toInt32 = v103 := eqI (byteE rfl (by omega) (by omega))
  rw [b114] at W114 V114
  have F115 : Arv Z h114 a104 k104 .byte (2 : Int32) [(.int v100), (.int v101)] (.int (0 : Int32)) := F112.other W114 ne_a104_a109
  have F116 : Arv Z h114 a109 k109 .byte (2 : Int32) [(.int v102), (.int v103)] (.int (0 : Int32)) := V114
  have Z114 : n0 ≤ h114.size := by rw [W114.size]; exact Z111
  have K114 : Keep h0 h114 [] := K111.wr W114 (Or.inr s_a109)
  have N114 := Fr.snoc X114 N111 g_a109
  refine w_astore X114 hx (dB at_44) 46 rfl rfl #[.val (.int a), .val (.int b), .val (.int d), .val (.int xe), .val (.int xc), .val (.int v100), .val (.int v101), .val (.int v102), .val (.int v103), .val (.ref a104), .val (.ref a109), .unset, .unset, .unset, .unset, .unset] rfl ?_
  refine w_iload X114 hx xc (dB at_46) 48 rfl rfl ?_
  refine w_ldc X114 hx hZ hown (tw_1 hw) (dB at_48) 50 rfl ?_
  obtain ⟨v117, e117⟩ : ∃ z : Int32, z = xc &&& (2147483647 : Int32) := ⟨_, rfl⟩
  have n117 : v117.toInt = xc.toInt % 2147483648 := by rw [e117]; exact maskX 31 rfl (by decide) (by decide)
  refine w_iand X114 hx (dB at_50) 51 rfl e117 ?_
  refine w_iconst X114 hx (dB at_51) 52 rfl (3 : Int32) (by decide) ?_
  obtain ⟨v118, e118⟩ : ∃ z : Int32, z = v117 % (3 : Int32) := ⟨_, rfl⟩
  have n118 : v118.toInt = v117.toInt % 3 := by rw [e118]; exact iremX rfl (by decide) (by omega)
  refine w_irem X114 hx (dB at_52) 53 rfl (by decide) e118 ?_
  refine w_istore X114 hx (dB at_53) 55 rfl #[.val (.int a), .val (.int b), .val (.int d), .val (.int xe), .val (.int xc), .val (.int v100), .val (.int v101), .val (.int v102), .val (.int v103), .val (.ref a104), .val (.ref a109), .val (.int v118), .unset, .unset, .unset, .unset] rfl ?_
  refine w_new X114 hx hZ hown e114 (tw_2 hw) (tw_3 hw) (tw_4 hw) (by decide) (by decide) (dB at_55) 58 rfl (fun T119 h119 a119 X119 e119 g119 E119 A119 D119 => ?_)
  have ne_a104_a119 : a104 ≠ a119 := Nat.ne_of_lt (Nat.lt_of_lt_of_le F115.lt (Nat.le_of_eq g119.symm))
  have ne_a109_a119 : a109 ≠ a119 := Nat.ne_of_lt (Nat.lt_of_lt_of_le F116.lt (Nat.le_of_eq g119.symm))
  have g_a119 : n0 ≤ a119 := Nat.le_trans Z114 (Nat.le_of_eq g119.symm)
  have s_a119 : h0.size ≤ a119 := Nat.le_trans K114.1 (Nat.le_of_eq g119.symm)
  have F120 : Arv Z h119 a104 k104 .byte (2 : Int32) [(.int v100), (.int v101)] (.int (0 : Int32)) := F115.ext E119
  have F121 : Arv Z h119 a109 k109 .byte (2 : Int32) [(.int v102), (.int v103)] (.int (0 : Int32)) := F116.ext E119
  have Z119 : n0 ≤ h119.size := Nat.le_trans Z114 E119.1
  have K119 : Keep h0 h119 [] := K114.ext E119
  have F122 : Fld Z h119 a119 cN_0 "bytes" "[B" .null := D119 (Or.inl (tw_12 hw)) (ty := (.array .byte)) (by decide)
  have F123 : Fld Z h119 a119 cN_0 "length" "I" (.int (0 : Int32)) := D119 (Or.inl (tw_19 hw)) (ty := .int) (by decide)
  have F124 : Fld Z h119 a119 cN_0 "longest" "I" (.int (0 : Int32)) := D119 (Or.inl (tw_21 hw)) (ty := .int) (by decide)
  refine w_dup X119 hx (dB at_58) 59 rfl rfl ?_
  refine w_init X119 hx hZ rfl hown e119 (rm1 l Z a0 hw [] a119 h119 n0 Z119 A119 F122 F123 F124 g_a119) (tw_5 hw) (tw_6 hw) (tw_4 hw) (tw_7 hw) (by decide) (by rw [hml]; rfl) a119 [] [(.ref a119)] (lenOf pd_1 rfl) rfl rfl (by decide) 1 rfl (by decide) (by decide) (by decide) (dB at_59) 62 rfl (fun r125 T125 L125 X125 q125 => ?_)
  obtain ⟨bb125, kb125, rfl, Nq125, Kq125, sq125_0, G125_0, G125_1, G125_2, G125_3⟩ := q125
  have N125 := Fr.app N114 Nq125
  have ne_a104_bb125 : a104 ≠ bb125 := Nat.ne_of_lt (Nat.lt_of_lt_of_le F120.lt sq125_0)
  have ne_a109_bb125 : a109 ≠ bb125 := Nat.ne_of_lt (Nat.lt_of_lt_of_le F121.lt sq125_0)
  have ne_a119_bb125 : a119 ≠ bb125 := Nat.ne_of_lt (Nat.lt_of_lt_of_le A119.lt sq125_0)
  have g_bb125 : n0 ≤ bb125 := Nat.le_trans Z119 sq125_0
  have s_bb125 : h0.size ≤ bb125 := Nat.le_trans K119.1 sq125_0
  have F126 : Arv Z T125.heap a104 k104 .byte (2 : Int32) [(.int v100), (.int v101)] (.int (0 : Int32)) := F120.keep Kq125 (ninS ne_a104_a119 nin0)
  have F127 : Arv Z T125.heap a109 k109 .byte (2 : Int32) [(.int v102), (.int v103)] (.int (0 : Int32)) := F121.keep Kq125 (ninS ne_a109_a119 nin0)
  have F128 : Exa Z T125.heap a119 cN_0 := A119.keep Kq125
  have Z125 : n0 ≤ T125.heap.size := Nat.le_trans Z119 Kq125.1
  have K125 : Keep h0 T125.heap [] := K119.trans Kq125 (allS (Or.inr s_a119) all0)
  dsimp only [Option.toList_some, Option.toList_none, List.cons_append, List.nil_append]
  refine w_astore X125 hx (dB at_62) 64 rfl rfl #[.val (.int a), .val (.int b), .val (.int d), .val (.int xe), .val (.int xc), .val (.int v100), .val (.int v101), .val (.int v102), .val (.int v103), .val (.ref a104), .val (.ref a109), .val (.int v118), .val (.ref a119), .unset, .unset, .unset] rfl ?_
  refine w_aload X125 hx (.ref a119) (dB at_64) 66 rfl rfl rfl ?_
  refine w_bipush X125 hx (dB at_66) 68 rfl (64 : Int32) (by decide) ?_
  refine w_virt X125 hx hZ hown rfl (rm3 l Z a0 hw [] a119 bb125 (0 : Int32) (0 : Int32) T125.heap n0 Z125 F128 G125_0 G125_1 G125_2 g_a119) (tw_13 hw) (tw_14 hw) (notFace_of_selects (args := #[]) (mvT hZ (tw_16 hw))) (tw_16 hw) (tw_15 hw) (tw_4 hw) (tw_17 hw) (by decide) a119 F128 (by rw [hml]; rfl) [(.int (64 : Int32))] [] (lenOf pd_0 rfl) rfl rfl (by decide) 0 rfl (by decide) (by decide) (by decide) (dB at_68) 71 rfl (fun r129 T129 L129 X129 q129 => ?_)
  obtain ⟨rfl, Nq129, Kq129, G129_0, G129_1, G129_2⟩ := q129
  have N129 := Fr.app N125 Nq129
  have F130 : Arv Z T129.heap a104 k104 .byte (2 : Int32) [(.int v100), (.int v101)] (.int (0 : Int32)) := F126.keep Kq129 (ninS ne_a104_a119 nin0)
  have F131 : Arv Z T129.heap a109 k109 .byte (2 : Int32) [(.int v102), (.int v103)] (.int (0 : Int32)) := F127.keep Kq129 (ninS ne_a109_a119 nin0)
  have F132 : Exa Z T129.heap a119 cN_0 := F128.keep Kq129
  have F133 : Arv Z T129.heap bb125 kb125 .byte (256 : Int32) [(.int (0 : Int32)), (.int (0 : Int32)), (.int (0 : Int32)), (.int (0 : Int32))] (.int (0 : Int32)) := G125_3.keep Kq129 (ninS (Ne.symm ne_a119_bb125) nin0)
  have Z129 : n0 ≤ T129.heap.size := Nat.le_trans Z125 Kq129.1
  have K129 : Keep h0 T129.heap [] := K125.trans Kq129 (allS (Or.inr s_a119) all0)
  dsimp only [Option.toList_some, Option.toList_none, List.cons_append, List.nil_append]
  refine w_aload X129 hx (.ref a119) (dB at_71) 73 rfl rfl rfl ?_
  refine w_aload X129 hx (.ref a104) (dB at_73) 75 rfl rfl rfl ?_
  refine w_iconst X129 hx (dB at_75) 76 rfl (0 : Int32) (by decide) ?_
  refine w_iconst X129 hx (dB at_76) 77 rfl (2 : Int32) (by decide) ?_
  refine w_virt X129 hx hZ hown rfl (rm4n2 l Z a0 hw [] a119 a104 bb125 kb125 k104 (0 : Int32) (0 : Int32) (0 : Int32) (0 : Int32) v100 v101 T129.heap n0 Z129 F132 G129_0 G129_1 G129_2 F133 F130 g_a119 g_bb125 (by exact ne_a104_bb125)) (tw_22 hw) (tw_23 hw) (notFace_of_selects (args := #[]) (mvT hZ (tw_25 hw))) (tw_25 hw) (tw_24 hw) (tw_4 hw) (tw_26 hw) (by decide) a119 F132 (by rw [hml]; rfl) [(.ref a104), (.int (0 : Int32)), (.int (2 : Int32))] [] (lenOf pd_2 rfl) rfl rfl (by decide) 0 rfl (by decide) (by decide) (by decide) (dB at_77) 80 rfl (fun r134 T134 L134 X134 q134 => ?_)
  obtain ⟨rfl, Nq134, Kq134, G134_0, G134_1, G134_2, G134_3⟩ := q134
  have N134 := Fr.app N129 Nq134
  have F135 : Arv Z T134.heap a104 k104 .byte (2 : Int32) [(.int v100), (.int v101)] (.int (0 : Int32)) := F130.keep Kq134 (ninS ne_a104_a119 (ninS ne_a104_bb125 nin0))
  have F136 : Arv Z T134.heap a109 k109 .byte (2 : Int32) [(.int v102), (.int v103)] (.int (0 : Int32)) := F131.keep Kq134 (ninS ne_a109_a119 (ninS ne_a109_bb125 nin0))
  have F137 : Exa Z T134.heap a119 cN_0 := F132.keep Kq134
  have Z134 : n0 ≤ T134.heap.size := Nat.le_trans Z129 Kq134.1
  have K134 : Keep h0 T134.heap [] := K129.trans Kq134 (allS (Or.inr s_a119) (allS (Or.inr s_bb125) all0))
  dsimp only [Option.toList_some, Option.toList_none, List.cons_append, List.nil_append]
  refine w_aload X134 hx (.ref a119) (dB at_80) 82 rfl rfl rfl ?_
  refine w_virt X134 hx hZ hown rfl (rm6 l Z a0 hw [] a119 bb125 kb125 (2 : Int32) v100 v101 (0 : Int32) (0 : Int32) T134.heap n0 Z134 G134_0 G134_1 G134_3) (tw_35 hw) (tw_36 hw) (notFace_of_selects (args := #[]) (mvT hZ (tw_38 hw))) (tw_38 hw) (tw_37 hw) (tw_4 hw) (tw_39 hw) (by decide) a119 F137 (by rw [hml]; rfl) [] [] (lenOf pd_3 rfl) rfl rfl (by decide) 0 rfl (by decide) (by decide) (by decide) (dB at_82) 85 rfl (fun r138 T138 L138 X138 q138 => ?_)
  obtain ⟨z138, rfl, f138, Nq138, eq138⟩ := q138
  have N138 := Fr.app N134 Nq138
  try simp only [show ((2 : Int32)).toInt = 2 from by decide] at f138
  try simp only [show ((0 : Int32)).toInt = 0 from by decide] at f138
  dsimp only [Option.toList_some, Option.toList_none, List.cons_append, List.nil_append]
  refine w_iload X138 hx v100 (dB at_85) 87 rfl rfl ?_
  refine w_callS X138 hx hZ hown eq138 (rm7 l Z a0 hw [] v100 T134.heap n0 Z134 ) (tw_40 hw) (tw_41 hw) (tw_42 hw) (tw_43 hw) (by decide) (by rw [hml]; rfl) [(.int v100)] [(.int z138)] (lenOf pd_4 rfl) rfl rfl (by decide) 1 rfl (by decide) (by decide) (by decide) (dB at_87) 90 rfl (fun r139 T139 L139 X139 q139 => ?_)
  obtain ⟨z139, rfl, f139, Nq139, eq139⟩ := q139
  have N139 := Fr.app N138 Nq139
  dsimp only [Option.toList_some, Option.toList_none, List.cons_append, List.nil_append]
  refine w_icmp_ne X139 hx z138.toInt z139.toInt rfl rfl (dB at_90) 97 93 (fun c140 => ?_) (fun c140 => ?_)
  ·exfalso; omega
  ·refine w_iconst X139 hx (dB at_93) 94 rfl (1 : Int32) (by decide) ?_
   refine w_goto X139 hx (dB at_94) 98 ?_
   refine w_istore X139 hx (dB at_98) 100 rfl #[.val (.int a), .val (.int b), .val (.int d), .val (.int xe), .val (.int xc), .val (.int v100), .val (.int v101), .val (.int v102), .val (.int v103), .val (.ref a104), .val (.ref a109), .val (.int v118), .val (.ref a119), .val (.int (1 : Int32)), .unset, .unset] rfl ?_
   have s141 : v118.toInt = 0 ∨ v118.toInt = 1 ∨ v118.toInt = 2 := by omega
   rcases s141 with s141 | s141 | s141
   ·obtain rfl : v118 = (0 : Int32) := eqI (s141.trans (by decide))
    have z141 : (0 : Int32).toInt = 0 := by decide
    refine w_aload X139 hx (.ref a119) (dB at_100) 102 rfl rfl rfl ?_
    refine w_bipush X139 hx (dB at_102) 104 rfl (64 : Int32) (by decide) ?_
    refine w_virt X139 hx hZ hown eq139 (rm3 l Z a0 hw [] a119 bb125 (2 : Int32) (64 : Int32) T134.heap n0 Z134 F137 G134_0 G134_1 G134_2 g_a119) (tw_13 hw) (tw_14 hw) (notFace_of_selects (args := #[]) (mvT hZ (tw_16 hw))) (tw_16 hw) (tw_15 hw) (tw_4 hw) (tw_17 hw) (by decide) a119 F137 (by rw [hml]; rfl) [(.int (64 : Int32))] [] (lenOf pd_0 rfl) rfl rfl (by decide) 0 rfl (by decide) (by decide) (by decide) (dB at_104) 107 rfl (fun r142 T142 L142 X142 q142 => ?_)
    obtain ⟨rfl, Nq142, Kq142, G142_0, G142_1, G142_2⟩ := q142
    have N142 := Fr.app N139 Nq142
    have F143 : Arv Z T142.heap a104 k104 .byte (2 : Int32) [(.int v100), (.int v101)] (.int (0 : Int32)) := F135.keep Kq142 (ninS ne_a104_a119 nin0)
    have F144 : Arv Z T142.heap a109 k109 .byte (2 : Int32) [(.int v102), (.int v103)] (.int (0 : Int32)) := F136.keep Kq142 (ninS ne_a109_a119 nin0)
    have F145 : Exa Z T142.heap a119 cN_0 := F137.keep Kq142
    have F146 : Arv Z T142.heap bb125 kb125 .byte (256 : Int32) [(.int v100), (.int v101), (.int (0 : Int32)), (.int (0 : Int32))] (.int (0 : Int32)) := G134_3.keep Kq142 (ninS (Ne.symm ne_a119_bb125) nin0)
    have Z142 : n0 ≤ T142.heap.size := Nat.le_trans Z134 Kq142.1
    have K142 : Keep h0 T142.heap [] := K134.trans Kq142 (allS (Or.inr s_a119) all0)
    dsimp only [Option.toList_some, Option.toList_none, List.cons_append, List.nil_append]
    refine w_aload X142 hx (.ref a119) (dB at_107) 109 rfl rfl rfl ?_
    refine w_aload X142 hx (.ref a109) (dB at_109) 111 rfl rfl rfl ?_
    refine w_iconst X142 hx (dB at_111) 112 rfl (0 : Int32) (by decide) ?_
    refine w_iload X142 hx (0 : Int32) (dB at_112) 114 rfl rfl ?_
    refine w_virt X142 hx hZ hown rfl (rm4n0 l Z a0 hw [] a119 a109 bb125 kb125 k109 v100 v101 (0 : Int32) (0 : Int32) v102 v103 T142.heap n0 Z142 F145 G142_0 G142_1 G142_2 F146 F144 g_a119 g_bb125 (by exact ne_a109_bb125)) (tw_22 hw) (tw_23 hw) (notFace_of_selects (args := #[]) (mvT hZ (tw_25 hw))) (tw_25 hw) (tw_24 hw) (tw_4 hw) (tw_26 hw) (by decide) a119 F145 (by rw [hml]; rfl) [(.ref a109), (.int (0 : Int32)), (.int (0 : Int32))] [] (lenOf pd_2 rfl) rfl rfl (by decide) 0 rfl (by decide) (by decide) (by decide) (dB at_114) 117 rfl (fun r147 T147 L147 X147 q147 => ?_)
    obtain ⟨rfl, Nq147, Kq147, G147_0, G147_1, G147_2, G147_3⟩ := q147
    have N147 := Fr.app N142 Nq147
    have F148 : Arv Z T147.heap a104 k104 .byte (2 : Int32) [(.int v100), (.int v101)] (.int (0 : Int32)) := F143.keep Kq147 (ninS ne_a104_a119 (ninS ne_a104_bb125 nin0))
    have F149 : Arv Z T147.heap a109 k109 .byte (2 : Int32) [(.int v102), (.int v103)] (.int (0 : Int32)) := F144.keep Kq147 (ninS ne_a109_a119 (ninS ne_a109_bb125 nin0))
    have F150 : Exa Z T147.heap a119 cN_0 := F145.keep Kq147
    have Z147 : n0 ≤ T147.heap.size := Nat.le_trans Z142 Kq147.1
    have K147 : Keep h0 T147.heap [] := K142.trans Kq147 (allS (Or.inr s_a119) (allS (Or.inr s_bb125) all0))
    dsimp only [Option.toList_some, Option.toList_none, List.cons_append, List.nil_append]
    refine w_iload X147 hx (0 : Int32) (dB at_117) 119 rfl rfl ?_
    refine w_if_le X147 hx 0 (by decide) (dB at_119) 134 122 (fun c151 => ?_) (fun c151 => ?_)
    ·refine w_iconst X147 hx (dB at_134) 135 rfl (0 : Int32) (by decide) ?_
     refine w_istore X147 hx (dB at_135) 137 rfl #[.val (.int a), .val (.int b), .val (.int d), .val (.int xe), .val (.int xc), .val (.int v100), .val (.int v101), .val (.int v102), .val (.int v103), .val (.ref a104), .val (.ref a109), .val (.int (0 : Int32)), .val (.ref a119), .val (.int (1 : Int32)), .val (.int (0 : Int32)), .unset] rfl ?_
     refine w_aload X147 hx (.ref a119) (dB at_137) 139 rfl rfl rfl ?_
     refine w_virt X147 hx hZ hown rfl (rm6 l Z a0 hw [] a119 bb125 kb125 (0 : Int32) v100 v101 (0 : Int32) (0 : Int32) T147.heap n0 Z147 G147_0 G147_1 G147_3) (tw_35 hw) (tw_36 hw) (notFace_of_selects (args := #[]) (mvT hZ (tw_38 hw))) (tw_38 hw) (tw_37 hw) (tw_4 hw) (tw_39 hw) (by decide) a119 F150 (by rw [hml]; rfl) [] [] (lenOf pd_3 rfl) rfl rfl (by decide) 0 rfl (by decide) (by decide) (by decide) (dB at_139) 142 rfl (fun r152 T152 L152 X152 q152 => ?_)
     obtain ⟨z152, rfl, f152, Nq152, eq152⟩ := q152
     have N152 := Fr.app N147 Nq152
     try simp only [show ((0 : Int32)).toInt = 0 from by decide] at f152
     dsimp only [Option.toList_some, Option.toList_none, List.cons_append, List.nil_append]
     refine w_iload X152 hx (0 : Int32) (dB at_142) 144 rfl rfl ?_
     refine w_icmp_ne X152 hx z152.toInt 0 rfl (by decide) (dB at_144) 151 147 (fun c153 => ?_) (fun c153 => ?_)
     ·exfalso; omega
     ·refine w_iconst X152 hx (dB at_147) 148 rfl (1 : Int32) (by decide) ?_
      refine w_goto X152 hx (dB at_148) 152 ?_
      refine w_istore X152 hx (dB at_152) 154 rfl #[.val (.int a), .val (.int b), .val (.int d), .val (.int xe), .val (.int xc), .val (.int v100), .val (.int v101), .val (.int v102), .val (.int v103), .val (.ref a104), .val (.ref a109), .val (.int (0 : Int32)), .val (.ref a119), .val (.int (1 : Int32)), .val (.int (0 : Int32)), .val (.int (1 : Int32))] rfl ?_
      refine w_iload X152 hx (1 : Int32) (dB at_154) 156 rfl rfl ?_
      refine w_if_eq X152 hx 1 (by decide) (dB at_156) 168 159 (fun c154 => ?_) (fun c154 => ?_)
      ·exfalso; omega
      ·refine w_iload X152 hx (1 : Int32) (dB at_159) 161 rfl rfl ?_
       refine w_if_eq X152 hx 1 (by decide) (dB at_161) 168 164 (fun c155 => ?_) (fun c155 => ?_)
       ·exfalso; omega
       ·refine w_iconst X152 hx (dB at_164) 165 rfl (1 : Int32) (by decide) ?_
        refine w_goto X152 hx (dB at_165) 169 ?_
        refine w_retN X152 hx hlk (t := .boolean) hret (by simp) (dB at_169) (by decide) (by decide) ?_
        rw [eq152]
        exact ⟨rfl, N152⟩
    ·exfalso; omega
   ·obtain rfl : v118 = (1 : Int32) := eqI (s141.trans (by decide))
    have z141 : (1 : Int32).toInt = 1 := by decide
    refine w_aload X139 hx (.ref a119) (dB at_100) 102 rfl rfl rfl ?_
    refine w_bipush X139 hx (dB at_102) 104 rfl (64 : Int32) (by decide) ?_
    refine w_virt X139 hx hZ hown eq139 (rm3 l Z a0 hw [] a119 bb125 (2 : Int32) (64 : Int32) T134.heap n0 Z134 F137 G134_0 G134_1 G134_2 g_a119) (tw_13 hw) (tw_14 hw) (notFace_of_selects (args := #[]) (mvT hZ (tw_16 hw))) (tw_16 hw) (tw_15 hw) (tw_4 hw) (tw_17 hw) (by decide) a119 F137 (by rw [hml]; rfl) [(.int (64 : Int32))] [] (lenOf pd_0 rfl) rfl rfl (by decide) 0 rfl (by decide) (by decide) (by decide) (dB at_104) 107 rfl (fun r156 T156 L156 X156 q156 => ?_)
    obtain ⟨rfl, Nq156, Kq156, G156_0, G156_1, G156_2⟩ := q156
    have N156 := Fr.app N139 Nq156
    have F157 : Arv Z T156.heap a104 k104 .byte (2 : Int32) [(.int v100), (.int v101)] (.int (0 : Int32)) := F135.keep Kq156 (ninS ne_a104_a119 nin0)
    have F158 : Arv Z T156.heap a109 k109 .byte (2 : Int32) [(.int v102), (.int v103)] (.int (0 : Int32)) := F136.keep Kq156 (ninS ne_a109_a119 nin0)
    have F159 : Exa Z T156.heap a119 cN_0 := F137.keep Kq156
    have F160 : Arv Z T156.heap bb125 kb125 .byte (256 : Int32) [(.int v100), (.int v101), (.int (0 : Int32)), (.int (0 : Int32))] (.int (0 : Int32)) := G134_3.keep Kq156 (ninS (Ne.symm ne_a119_bb125) nin0)
    have Z156 : n0 ≤ T156.heap.size := Nat.le_trans Z134 Kq156.1
    have K156 : Keep h0 T156.heap [] := K134.trans Kq156 (allS (Or.inr s_a119) all0)
    dsimp only [Option.toList_some, Option.toList_none, List.cons_append, List.nil_append]
    refine w_aload X156 hx (.ref a119) (dB at_107) 109 rfl rfl rfl ?_
    refine w_aload X156 hx (.ref a109) (dB at_109) 111 rfl rfl rfl ?_
    refine w_iconst X156 hx (dB at_111) 112 rfl (0 : Int32) (by decide) ?_
    refine w_iload X156 hx (1 : Int32) (dB at_112) 114 rfl rfl ?_
    refine w_virt X156 hx hZ hown rfl (rm4n1 l Z a0 hw [] a119 a109 bb125 kb125 k109 v100 v101 (0 : Int32) (0 : Int32) v102 v103 T156.heap n0 Z156 F159 G156_0 G156_1 G156_2 F160 F158 g_a119 g_bb125 (by exact ne_a109_bb125)) (tw_22 hw) (tw_23 hw) (notFace_of_selects (args := #[]) (mvT hZ (tw_25 hw))) (tw_25 hw) (tw_24 hw) (tw_4 hw) (tw_26 hw) (by decide) a119 F159 (by rw [hml]; rfl) [(.ref a109), (.int (0 : Int32)), (.int (1 : Int32))] [] (lenOf pd_2 rfl) rfl rfl (by decide) 0 rfl (by decide) (by decide) (by decide) (dB at_114) 117 rfl (fun r161 T161 L161 X161 q161 => ?_)
    obtain ⟨rfl, Nq161, Kq161, G161_0, G161_1, G161_2, G161_3⟩ := q161
    have N161 := Fr.app N156 Nq161
    have F162 : Arv Z T161.heap a104 k104 .byte (2 : Int32) [(.int v100), (.int v101)] (.int (0 : Int32)) := F157.keep Kq161 (ninS ne_a104_a119 (ninS ne_a104_bb125 nin0))
    have F163 : Arv Z T161.heap a109 k109 .byte (2 : Int32) [(.int v102), (.int v103)] (.int (0 : Int32)) := F158.keep Kq161 (ninS ne_a109_a119 (ninS ne_a109_bb125 nin0))
    have F164 : Exa Z T161.heap a119 cN_0 := F159.keep Kq161
    have Z161 : n0 ≤ T161.heap.size := Nat.le_trans Z156 Kq161.1
    have K161 : Keep h0 T161.heap [] := K156.trans Kq161 (allS (Or.inr s_a119) (allS (Or.inr s_bb125) all0))
    dsimp only [Option.toList_some, Option.toList_none, List.cons_append, List.nil_append]
    refine w_iload X161 hx (1 : Int32) (dB at_117) 119 rfl rfl ?_
    refine w_if_le X161 hx 1 (by decide) (dB at_119) 134 122 (fun c165 => ?_) (fun c165 => ?_)
    ·exfalso; omega
    ·refine w_iload X161 hx v102 (dB at_122) 124 rfl rfl ?_
     refine w_callS X161 hx hZ hown rfl (rm7 l Z a0 hw [] v102 T161.heap n0 Z161 ) (tw_40 hw) (tw_41 hw) (tw_42 hw) (tw_43 hw) (by decide) (by rw [hml]; rfl) [(.int v102)] [] (lenOf pd_4 rfl) rfl rfl (by decide) 0 rfl (by decide) (by decide) (by decide) (dB at_124) 127 rfl (fun r166 T166 L166 X166 q166 => ?_)
     obtain ⟨z166, rfl, f166, Nq166, eq166⟩ := q166
     have N166 := Fr.app N161 Nq166
     dsimp only [Option.toList_some, Option.toList_none, List.cons_append, List.nil_append]
     refine w_if_eq X166 hx z166.toInt rfl (dB at_127) 134 130 (fun c167 => ?_) (fun c167 => ?_)
     ·refine w_iconst X166 hx (dB at_134) 135 rfl (0 : Int32) (by decide) ?_
      refine w_istore X166 hx (dB at_135) 137 rfl #[.val (.int a), .val (.int b), .val (.int d), .val (.int xe), .val (.int xc), .val (.int v100), .val (.int v101), .val (.int v102), .val (.int v103), .val (.ref a104), .val (.ref a109), .val (.int (1 : Int32)), .val (.ref a119), .val (.int (1 : Int32)), .val (.int (0 : Int32)), .unset] rfl ?_
      refine w_aload X166 hx (.ref a119) (dB at_137) 139 rfl rfl rfl ?_
      refine w_virt X166 hx hZ hown eq166 (rm6 l Z a0 hw [] a119 bb125 kb125 (1 : Int32) v102 v101 (0 : Int32) (0 : Int32) T161.heap n0 Z161 G161_0 G161_1 G161_3) (tw_35 hw) (tw_36 hw) (notFace_of_selects (args := #[]) (mvT hZ (tw_38 hw))) (tw_38 hw) (tw_37 hw) (tw_4 hw) (tw_39 hw) (by decide) a119 F164 (by rw [hml]; rfl) [] [] (lenOf pd_3 rfl) rfl rfl (by decide) 0 rfl (by decide) (by decide) (by decide) (dB at_139) 142 rfl (fun r168 T168 L168 X168 q168 => ?_)
      obtain ⟨z168, rfl, f168, Nq168, eq168⟩ := q168
      have N168 := Fr.app N166 Nq168
      try simp only [show ((1 : Int32)).toInt = 1 from by decide] at f168
      try simp only [show ((0 : Int32)).toInt = 0 from by decide] at f168
      dsimp only [Option.toList_some, Option.toList_none, List.cons_append, List.nil_append]
      refine w_iload X168 hx (0 : Int32) (dB at_142) 144 rfl rfl ?_
      refine w_icmp_ne X168 hx z168.toInt 0 rfl (by decide) (dB at_144) 151 147 (fun c169 => ?_) (fun c169 => ?_)
      ·exfalso; omega
      ·refine w_iconst X168 hx (dB at_147) 148 rfl (1 : Int32) (by decide) ?_
       refine w_goto X168 hx (dB at_148) 152 ?_
       refine w_istore X168 hx (dB at_152) 154 rfl #[.val (.int a), .val (.int b), .val (.int d), .val (.int xe), .val (.int xc), .val (.int v100), .val (.int v101), .val (.int v102), .val (.int v103), .val (.ref a104), .val (.ref a109), .val (.int (1 : Int32)), .val (.ref a119), .val (.int (1 : Int32)), .val (.int (0 : Int32)), .val (.int (1 : Int32))] rfl ?_
       refine w_iload X168 hx (1 : Int32) (dB at_154) 156 rfl rfl ?_
       refine w_if_eq X168 hx 1 (by decide) (dB at_156) 168 159 (fun c170 => ?_) (fun c170 => ?_)
       ·exfalso; omega
       ·refine w_iload X168 hx (1 : Int32) (dB at_159) 161 rfl rfl ?_
        refine w_if_eq X168 hx 1 (by decide) (dB at_161) 168 164 (fun c171 => ?_) (fun c171 => ?_)
        ·exfalso; omega
        ·refine w_iconst X168 hx (dB at_164) 165 rfl (1 : Int32) (by decide) ?_
         refine w_goto X168 hx (dB at_165) 169 ?_
         refine w_retN X168 hx hlk (t := .boolean) hret (by simp) (dB at_169) (by decide) (by decide) ?_
         rw [eq168]
         exact ⟨rfl, N168⟩
     ·refine w_iconst X166 hx (dB at_130) 131 rfl (1 : Int32) (by decide) ?_
      refine w_goto X166 hx (dB at_131) 135 ?_
      refine w_istore X166 hx (dB at_135) 137 rfl #[.val (.int a), .val (.int b), .val (.int d), .val (.int xe), .val (.int xc), .val (.int v100), .val (.int v101), .val (.int v102), .val (.int v103), .val (.ref a104), .val (.ref a109), .val (.int (1 : Int32)), .val (.ref a119), .val (.int (1 : Int32)), .val (.int (1 : Int32)), .unset] rfl ?_
      refine w_aload X166 hx (.ref a119) (dB at_137) 139 rfl rfl rfl ?_
      refine w_virt X166 hx hZ hown eq166 (rm6 l Z a0 hw [] a119 bb125 kb125 (1 : Int32) v102 v101 (0 : Int32) (0 : Int32) T161.heap n0 Z161 G161_0 G161_1 G161_3) (tw_35 hw) (tw_36 hw) (notFace_of_selects (args := #[]) (mvT hZ (tw_38 hw))) (tw_38 hw) (tw_37 hw) (tw_4 hw) (tw_39 hw) (by decide) a119 F164 (by rw [hml]; rfl) [] [] (lenOf pd_3 rfl) rfl rfl (by decide) 0 rfl (by decide) (by decide) (by decide) (dB at_139) 142 rfl (fun r172 T172 L172 X172 q172 => ?_)
      obtain ⟨z172, rfl, f172, Nq172, eq172⟩ := q172
      have N172 := Fr.app N166 Nq172
      try simp only [show ((1 : Int32)).toInt = 1 from by decide] at f172
      try simp only [show ((0 : Int32)).toInt = 0 from by decide] at f172
      dsimp only [Option.toList_some, Option.toList_none, List.cons_append, List.nil_append]
      refine w_iload X172 hx (1 : Int32) (dB at_142) 144 rfl rfl ?_
      refine w_icmp_ne X172 hx z172.toInt 1 rfl (by decide) (dB at_144) 151 147 (fun c173 => ?_) (fun c173 => ?_)
      ·exfalso; omega
      ·refine w_iconst X172 hx (dB at_147) 148 rfl (1 : Int32) (by decide) ?_
       refine w_goto X172 hx (dB at_148) 152 ?_
       refine w_istore X172 hx (dB at_152) 154 rfl #[.val (.int a), .val (.int b), .val (.int d), .val (.int xe), .val (.int xc), .val (.int v100), .val (.int v101), .val (.int v102), .val (.int v103), .val (.ref a104), .val (.ref a109), .val (.int (1 : Int32)), .val (.ref a119), .val (.int (1 : Int32)), .val (.int (1 : Int32)), .val (.int (1 : Int32))] rfl ?_
       refine w_iload X172 hx (1 : Int32) (dB at_154) 156 rfl rfl ?_
       refine w_if_eq X172 hx 1 (by decide) (dB at_156) 168 159 (fun c174 => ?_) (fun c174 => ?_)
       ·exfalso; omega
       ·refine w_iload X172 hx (1 : Int32) (dB at_159) 161 rfl rfl ?_
        refine w_if_eq X172 hx 1 (by decide) (dB at_161) 168 164 (fun c175 => ?_) (fun c175 => ?_)
        ·exfalso; omega
        ·refine w_iconst X172 hx (dB at_164) 165 rfl (1 : Int32) (by decide) ?_
         refine w_goto X172 hx (dB at_165) 169 ?_
         refine w_retN X172 hx hlk (t := .boolean) hret (by simp) (dB at_169) (by decide) (by decide) ?_
         rw [eq172]
         exact ⟨rfl, N172⟩
   ·obtain rfl : v118 = (2 : Int32) := eqI (s141.trans (by decide))
    have z141 : (2 : Int32).toInt = 2 := by decide
    refine w_aload X139 hx (.ref a119) (dB at_100) 102 rfl rfl rfl ?_
    refine w_bipush X139 hx (dB at_102) 104 rfl (64 : Int32) (by decide) ?_
    refine w_virt X139 hx hZ hown eq139 (rm3 l Z a0 hw [] a119 bb125 (2 : Int32) (64 : Int32) T134.heap n0 Z134 F137 G134_0 G134_1 G134_2 g_a119) (tw_13 hw) (tw_14 hw) (notFace_of_selects (args := #[]) (mvT hZ (tw_16 hw))) (tw_16 hw) (tw_15 hw) (tw_4 hw) (tw_17 hw) (by decide) a119 F137 (by rw [hml]; rfl) [(.int (64 : Int32))] [] (lenOf pd_0 rfl) rfl rfl (by decide) 0 rfl (by decide) (by decide) (by decide) (dB at_104) 107 rfl (fun r176 T176 L176 X176 q176 => ?_)
    obtain ⟨rfl, Nq176, Kq176, G176_0, G176_1, G176_2⟩ := q176
    have N176 := Fr.app N139 Nq176
    have F177 : Arv Z T176.heap a104 k104 .byte (2 : Int32) [(.int v100), (.int v101)] (.int (0 : Int32)) := F135.keep Kq176 (ninS ne_a104_a119 nin0)
    have F178 : Arv Z T176.heap a109 k109 .byte (2 : Int32) [(.int v102), (.int v103)] (.int (0 : Int32)) := F136.keep Kq176 (ninS ne_a109_a119 nin0)
    have F179 : Exa Z T176.heap a119 cN_0 := F137.keep Kq176
    have F180 : Arv Z T176.heap bb125 kb125 .byte (256 : Int32) [(.int v100), (.int v101), (.int (0 : Int32)), (.int (0 : Int32))] (.int (0 : Int32)) := G134_3.keep Kq176 (ninS (Ne.symm ne_a119_bb125) nin0)
    have Z176 : n0 ≤ T176.heap.size := Nat.le_trans Z134 Kq176.1
    have K176 : Keep h0 T176.heap [] := K134.trans Kq176 (allS (Or.inr s_a119) all0)
    dsimp only [Option.toList_some, Option.toList_none, List.cons_append, List.nil_append]
    refine w_aload X176 hx (.ref a119) (dB at_107) 109 rfl rfl rfl ?_
    refine w_aload X176 hx (.ref a109) (dB at_109) 111 rfl rfl rfl ?_
    refine w_iconst X176 hx (dB at_111) 112 rfl (0 : Int32) (by decide) ?_
    refine w_iload X176 hx (2 : Int32) (dB at_112) 114 rfl rfl ?_
    refine w_virt X176 hx hZ hown rfl (rm4n2 l Z a0 hw [] a119 a109 bb125 kb125 k109 v100 v101 (0 : Int32) (0 : Int32) v102 v103 T176.heap n0 Z176 F179 G176_0 G176_1 G176_2 F180 F178 g_a119 g_bb125 (by exact ne_a109_bb125)) (tw_22 hw) (tw_23 hw) (notFace_of_selects (args := #[]) (mvT hZ (tw_25 hw))) (tw_25 hw) (tw_24 hw) (tw_4 hw) (tw_26 hw) (by decide) a119 F179 (by rw [hml]; rfl) [(.ref a109), (.int (0 : Int32)), (.int (2 : Int32))] [] (lenOf pd_2 rfl) rfl rfl (by decide) 0 rfl (by decide) (by decide) (by decide) (dB at_114) 117 rfl (fun r181 T181 L181 X181 q181 => ?_)
    obtain ⟨rfl, Nq181, Kq181, G181_0, G181_1, G181_2, G181_3⟩ := q181
    have N181 := Fr.app N176 Nq181
    have F182 : Arv Z T181.heap a104 k104 .byte (2 : Int32) [(.int v100), (.int v101)] (.int (0 : Int32)) := F177.keep Kq181 (ninS ne_a104_a119 (ninS ne_a104_bb125 nin0))
    have F183 : Arv Z T181.heap a109 k109 .byte (2 : Int32) [(.int v102), (.int v103)] (.int (0 : Int32)) := F178.keep Kq181 (ninS ne_a109_a119 (ninS ne_a109_bb125 nin0))
    have F184 : Exa Z T181.heap a119 cN_0 := F179.keep Kq181
    have Z181 : n0 ≤ T181.heap.size := Nat.le_trans Z176 Kq181.1
    have K181 : Keep h0 T181.heap [] := K176.trans Kq181 (allS (Or.inr s_a119) (allS (Or.inr s_bb125) all0))
    dsimp only [Option.toList_some, Option.toList_none, List.cons_append, List.nil_append]
    refine w_iload X181 hx (2 : Int32) (dB at_117) 119 rfl rfl ?_
    refine w_if_le X181 hx 2 (by decide) (dB at_119) 134 122 (fun c185 => ?_) (fun c185 => ?_)
    ·exfalso; omega
    ·refine w_iload X181 hx v102 (dB at_122) 124 rfl rfl ?_
     refine w_callS X181 hx hZ hown rfl (rm7 l Z a0 hw [] v102 T181.heap n0 Z181 ) (tw_40 hw) (tw_41 hw) (tw_42 hw) (tw_43 hw) (by decide) (by rw [hml]; rfl) [(.int v102)] [] (lenOf pd_4 rfl) rfl rfl (by decide) 0 rfl (by decide) (by decide) (by decide) (dB at_124) 127 rfl (fun r186 T186 L186 X186 q186 => ?_)
     obtain ⟨z186, rfl, f186, Nq186, eq186⟩ := q186
     have N186 := Fr.app N181 Nq186
     dsimp only [Option.toList_some, Option.toList_none, List.cons_append, List.nil_append]
     refine w_if_eq X186 hx z186.toInt rfl (dB at_127) 134 130 (fun c187 => ?_) (fun c187 => ?_)
     ·refine w_iconst X186 hx (dB at_134) 135 rfl (0 : Int32) (by decide) ?_
      refine w_istore X186 hx (dB at_135) 137 rfl #[.val (.int a), .val (.int b), .val (.int d), .val (.int xe), .val (.int xc), .val (.int v100), .val (.int v101), .val (.int v102), .val (.int v103), .val (.ref a104), .val (.ref a109), .val (.int (2 : Int32)), .val (.ref a119), .val (.int (1 : Int32)), .val (.int (0 : Int32)), .unset] rfl ?_
      refine w_aload X186 hx (.ref a119) (dB at_137) 139 rfl rfl rfl ?_
      refine w_virt X186 hx hZ hown eq186 (rm6 l Z a0 hw [] a119 bb125 kb125 (2 : Int32) v102 v103 (0 : Int32) (0 : Int32) T181.heap n0 Z181 G181_0 G181_1 G181_3) (tw_35 hw) (tw_36 hw) (notFace_of_selects (args := #[]) (mvT hZ (tw_38 hw))) (tw_38 hw) (tw_37 hw) (tw_4 hw) (tw_39 hw) (by decide) a119 F184 (by rw [hml]; rfl) [] [] (lenOf pd_3 rfl) rfl rfl (by decide) 0 rfl (by decide) (by decide) (by decide) (dB at_139) 142 rfl (fun r188 T188 L188 X188 q188 => ?_)
      obtain ⟨z188, rfl, f188, Nq188, eq188⟩ := q188
      have N188 := Fr.app N186 Nq188
      try simp only [show ((2 : Int32)).toInt = 2 from by decide] at f188
      try simp only [show ((0 : Int32)).toInt = 0 from by decide] at f188
      dsimp only [Option.toList_some, Option.toList_none, List.cons_append, List.nil_append]
      refine w_iload X188 hx (0 : Int32) (dB at_142) 144 rfl rfl ?_
      refine w_icmp_ne X188 hx z188.toInt 0 rfl (by decide) (dB at_144) 151 147 (fun c189 => ?_) (fun c189 => ?_)
      ·exfalso; omega
      ·refine w_iconst X188 hx (dB at_147) 148 rfl (1 : Int32) (by decide) ?_
       refine w_goto X188 hx (dB at_148) 152 ?_
       refine w_istore X188 hx (dB at_152) 154 rfl #[.val (.int a), .val (.int b), .val (.int d), .val (.int xe), .val (.int xc), .val (.int v100), .val (.int v101), .val (.int v102), .val (.int v103), .val (.ref a104), .val (.ref a109), .val (.int (2 : Int32)), .val (.ref a119), .val (.int (1 : Int32)), .val (.int (0 : Int32)), .val (.int (1 : Int32))] rfl ?_
       refine w_iload X188 hx (1 : Int32) (dB at_154) 156 rfl rfl ?_
       refine w_if_eq X188 hx 1 (by decide) (dB at_156) 168 159 (fun c190 => ?_) (fun c190 => ?_)
       ·exfalso; omega
       ·refine w_iload X188 hx (1 : Int32) (dB at_159) 161 rfl rfl ?_
        refine w_if_eq X188 hx 1 (by decide) (dB at_161) 168 164 (fun c191 => ?_) (fun c191 => ?_)
        ·exfalso; omega
        ·refine w_iconst X188 hx (dB at_164) 165 rfl (1 : Int32) (by decide) ?_
         refine w_goto X188 hx (dB at_165) 169 ?_
         refine w_retN X188 hx hlk (t := .boolean) hret (by simp) (dB at_169) (by decide) (by decide) ?_
         rw [eq188]
         exact ⟨rfl, N188⟩
     ·refine w_iconst X186 hx (dB at_130) 131 rfl (1 : Int32) (by decide) ?_
      refine w_goto X186 hx (dB at_131) 135 ?_
      refine w_istore X186 hx (dB at_135) 137 rfl #[.val (.int a), .val (.int b), .val (.int d), .val (.int xe), .val (.int xc), .val (.int v100), .val (.int v101), .val (.int v102), .val (.int v103), .val (.ref a104), .val (.ref a109), .val (.int (2 : Int32)), .val (.ref a119), .val (.int (1 : Int32)), .val (.int (1 : Int32)), .unset] rfl ?_
      refine w_aload X186 hx (.ref a119) (dB at_137) 139 rfl rfl rfl ?_
      refine w_virt X186 hx hZ hown eq186 (rm6 l Z a0 hw [] a119 bb125 kb125 (2 : Int32) v102 v103 (0 : Int32) (0 : Int32) T181.heap n0 Z181 G181_0 G181_1 G181_3) (tw_35 hw) (tw_36 hw) (notFace_of_selects (args := #[]) (mvT hZ (tw_38 hw))) (tw_38 hw) (tw_37 hw) (tw_4 hw) (tw_39 hw) (by decide) a119 F184 (by rw [hml]; rfl) [] [] (lenOf pd_3 rfl) rfl rfl (by decide) 0 rfl (by decide) (by decide) (by decide) (dB at_139) 142 rfl (fun r192 T192 L192 X192 q192 => ?_)
      obtain ⟨z192, rfl, f192, Nq192, eq192⟩ := q192
      have N192 := Fr.app N186 Nq192
      try simp only [show ((2 : Int32)).toInt = 2 from by decide] at f192
      try simp only [show ((0 : Int32)).toInt = 0 from by decide] at f192
      dsimp only [Option.toList_some, Option.toList_none, List.cons_append, List.nil_append]
      refine w_iload X192 hx (1 : Int32) (dB at_142) 144 rfl rfl ?_
      refine w_icmp_ne X192 hx z192.toInt 1 rfl (by decide) (dB at_144) 151 147 (fun c193 => ?_) (fun c193 => ?_)
      ·exfalso; omega
      ·refine w_iconst X192 hx (dB at_147) 148 rfl (1 : Int32) (by decide) ?_
       refine w_goto X192 hx (dB at_148) 152 ?_
       refine w_istore X192 hx (dB at_152) 154 rfl #[.val (.int a), .val (.int b), .val (.int d), .val (.int xe), .val (.int xc), .val (.int v100), .val (.int v101), .val (.int v102), .val (.int v103), .val (.ref a104), .val (.ref a109), .val (.int (2 : Int32)), .val (.ref a119), .val (.int (1 : Int32)), .val (.int (1 : Int32)), .val (.int (1 : Int32))] rfl ?_
       refine w_iload X192 hx (1 : Int32) (dB at_154) 156 rfl rfl ?_
       refine w_if_eq X192 hx 1 (by decide) (dB at_156) 168 159 (fun c194 => ?_) (fun c194 => ?_)
       ·exfalso; omega
       ·refine w_iload X192 hx (1 : Int32) (dB at_159) 161 rfl rfl ?_
        refine w_if_eq X192 hx 1 (by decide) (dB at_161) 168 164 (fun c195 => ?_) (fun c195 => ?_)
        ·exfalso; omega
        ·refine w_iconst X192 hx (dB at_164) 165 rfl (1 : Int32) (by decide) ?_
         refine w_goto X192 hx (dB at_165) 169 ?_
         refine w_retN X192 hx hlk (t := .boolean) hret (by simp) (dB at_169) (by decide) (by decide) ?_
         rw [eq192]
         exact ⟨rfl, N192⟩
set_option maxRecDepth 65536 in
set_option maxHeartbeats 40000000 in
theorem comes_1 {Post : Tables → Env → Array Value → State → Outcome → State → Prop} (hpost : ∀ tb e args s v u, (limb_1_1.after args s (.returned v) u = true ∧ limb_1_2.after args s (.returned v) u = true ∧ True) → FrameEnd s (.returned v) u (Jvm.fieldLocs frame_1_writes args s ++ Jvm.arrayLocs frame_1_arrays args s ++ Jvm.staticLocs frame_1_statics s) 16 640 → Post tb e args s (.returned v) u) :
    ArmFor flags0 classFile x code maxLocals ret World_1 tables_1 room_1 Calls_1 rest_1 Pre_1 Post := by
  intro l hfl _ _ p e ha hc hk s m args below hf hA hF happ hP
  obtain ⟨hcalls, hrest, hpre⟩ := hP
  obtain ⟨-, -, -, hnamed, -, -, -, hat⟩ := (Spec.applies_iff hf).mp happ
  obtain ⟨hg, hn⟩ := and_e (Cond.before_iff.mp (show (Jvm.Cond.and given_1 narrow_1).before args s = true from hpre))
  obtain ⟨gg1, gg2⟩ := and_e hg
  obtain ⟨gg3, gg4⟩ := and_e gg2
  obtain ⟨gg5, gg6⟩ := and_e gg4
  obtain ⟨gg7, gg8⟩ := and_e gg6
  obtain ⟨gg9, gg10⟩ := and_e gg8
  obtain ⟨w0, w1, w2, w3, w4, rfl⟩ : ∃ w0 w1 w2 w3 w4 : Value, args = #[w0, w1, w2, w3, w4] := by
    have hs : args.size = 5 := by simpa [Cond.value, given_1] using gg1
    obtain ⟨L⟩ := args
    match L, hs with
    | [w0, w1, w2, w3, w4], _ => exact ⟨w0, w1, w2, w3, w4, rfl⟩
  have hw := fun d (hd : d ∈ tables_1) => atoms_spec (ws := Jvm.Cond.code x code maxLocals ret :: tables_1) hat d (List.mem_cons_of_mem _ hd)
  have hfit : Fit s := fun {y c} hc i hi => by
    obtain ⟨ha, rfl⟩ := Array.getElem?_eq_some_iff.mp hc
    have q := List.all_eq_true.mp ((Array.all_eq_true_iff_forall_mem.mp hF) _ (Array.getElem_mem ha)) i (List.mem_range.mpr hi)
    simpa [Array.getElem?_eq_getElem hi] using q
  obtain ⟨i0, ei0⟩ := is_v gg3
  obtain rfl : w0 = (.int i0) := Option.some.inj ei0
  obtain ⟨i1, ei1⟩ := is_v gg5
  obtain rfl : w1 = (.int i1) := Option.some.inj ei1
  obtain ⟨i2, ei2⟩ := is_v gg7
  obtain rfl : w2 = (.int i2) := Option.some.inj ei2
  obtain ⟨i3, ei3⟩ := is_v gg9
  obtain rfl : w3 = (.int i3) := Option.some.inj ei3
  obtain ⟨i4, ei4⟩ := is_v gg10
  obtain rfl : w4 = (.int i4) := Option.some.inj ei4
  obtain ⟨n, o, h1, h2, h3, _, L, rfl, ⟨rfl, N⟩, hq⟩ := rm0 l s _ hw tables_1 i0 i1 i2 i3 i4 s.heap s.heap.size (Nat.le_refl _) p e ha hc hk s m _ below hf ((Spec.applies_iff_loose hf).mp happ).1 ⟨rfl, State.Warmed39.refl s, rfl⟩ trivial
  refine ⟨n, _, h1, h2, h3, hpost _ _ _ _ _ _ ⟨Cond.after_iff.mpr rfl, Cond.after_iff.mpr (eq_i res_at (Term.int_eval (1)) rfl), trivial⟩ ⟨hq.1, hq.2.1, (hq.2.2.sift fun y hy => Or.inr (N y hy)).mono (by decide) (by decide)⟩⟩
theorem main_1_1 : Claimed_1_1 := comes_1 fun _ _ _ _ _ _ h hF => ⟨h.1, hF⟩
theorem main_1_2 : Claimed_1_2 := comes_1 fun _ _ _ _ _ _ h hF => ⟨h.2.1, hF⟩
end Jvm.Pilot.@@N@@
namespace Jvm.Pilot.@@N@@
open Jvm Jvm.ClassFile Sem Op Lib Jvm.Free Jvm.Stand Jvm.Pilot.@@N@@.Jvm.D
/-! MADE BY PROGRAM (witnessworld.py) out of the Statement's table words and the real class files: 10 classes; the members and pool entries that the words name. The judged class is class 1, her method 2. -/
namespace start1
open Jvm.ClassFile
def u (s : String) : CpInfo := .utf8 (stringToUtf16 s)
/-- a pool by its gaps: so many unusable entries, then the entry; so many at the end -/
def gap : Nat → List CpInfo → List CpInfo
  | 0, r => r
  | n + 1, r => .unusable :: gap n r
def poolList (es : List (Nat × CpInfo)) (last : Nat) : List CpInfo := es.foldr (fun e r => gap e.1 (e.2 :: r)) (gap last [])
def pool (es : List (Nat × CpInfo)) (last : Nat) : Array CpInfo := ⟨poolList es last⟩
def fileOf (pool : Array CpInfo) (this : Nat) (attrs : Array Attribute := #[]) (ms : Array MethodInfo := #[]) (fl : Nat := 33) (sup : Nat := 0) (ifs : Array Nat := #[]) (fds : Array FieldInfo := #[]) : ClassFile where
  minorVersion := 0
  majorVersion := 65
  constantPool := pool
  accessFlags := fl
  thisClass := this
  superClass := sup
  interfaces := ifs
  fields := fds
  methods := ms
  attributes := attrs
def plain (name : String) (sup : Option ClassId) : Class where
  name := name
  kind := .ordinary
  loader := none
  accessFlags := 33
  super := sup
  interfaces := #[]
  cf := none
  fields := #[]
  methods := #[]
  instanceTypes := #[]
  staticTypes := #[]
  resolved := #[]
  callSites := []
  init := .initialized
  statics := none
  mirror := none

def pool0 : Array CpInfo := pool [(5, u "<init>"), (0, u "()V"), (1, .class_ 10), (1, u "java/lang/Object")] 113

def k0c0 : Code := { maxStack := 0, maxLocals := 1, code := object_method_1_code, exceptionTable := #[], attributes := #[] }
def k0m0 : Method := { name := "<init>", desc := "()V", sig := { parameters := [], returnType := none }, accessFlags := 1, code := some k0c0 }
/-- java/lang/Object -/
def k0 : Class := { plain "java/lang/Object" none with
  accessFlags := 33
  interfaces := #[]
  cf := some (fileOf pool0 8 #[] #[{ accessFlags := 1, nameIndex := 5, descriptorIndex := 6, attributes := #[] }] 33 0 #[] #[])
  fields := #[]
  methods := #[k0m0]
  instanceTypes := #[]
  staticTypes := #[]
  resolved := Array.replicate 124 none
  statics := none }

def pool1 : Array CpInfo := pool [(2, .class_ 4), (0, .nameAndType 5 6), (0, u "java/lang/Object"), (0, u "<init>"), (0, u "()V"), (0, .integer 2147483647), (0, .class_ 9), (0, u "com/example/scrinium/scrinium/io/HeaderLine"), (0, .methodref 8 3), (0, .methodref 8 12), (0, .nameAndType 13 14), (0, u "clear"), (0, u "(I)V"), (0, .methodref 8 16), (0, .nameAndType 17 18), (0, u "append"), (0, u "([BII)V"), (0, .methodref 8 20), (0, .nameAndType 21 22), (0, u "continuesField"), (0, u "()Z"), (0, .methodref 24 25), (0, .class_ 26), (0, .nameAndType 27 28), (0, u "com/example/scrinium/scrinium/io/HeaderLineContinuesFieldPinLaw"), (0, u "blank"), (0, u "(B)Z"), (3, u "law"), (0, u "(IIIII)Z")] 7

def k1m0 : Method := { name := "<init>", desc := "()V", sig := { parameters := [], returnType := none }, accessFlags := 2, code := none }
def k1c1 : Code := { maxStack := 2, maxLocals := 1, code := method_2_code, exceptionTable := #[], attributes := #[] }
def k1m1 : Method := { name := "blank", desc := "(B)Z", sig := { parameters := [.byte], returnType := some .boolean }, accessFlags := 10, code := some k1c1 }
def k1c2 : Code := { maxStack := 4, maxLocals := 16, code := code, exceptionTable := #[], attributes := #[] }
def k1m2 : Method := { name := "law", desc := "(IIIII)Z", sig := { parameters := [.int, .int, .int, .int, .int], returnType := some .boolean }, accessFlags := 9, code := some k1c2 }
/-- com/example/scrinium/scrinium/io/HeaderLineContinuesFieldPinLaw -/
def k1 : Class := { plain "com/example/scrinium/scrinium/io/HeaderLineContinuesFieldPinLaw" (some 0) with
  accessFlags := 49
  interfaces := #[]
  cf := some (fileOf pool1 24 #[] #[{ accessFlags := 2, nameIndex := 5, descriptorIndex := 6, attributes := #[] }, { accessFlags := 10, nameIndex := 27, descriptorIndex := 28, attributes := #[] }, { accessFlags := 9, nameIndex := 32, descriptorIndex := 33, attributes := #[] }] 49 2 #[] #[])
  fields := #[]
  methods := #[k1m0, k1m1, k1m2]
  instanceTypes := #[]
  staticTypes := #[]
  resolved := Array.replicate 41 none
  statics := none }

def pool2 : Array CpInfo := pool [(1, .methodref 2 3), (0, .class_ 4), (0, .nameAndType 5 6), (0, u "java/lang/Object"), (0, u "<init>"), (0, u "()V"), (0, .fieldref 8 9), (0, .class_ 10), (0, .nameAndType 11 12), (0, u "com/example/scrinium/scrinium/io/HeaderLine"), (0, u "bytes"), (0, u "[B"), (0, .fieldref 8 14), (0, .nameAndType 15 16), (0, u "length"), (0, u "I"), (0, .fieldref 8 18), (0, .nameAndType 19 16), (0, u "longest"), (0, .methodref 8 21), (0, .nameAndType 22 23), (0, u "makeRoom"), (0, u "(I)V"), (0, .methodref 25 26), (0, .class_ 27), (0, .nameAndType 28 29), (0, u "java/lang/System"), (0, u "arraycopy"), (0, u "(Ljava/lang/Object;ILjava/lang/Object;II)V"), (2, u "clear"), (37, u "append"), (0, u "([BII)V"), (6, u "continuesField"), (0, u "()Z")] 21

def k2c0 : Code := { maxStack := 2, maxLocals := 1, code := prog_51_method_1_code, exceptionTable := #[], attributes := #[] }
def k2m0 : Method := { name := "<init>", desc := "()V", sig := { parameters := [], returnType := none }, accessFlags := 0, code := some k2c0 }
def k2c1 : Code := { maxStack := 2, maxLocals := 2, code := prog_51_method_2_code, exceptionTable := #[], attributes := #[] }
def k2m1 : Method := { name := "clear", desc := "(I)V", sig := { parameters := [.int], returnType := none }, accessFlags := 0, code := some k2c1 }
def k2c2 : Code := { maxStack := 5, maxLocals := 4, code := prog_51_method_3_code, exceptionTable := #[], attributes := #[] }
def k2m2 : Method := { name := "append", desc := "([BII)V", sig := { parameters := [(.array .byte), .int, .int], returnType := none }, accessFlags := 0, code := some k2c2 }
def k2c3 : Code := { maxStack := 2, maxLocals := 1, code := prog_51_method_7_code, exceptionTable := #[], attributes := #[] }
def k2m3 : Method := { name := "continuesField", desc := "()Z", sig := { parameters := [], returnType := some .boolean }, accessFlags := 0, code := some k2c3 }
def k2c4 : Code := { maxStack := 5, maxLocals := 2, code := prog_51_method_10_code, exceptionTable := #[], attributes := #[] }
def k2m4 : Method := { name := "makeRoom", desc := "(I)V", sig := { parameters := [.int], returnType := none }, accessFlags := 2, code := some k2c4 }
/-- com/example/scrinium/scrinium/io/HeaderLine -/
def k2 : Class := { plain "com/example/scrinium/scrinium/io/HeaderLine" (some 0) with
  accessFlags := 32
  interfaces := #[]
  cf := some (fileOf pool2 8 #[] #[{ accessFlags := 0, nameIndex := 5, descriptorIndex := 6, attributes := #[] }, { accessFlags := 0, nameIndex := 32, descriptorIndex := 23, attributes := #[] }, { accessFlags := 0, nameIndex := 70, descriptorIndex := 71, attributes := #[] }, { accessFlags := 0, nameIndex := 78, descriptorIndex := 79, attributes := #[] }, { accessFlags := 2, nameIndex := 22, descriptorIndex := 23, attributes := #[] }] 32 2 #[] #[{ accessFlags := 2, nameIndex := 11, descriptorIndex := 12, attributes := #[] }, { accessFlags := 2, nameIndex := 15, descriptorIndex := 16, attributes := #[] }, { accessFlags := 2, nameIndex := 19, descriptorIndex := 16, attributes := #[] }])
  fields := #[{ name := "bytes", type := (.array .byte), accessFlags := 2, slot := 0, constantValue := 0 }, { name := "length", type := .int, accessFlags := 2, slot := 1, constantValue := 0 }, { name := "longest", type := .int, accessFlags := 2, slot := 2, constantValue := 0 }]
  methods := #[k2m0, k2m1, k2m2, k2m3, k2m4]
  instanceTypes := #[(.array .byte), .int, .int]
  staticTypes := #[]
  resolved := Array.replicate 101 none
  statics := none }

def pool3 : Array CpInfo := pool [(2, .class_ 4), (1, u "java/lang/Object"), (0, u "<init>"), (0, u "()V"), (1, .class_ 10), (1, u "java/lang/System"), (0, u "allowSecurityManager"), (0, u "I"), (16, u "cons"), (0, u "Ljava/io/Console;"), (77, .class_ 110), (1, u "java/lang/System$CallersHolder"), (43, u "initialErrStream"), (0, u "Ljava/io/PrintStream;"), (19, u "security"), (0, u "Ljava/lang/SecurityManager;"), (31, .class_ 209), (0, u "java/lang/System$1"), (7, u "props"), (0, u "Ljava/util/Properties;"), (2, u "lineSeparator"), (0, u "Ljava/lang/String;"), (96, .class_ 321), (1, u "java/lang/System$LoggerFinder"), (5, .class_ 328), (0, u "java/lang/System$Logger"), (67, u "err"), (2, u "out"), (91, u "notSupportedJnuEncoding"), (15, u "in"), (17, u "initialIn"), (0, u "Ljava/io/InputStream;"), (35, u "bootLayer"), (0, u "Ljava/lang/ModuleLayer;"), (99, .class_ 664), (0, u "java/lang/System$2"), (9, u "NEVER"), (2, u "MAYBE"), (49, u "arraycopy"), (0, u "(Ljava/lang/Object;ILjava/lang/Object;II)V"), (72, .class_ 802), (0, u "java/lang/System$Logger$Level")] 31

def k3m0 : Method := { name := "<init>", desc := "()V", sig := { parameters := [], returnType := none }, accessFlags := 2, code := none }
def k3m1 : Method := { name := "arraycopy", desc := "(Ljava/lang/Object;ILjava/lang/Object;II)V", sig := { parameters := [(.object "java/lang/Object"), .int, (.object "java/lang/Object"), .int, .int], returnType := none }, accessFlags := 265, code := none }
/-- java/lang/System -/
def k3 : Class := { plain "java/lang/System" (some 0) with
  accessFlags := 49
  interfaces := #[]
  cf := some (fileOf pool3 8 #[.nestMembers #[319, 327, 801, 108, 663, 208]] #[{ accessFlags := 2, nameIndex := 5, descriptorIndex := 6, attributes := #[] }, { accessFlags := 265, nameIndex := 727, descriptorIndex := 728, attributes := #[] }] 49 2 #[] #[{ accessFlags := 25, nameIndex := 507, descriptorIndex := 526, attributes := #[] }, { accessFlags := 25, nameIndex := 399, descriptorIndex := 155, attributes := #[] }, { accessFlags := 25, nameIndex := 396, descriptorIndex := 155, attributes := #[] }, { accessFlags := 10, nameIndex := 525, descriptorIndex := 526, attributes := #[] }, { accessFlags := 26, nameIndex := 674, descriptorIndex := 12, attributes := #[] }, { accessFlags := 26, nameIndex := 677, descriptorIndex := 12, attributes := #[] }, { accessFlags := 10, nameIndex := 11, descriptorIndex := 12, attributes := #[] }, { accessFlags := 74, nameIndex := 175, descriptorIndex := 176, attributes := #[] }, { accessFlags := 10, nameIndex := 491, descriptorIndex := 222, attributes := #[] }, { accessFlags := 74, nameIndex := 29, descriptorIndex := 30, attributes := #[] }, { accessFlags := 74, nameIndex := 154, descriptorIndex := 155, attributes := #[] }, { accessFlags := 10, nameIndex := 217, descriptorIndex := 218, attributes := #[] }, { accessFlags := 10, nameIndex := 221, descriptorIndex := 222, attributes := #[] }, { accessFlags := 8, nameIndex := 562, descriptorIndex := 563, attributes := #[] }])
  fields := #[{ name := "in", type := (.object "java/io/InputStream"), accessFlags := 25, slot := 0, constantValue := 0 }, { name := "out", type := (.object "java/io/PrintStream"), accessFlags := 25, slot := 1, constantValue := 0 }, { name := "err", type := (.object "java/io/PrintStream"), accessFlags := 25, slot := 2, constantValue := 0 }, { name := "initialIn", type := (.object "java/io/InputStream"), accessFlags := 10, slot := 3, constantValue := 0 }, { name := "NEVER", type := .int, accessFlags := 26, slot := 4, constantValue := 0 }, { name := "MAYBE", type := .int, accessFlags := 26, slot := 5, constantValue := 0 }, { name := "allowSecurityManager", type := .int, accessFlags := 10, slot := 6, constantValue := 0 }, { name := "security", type := (.object "java/lang/SecurityManager"), accessFlags := 74, slot := 7, constantValue := 0 }, { name := "notSupportedJnuEncoding", type := (.object "java/lang/String"), accessFlags := 10, slot := 8, constantValue := 0 }, { name := "cons", type := (.object "java/io/Console"), accessFlags := 74, slot := 9, constantValue := 0 }, { name := "initialErrStream", type := (.object "java/io/PrintStream"), accessFlags := 74, slot := 10, constantValue := 0 }, { name := "props", type := (.object "java/util/Properties"), accessFlags := 10, slot := 11, constantValue := 0 }, { name := "lineSeparator", type := (.object "java/lang/String"), accessFlags := 10, slot := 12, constantValue := 0 }, { name := "bootLayer", type := (.object "java/lang/ModuleLayer"), accessFlags := 8, slot := 13, constantValue := 0 }]
  methods := #[k3m0, k3m1]
  instanceTypes := #[]
  staticTypes := #[(.object "java/io/InputStream"), (.object "java/io/PrintStream"), (.object "java/io/PrintStream"), (.object "java/io/InputStream"), .int, .int, .int, (.object "java/lang/SecurityManager"), (.object "java/lang/String"), (.object "java/io/Console"), (.object "java/io/PrintStream"), (.object "java/util/Properties"), (.object "java/lang/String"), (.object "java/lang/ModuleLayer")]
  resolved := Array.replicate 834 none
  statics := none }

def pool4 : Array CpInfo := pool [(1, u "java/lang/Cloneable"), (0, .class_ 1), (0, u "java/lang/Object"), (0, .class_ 3)] 3

/-- java/lang/Cloneable -/
def k4 : Class := { plain "java/lang/Cloneable" (some 0) with
  accessFlags := 1537
  interfaces := #[]
  cf := some (fileOf pool4 2 #[] #[] 1537 4 #[] #[])
  fields := #[]
  methods := #[]
  instanceTypes := #[]
  staticTypes := #[]
  resolved := Array.replicate 8 none
  statics := none }

def pool5 : Array CpInfo := pool [(1, u "java/io/Serializable"), (0, .class_ 1), (0, u "java/lang/Object"), (0, .class_ 3)] 3

/-- java/io/Serializable -/
def k5 : Class := { plain "java/io/Serializable" (some 0) with
  accessFlags := 1537
  interfaces := #[]
  cf := some (fileOf pool5 2 #[] #[] 1537 4 #[] #[])
  fields := #[]
  methods := #[]
  instanceTypes := #[]
  staticTypes := #[]
  resolved := Array.replicate 8 none
  statics := none }

/-- the primitive byte -/
def k6 : Class := { plain "byte" none with kind := .primitive 'B', accessFlags := 0x411 }
/-- [B -/
def k7 : Class := { plain "[B" (some 0) with kind := .array 6 .byte, interfaces := #[4, 5], accessFlags := 1041 }

/-- the primitive int -/
def k8 : Class := { plain "int" none with kind := .primitive 'I', accessFlags := 0x411 }
/-- [I -/
def k9 : Class := { plain "[I" (some 0) with kind := .array 8 .int, interfaces := #[4, 5], accessFlags := 1041 }

def heap : Heap := #[]
def classes : Array Class := #[k0, k1, k2, k3, k4, k5, k6, k7, k8, k9]
def interned : List (Array UInt16 × Addr) := []
def slotsUsed : Nat := 0
def theMethod : MethodId := ⟨1, 2⟩
def args0 : Array Value := #[.int 5, .int 7, .int 1, .int 2, .int 3]
def aboutOver (below : List Frame) : State where
  vm := { classes := classes, interned := interned.toArray }
  heap := heap
  slotsUsed := slotsUsed
  threads := #[{ frames := .invoking theMethod args0 :: below }]
def below0 : List Frame := [.native { method := ⟨0, 0⟩, args := #[] }]
def about1 : State := aboutOver below0
def p0 : Program := .bare "" "" ""
def e0 : Env := launch0.env 0 0 0
theorem w_frames : about1.frames = Frame.invoking theMethod args0 :: below0 := rfl
set_option maxRecDepth 65536 in
theorem w_args : argsFit about1.vm theMethod args0 = true := by decide +kernel
set_option maxRecDepth 65536 in
theorem w_heap : heapFits about1 = true := by decide +kernel
set_option maxRecDepth 65536 in
theorem w_runnable : about1.curStatus? = some .runnable := by decide +kernel
set_option maxRecDepth 65536 in
theorem w_alone : about1.alone = true := by decide +kernel
set_option maxRecDepth 65536 in
theorem w_named : about1.methodNamed? x = some theMethod := by decide +kernel
set_option maxRecDepth 65536 in
theorem w_hears : about1.hears theMethod below0 = true := by decide +kernel
set_option maxRecDepth 65536 in
theorem w_ripe : about1.ripe theMethod args0 below0 = true := by decide +kernel
theorem w_running : about1.status = .running := rfl
set_option maxRecDepth 65536 in
theorem w_room : about1.hasRoom e0.platform room_1 = true :=
  launch0.hasRoom_least _ room_1 (by decide +kernel) (by decide +kernel) (by decide +kernel) (by decide +kernel) (by decide +kernel) (by decide +kernel)
theorem allAtoms_all (ts : List Jvm.Cond) (a : Array Jvm.Value) (st : Jvm.State) : (allAtoms ts).before a st = ts.all (fun c => c.before a st) := by
  induction ts with
  | nil => rfl
  | cons c t ih =>
    show (Jvm.Cond.and c (allAtoms t)).before a st = _
    rw [Jvm.Cond.before_and, ih, List.all_cons]
def words1 : List Jvm.Cond := Jvm.Cond.code x code maxLocals ret :: tables_1
/-- a 'code' word, met by the world's own term for the bytes: nothing is compared byte by byte -/
theorem code_word {y : MethodName} {bytes : ByteArray} {mx : Nat} {rt : Option FieldType} {a : Array Value} {s : State} {m : MethodId} {meth : Method} {c : Code} (h1 : s.methodNamed? y = some m) (h2 : s.vm.method? m = some meth) (h3 : meth.code = some c) (h4 : c.code = bytes)
    (h5 : (c.maxLocals == mx && c.exceptionTable.isEmpty && decide (c.maxStack ≤ mostOperands) && decide (meth.sig.returnType = rt) && !meth.locks && decide (parseMethodDescriptor y.desc = some meth.sig)) = true) : (Jvm.Cond.code y bytes mx rt).before a s = true := by
  simp only [Bool.and_eq_true, beq_iff_eq, Bool.not_eq_true', decide_eq_true_eq] at h5
  obtain ⟨⟨⟨⟨⟨g1, g2⟩, g3⟩, g4⟩, g5⟩, g6⟩ := h5
  simp [Cond.before, Cond.holds, Cond.value, h1, h2, h3, h4, g1, g2, g3, g4, g5, g6]
def isCode : Jvm.Cond → Bool
  | .code _ _ _ _ => true
  | _ => false
theorem all_split {L : List Jvm.Cond} {P : Jvm.Cond → Bool} (h1 : L.all (fun c => isCode c || P c) = true) (h2 : ∀ c ∈ L.filter isCode, P c = true) : L.all P = true := by
  refine List.all_eq_true.mpr fun c hc => ?_
  have h := List.all_eq_true.mp h1 c hc
  rcases Bool.eq_false_or_eq_true (isCode c) with hi | hi
  · exact h2 c (List.mem_filter.mpr ⟨hc, hi⟩)
  · simpa [hi] using h
set_option maxRecDepth 65536 in
theorem w_c0 : (Jvm.Cond.code x code maxLocals ret).before args0 about1 = true := code_word (m := ⟨1, 2⟩) (meth := k1m2) (c := k1c2) (by decide +kernel) rfl rfl rfl (by decide +kernel)
set_option maxRecDepth 65536 in
theorem w_c1 : (Jvm.Cond.code ({ cls := "com/example/scrinium/scrinium/io/HeaderLine", name := "<init>", desc := "()V" } : Jvm.MethodName) prog_51_method_1_code (1 : Nat) (Option.none : Option Jvm.ClassFile.FieldType)).before args0 about1 = true := code_word (m := ⟨2, 0⟩) (meth := k2m0) (c := k2c0) (by decide +kernel) rfl rfl rfl (by decide +kernel)
set_option maxRecDepth 65536 in
theorem w_c2 : (Jvm.Cond.code ({ cls := "java/lang/Object", name := "<init>", desc := "()V" } : Jvm.MethodName) object_method_1_code (1 : Nat) (Option.none : Option Jvm.ClassFile.FieldType)).before args0 about1 = true := code_word (m := ⟨0, 0⟩) (meth := k0m0) (c := k0c0) (by decide +kernel) rfl rfl rfl (by decide +kernel)
set_option maxRecDepth 65536 in
theorem w_c3 : (Jvm.Cond.code ({ cls := "com/example/scrinium/scrinium/io/HeaderLine", name := "clear", desc := "(I)V" } : Jvm.MethodName) prog_51_method_2_code (2 : Nat) (Option.none : Option Jvm.ClassFile.FieldType)).before args0 about1 = true := code_word (m := ⟨2, 1⟩) (meth := k2m1) (c := k2c1) (by decide +kernel) rfl rfl rfl (by decide +kernel)
set_option maxRecDepth 65536 in
theorem w_c4 : (Jvm.Cond.code ({ cls := "com/example/scrinium/scrinium/io/HeaderLine", name := "append", desc := "([BII)V" } : Jvm.MethodName) prog_51_method_3_code (4 : Nat) (Option.none : Option Jvm.ClassFile.FieldType)).before args0 about1 = true := code_word (m := ⟨2, 2⟩) (meth := k2m2) (c := k2c2) (by decide +kernel) rfl rfl rfl (by decide +kernel)
set_option maxRecDepth 65536 in
theorem w_c5 : (Jvm.Cond.code ({ cls := "com/example/scrinium/scrinium/io/HeaderLine", name := "makeRoom", desc := "(I)V" } : Jvm.MethodName) prog_51_method_10_code (2 : Nat) (Option.none : Option Jvm.ClassFile.FieldType)).before args0 about1 = true := code_word (m := ⟨2, 4⟩) (meth := k2m4) (c := k2c4) (by decide +kernel) rfl rfl rfl (by decide +kernel)
set_option maxRecDepth 65536 in
theorem w_c6 : (Jvm.Cond.code ({ cls := "com/example/scrinium/scrinium/io/HeaderLine", name := "continuesField", desc := "()Z" } : Jvm.MethodName) prog_51_method_7_code (1 : Nat) (Option.some Jvm.ClassFile.FieldType.boolean)).before args0 about1 = true := code_word (m := ⟨2, 3⟩) (meth := k2m3) (c := k2c3) (by decide +kernel) rfl rfl rfl (by decide +kernel)
set_option maxRecDepth 65536 in
theorem w_c7 : (Jvm.Cond.code ({ cls := "com/example/scrinium/scrinium/io/HeaderLineContinuesFieldPinLaw", name := "blank", desc := "(B)Z" } : Jvm.MethodName) method_2_code (1 : Nat) (Option.some Jvm.ClassFile.FieldType.boolean)).before args0 about1 = true := code_word (m := ⟨1, 1⟩) (meth := k1m1) (c := k1c1) (by decide +kernel) rfl rfl rfl (by decide +kernel)
def codes1 : List Jvm.Cond := [Jvm.Cond.code x code maxLocals ret, Jvm.Cond.code ({ cls := "com/example/scrinium/scrinium/io/HeaderLine", name := "<init>", desc := "()V" } : Jvm.MethodName) prog_51_method_1_code (1 : Nat) (Option.none : Option Jvm.ClassFile.FieldType), Jvm.Cond.code ({ cls := "java/lang/Object", name := "<init>", desc := "()V" } : Jvm.MethodName) object_method_1_code (1 : Nat) (Option.none : Option Jvm.ClassFile.FieldType), Jvm.Cond.code ({ cls := "com/example/scrinium/scrinium/io/HeaderLine", name := "clear", desc := "(I)V" } : Jvm.MethodName) prog_51_method_2_code (2 : Nat) (Option.none : Option Jvm.ClassFile.FieldType), Jvm.Cond.code ({ cls := "com/example/scrinium/scrinium/io/HeaderLine", name := "append", desc := "([BII)V" } : Jvm.MethodName) prog_51_method_3_code (4 : Nat) (Option.none : Option Jvm.ClassFile.FieldType), Jvm.Cond.code ({ cls := "com/example/scrinium/scrinium/io/HeaderLine", name := "makeRoom", desc := "(I)V" } : Jvm.MethodName) prog_51_method_10_code (2 : Nat) (Option.none : Option Jvm.ClassFile.FieldType), Jvm.Cond.code ({ cls := "com/example/scrinium/scrinium/io/HeaderLine", name := "continuesField", desc := "()Z" } : Jvm.MethodName) prog_51_method_7_code (1 : Nat) (Option.some Jvm.ClassFile.FieldType.boolean), Jvm.Cond.code ({ cls := "com/example/scrinium/scrinium/io/HeaderLineContinuesFieldPinLaw", name := "blank", desc := "(B)Z" } : Jvm.MethodName) method_2_code (1 : Nat) (Option.some Jvm.ClassFile.FieldType.boolean)]
set_option maxRecDepth 65536 in
theorem codes_eq : words1.filter isCode = codes1 := rfl
theorem w_codes : ∀ c ∈ words1.filter isCode, c.before args0 about1 = true := by
  rw [codes_eq]
  intro c hc
  simp only [codes1, List.mem_cons, List.not_mem_nil, or_false] at hc
  rcases hc with rfl | rfl | rfl | rfl | rfl | rfl | rfl | rfl
  · exact w_c0
  · exact w_c1
  · exact w_c2
  · exact w_c3
  · exact w_c4
  · exact w_c5
  · exact w_c6
  · exact w_c7
set_option maxRecDepth 65536 in
theorem w_t1 : (words1.take 24).all (fun c => isCode c || c.before args0 about1) = true := by decide +kernel
set_option maxRecDepth 65536 in
theorem w_t2 : (words1.drop 24).all (fun c => isCode c || c.before args0 about1) = true := by decide +kernel
theorem w_tables : (allAtoms (Jvm.Cond.code x code maxLocals ret :: tables_1)).before args0 about1 = true := by
  rw [allAtoms_all]
  show words1.all (fun c => c.before args0 about1) = true
  refine all_split ?_ w_codes
  rw [← List.take_append_drop 24 words1, List.all_append, w_t1, w_t2]
  rfl
set_option maxRecDepth 65536 in
theorem w_case : (Jvm.Cond.and given_1 narrow_1).before args0 about1 = true := by decide +kernel
theorem w_applies : (headSpec (Jvm.Cond.code x code maxLocals ret :: tables_1) room_1).applies x e0.platform about1 = true :=
  (Spec.applies_iff w_frames).mpr ⟨w_running, w_runnable, w_alone, w_named, w_hears, w_ripe, w_room, w_tables⟩
theorem atStart : AtStart classFile x code maxLocals ret World_1 tables_1 room_1 Calls_1 rest_1 Pre_1 launch0 p0 e0 about1 theMethod args0 below0 :=
  ⟨lists_1, trivial, launch0.admits_env _ _ _, launch0.least_env, fairChoices_fair.cas, fairChoices_fair.clock, w_frames, w_args, w_heap, w_applies, trivial, trivial, w_case⟩
end start1
theorem witness_1 : WitnessClaimed_1 := ⟨start1.p0, start1.e0, start1.about1, start1.theMethod, start1.args0, start1.below0, start1.atStart⟩
end Jvm.Pilot.@@N@@
