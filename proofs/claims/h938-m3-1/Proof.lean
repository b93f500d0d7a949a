import JvmDerived
import JvmDerived.Pilot.@@N@@Statement
import JvmDerived.Pilot.@@N@@Code
set_option linter.unusedVariables false
set_option linter.unusedSimpArgs false
namespace Jvm.Own
open Sem ClassFile Op Lib Jvm.Stand Jvm.Free Jvm.LawKit Jvm.RoadKit
/-- from here the run goes on to a return that the contract allows -/
def Wk (p : Program) (e : Env) (below : List Frame) (F : Outcome → State → Prop) (T : State) (g : JFrame) : Prop :=
  ∃ s₂ o, Steps p.tables e below (T.setTop g) s₂ ∧ s₂.status = .running ∧ Ended s₂ below o ∧ F o s₂
abbrev FN (s : State) (Q : Option Value → Heap → List Loc → Prop) (kc ks : Nat) : Outcome → State → Prop := fun o s₂ => ∃ v L, o = .returned v ∧ Q v s₂.heap L ∧ FrameEnd s o s₂ L kc ks
section Walk
variable {p : Program} {l : Launch} {e : Env} {R : Room} {s : State} {m : MethodId} {args : Array Value} {below : List Frame} {meth : Method} {c : Code} {T : State} {locs : List Loc} {cells slots : Nat} {Q : Option Value → Heap → List Loc → Prop} {Fe : Outcome → State → Prop} {kc ks pc : Nat} {Ls : Array Slot} {S : List Value} {Z : State} {a0 : Array Value} {h : Heap}
theorem Wk.step {T' : State} {g g' : JFrame} (h : Wk p e below Fe T' g') (st : ∀ t, Steps p.tables e below (T'.setTop g') t → Steps p.tables e below (T.setTop g) t) : Wk p e below Fe T g := by
  obtain ⟨s₂, o, h1, h2⟩ := h
  exact ⟨s₂, o, st _ h1, h2⟩
theorem Wk.come {T' : State} {g g' : JFrame} (h : Wk p e below Fe T' g') (st : Steps p.tables e below (T.setTop g) (T'.setTop g')) : Wk p e below Fe T g := h.step fun _ k => st.trans k
theorem w_iload (X : Stand p l e R s m args below meth c T locs cells slots) (hx : p.tables.exec = Jvm.exec) {k : Nat} (v : Int32) (hd : decode c.code pc = .ok (.iload k, 2)) (pc' : Nat) (hp : pc + 2 = pc') (hl : Ls[k]? = some (.val (.int v))) (h : Wk p e below Fe T (mkF m pc' Ls (.int v :: S))) : Wk p e below Fe T (mkF m pc Ls S) := by
  subst hp; exact h.step fun _ k => XS.iload X.here hx rfl hd hl k
theorem w_iloadN (X : Stand p l e R s m args below meth c T locs cells slots) (hx : p.tables.exec = Jvm.exec) {k : Fin 4} (v : Int32) (hd : decode c.code pc = .ok (.iload_n k, 1)) (pc' : Nat) (hp : pc + 1 = pc') (hl : Ls[k.val]? = some (.val (.int v))) (h : Wk p e below Fe T (mkF m pc' Ls (.int v :: S))) : Wk p e below Fe T (mkF m pc Ls S) := by
  subst hp; exact h.step fun _ k => XS.iloadN X.here hx rfl hd hl k
theorem w_aload (X : Stand p l e R s m args below meth c T locs cells slots) (hx : p.tables.exec = Jvm.exec) {k : Nat} (v : Value) (hd : decode c.code pc = .ok (.aload k, 2)) (pc' : Nat) (hp : pc + 2 = pc') (hl : Ls[k]? = some (.val v)) (hv : v.isRef = true) (h : Wk p e below Fe T (mkF m pc' Ls (v :: S))) : Wk p e below Fe T (mkF m pc Ls S) := by
  subst hp; exact h.step fun _ k => XS.aload X.here hx rfl hd hl hv k
theorem w_aloadN (X : Stand p l e R s m args below meth c T locs cells slots) (hx : p.tables.exec = Jvm.exec) {k : Fin 4} (v : Value) (hd : decode c.code pc = .ok (.aload_n k, 1)) (pc' : Nat) (hp : pc + 1 = pc') (hl : Ls[k.val]? = some (.val v)) (hv : v.isRef = true) (h : Wk p e below Fe T (mkF m pc' Ls (v :: S))) : Wk p e below Fe T (mkF m pc Ls S) := by
  subst hp; exact h.step fun _ k => XS.aloadN X.here hx rfl hd hl hv k
theorem w_istore (X : Stand p l e R s m args below meth c T locs cells slots) (hx : p.tables.exec = Jvm.exec) {k : Nat} {x : Int32} (hd : decode c.code pc = .ok (.istore k, 2)) (pc' : Nat) (hp : pc + 2 = pc') (l' : Array Slot) (hl : storeLocals Ls k (.int x) = some l') (h : Wk p e below Fe T (mkF m pc' l' S)) : Wk p e below Fe T (mkF m pc Ls (.int x :: S)) := by
  subst hp; exact h.step fun _ k => XS.istore X.here hx rfl hd rfl hl k
theorem w_istoreN (X : Stand p l e R s m args below meth c T locs cells slots) (hx : p.tables.exec = Jvm.exec) {k : Fin 4} {x : Int32} (hd : decode c.code pc = .ok (.istore_n k, 1)) (pc' : Nat) (hp : pc + 1 = pc') (l' : Array Slot) (hl : storeLocals Ls k.val (.int x) = some l') (h : Wk p e below Fe T (mkF m pc' l' S)) : Wk p e below Fe T (mkF m pc Ls (.int x :: S)) := by
  subst hp; exact h.step fun _ k => XS.istoreN X.here hx rfl hd rfl hl k
theorem w_astore (X : Stand p l e R s m args below meth c T locs cells slots) (hx : p.tables.exec = Jvm.exec) {k : Nat} {x : Value} (hd : decode c.code pc = .ok (.astore k, 2)) (pc' : Nat) (hp : pc + 2 = pc') (hv : x.isRef = true) (l' : Array Slot) (hl : storeLocals Ls k x = some l') (h : Wk p e below Fe T (mkF m pc' l' S)) : Wk p e below Fe T (mkF m pc Ls (x :: S)) := by
  subst hp; exact h.step fun _ k => XS.astore X.here hx rfl hd rfl hv hl k
theorem w_iconst (X : Stand p l e R s m args below meth c T locs cells slots) (hx : p.tables.exec = Jvm.exec) {i : Int} (hd : decode c.code pc = .ok (.iconst i, 1)) (pc' : Nat) (hp : pc + 1 = pc') (z : Int32) (hz : Int32.ofInt i = z) (h : Wk p e below Fe T (mkF m pc' Ls (.int z :: S))) : Wk p e below Fe T (mkF m pc Ls S) := by
  subst hp hz; exact h.step fun _ k => XS.iconst X.here hx rfl hd k
theorem w_bipush (X : Stand p l e R s m args below meth c T locs cells slots) (hx : p.tables.exec = Jvm.exec) {i : Int} (hd : decode c.code pc = .ok (.bipush i, 2)) (pc' : Nat) (hp : pc + 2 = pc') (z : Int32) (hz : (Int8.ofInt i).toInt32 = z) (h : Wk p e below Fe T (mkF m pc' Ls (.int z :: S))) : Wk p e below Fe T (mkF m pc Ls S) := by
  subst hp hz; exact h.step fun _ k => XS.bipush X.here hx rfl hd k
theorem w_sipush (X : Stand p l e R s m args below meth c T locs cells slots) (hx : p.tables.exec = Jvm.exec) {i : Int} (hd : decode c.code pc = .ok (.sipush i, 3)) (pc' : Nat) (hp : pc + 3 = pc') (z : Int32) (hz : (Int16.ofInt i).toInt32 = z) (h : Wk p e below Fe T (mkF m pc' Ls (.int z :: S))) : Wk p e below Fe T (mkF m pc Ls S) := by
  subst hp hz; exact h.step fun _ k => XS.sipush X.here hx rfl hd k
theorem w_iadd (X : Stand p l e R s m args below meth c T locs cells slots) (hx : p.tables.exec = Jvm.exec) {x y : Int32} (hd : decode c.code pc = .ok (.iadd, 1)) (pc' : Nat) (hp : pc + 1 = pc') {z : Int32} (hz : z = x + y) (h : Wk p e below Fe T (mkF m pc' Ls (.int z :: S))) : Wk p e below Fe T (mkF m pc Ls (.int y :: .int x :: S)) := by
  subst hp hz; exact h.step fun _ k => XS.iadd X.here hx rfl hd rfl k
theorem w_isub (X : Stand p l e R s m args below meth c T locs cells slots) (hx : p.tables.exec = Jvm.exec) {x y : Int32} (hd : decode c.code pc = .ok (.isub, 1)) (pc' : Nat) (hp : pc + 1 = pc') {z : Int32} (hz : z = x - y) (h : Wk p e below Fe T (mkF m pc' Ls (.int z :: S))) : Wk p e below Fe T (mkF m pc Ls (.int y :: .int x :: S)) := by
  subst hp hz; exact h.step fun _ k => XS.isub X.here hx rfl hd rfl k
theorem w_iand (X : Stand p l e R s m args below meth c T locs cells slots) (hx : p.tables.exec = Jvm.exec) {x y : Int32} (hd : decode c.code pc = .ok (.iand, 1)) (pc' : Nat) (hp : pc + 1 = pc') {z : Int32} (hz : z = x &&& y) (h : Wk p e below Fe T (mkF m pc' Ls (.int z :: S))) : Wk p e below Fe T (mkF m pc Ls (.int y :: .int x :: S)) := by
  subst hp hz; exact h.step fun _ k => XS.iand X.here hx rfl hd rfl k
theorem w_ishr (X : Stand p l e R s m args below meth c T locs cells slots) (hx : p.tables.exec = Jvm.exec) {x y : Int32} (hd : decode c.code pc = .ok (.ishr, 1)) (pc' : Nat) (hp : pc + 1 = pc') {z : Int32} (hz : z = x >>> (y &&& 31)) (h : Wk p e below Fe T (mkF m pc' Ls (.int z :: S))) : Wk p e below Fe T (mkF m pc Ls (.int y :: .int x :: S)) := by
  subst hp hz; exact h.step fun _ k => XS.ishr X.here hx rfl hd rfl k
theorem w_i2b (X : Stand p l e R s m args below meth c T locs cells slots) (hx : p.tables.exec = Jvm.exec) {x : Int32} (hd : decode c.code pc = .ok (.i2b, 1)) (pc' : Nat) (hp : pc + 1 = pc') {z : Int32} (hz : z = x.toInt8.toInt32) (h : Wk p e below Fe T (mkF m pc' Ls (.int z :: S))) : Wk p e below Fe T (mkF m pc Ls (.int x :: S)) := by
  subst hp hz; exact h.step fun _ k => XS.i2b X.here hx rfl hd rfl k
theorem w_iinc (X : Stand p l e R s m args below meth c T locs cells slots) (hx : p.tables.exec = Jvm.exec) {k : Nat} {cst : Int} {x : Int32} (hd : decode c.code pc = .ok (.iinc k cst, 3)) (pc' : Nat) (hp : pc + 3 = pc') (hl : Ls[k]? = some (.val (.int x))) (z : Int32) (hz : z = x + Int32.ofInt cst) (l' : Array Slot) (hl' : storeLocals Ls k (.int z) = some l') (h : Wk p e below Fe T (mkF m pc' l' S)) : Wk p e below Fe T (mkF m pc Ls S) := by
  subst hp hz; exact h.step fun _ k => XS.iinc X.here hx rfl hd hl hl' k
theorem w_dup (X : Stand p l e R s m args below meth c T locs cells slots) (hx : p.tables.exec = Jvm.exec) {x : Value} (hd : decode c.code pc = .ok (.dup, 1)) (pc' : Nat) (hp : pc + 1 = pc') (hc : x.category = 1) (h : Wk p e below Fe T (mkF m pc' Ls (x :: x :: S))) : Wk p e below Fe T (mkF m pc Ls (x :: S)) := by
  subst hp; exact h.step fun _ k => XS.dup X.here hx rfl hd rfl hc k
theorem w_goto (X : Stand p l e R s m args below meth c T locs cells slots) (hx : p.tables.exec = Jvm.exec) {o : Int} (hd : decode c.code pc = .ok (.goto o, 3)) (pc' : Nat) (h : Wk p e below Fe T (mkF m pc' Ls S)) (ho : 0 ≤ (pc : Int) + o := by decide) (hp : ((pc : Int) + o).toNat = pc' := by decide) : Wk p e below Fe T (mkF m pc Ls S) := by
  exact h.step fun _ k => XS.goto X.here hx rfl rfl hd ho hp k
theorem holds_eq {x y : Int32} {A B : Int} (ha : x.toInt = A) (hb : y.toInt = B) : ((A = B) → if_icmp.holds .eq x y = true) ∧ ((¬ A = B) → if_icmp.holds .eq x y = false) := by
  subst ha hb
  constructor
  · intro q
    first
    | exact (tlt (x := x) (y := y) (Int32.lt_iff_toInt_lt.mpr (by omega))).1
    | exact (flt (x := x) (y := y) (fun r => by have := Int32.lt_iff_toInt_lt.mp r; omega)).2.1
    | exact (tlt (x := y) (y := x) (Int32.lt_iff_toInt_lt.mpr (by omega))).2.2.1
    | exact (flt (x := y) (y := x) (fun r => by have := Int32.lt_iff_toInt_lt.mp r; omega)).2.2.2
    | exact (teq (x := x) (y := y) (Int32.toInt_inj.mp (by omega))).1
    | exact (feq (x := x) (y := y) (fun r => q (by rw [r]))).2
  · intro q
    first
    | exact (flt (x := x) (y := y) (fun r => by have := Int32.lt_iff_toInt_lt.mp r; omega)).1
    | exact (tlt (x := x) (y := y) (Int32.lt_iff_toInt_lt.mpr (by omega))).2.1
    | exact (flt (x := y) (y := x) (fun r => by have := Int32.lt_iff_toInt_lt.mp r; omega)).2.2.1
    | exact (tlt (x := y) (y := x) (Int32.lt_iff_toInt_lt.mpr (by omega))).2.2.2
    | exact (feq (x := x) (y := y) (fun r => q (by rw [r]))).1
    | exact (teq (x := x) (y := y) (Int32.toInt_inj.mp (by omega))).2
theorem w_if_eq (X : Stand p l e R s m args below meth c T locs cells slots) (hx : p.tables.exec = Jvm.exec) {x : Int32} {o : Int} (A : Int) (ha : x.toInt = A) (hd : decode c.code pc = .ok (.ifCond .eq o, 3)) (pt pn : Nat) (h1 : A = 0 → Wk p e below Fe T (mkF m pt Ls S)) (h2 : ¬ A = 0 → Wk p e below Fe T (mkF m pn Ls S)) (ho : 0 ≤ (pc : Int) + o := by decide) (hp : ((pc : Int) + o).toNat = pt := by decide) (hn : pc + 3 = pn := by rfl) : Wk p e below Fe T (mkF m pc Ls (.int x :: S)) := by
  subst hn
  have hb : (0 : Int32).toInt = 0 := rfl
  by_cases q : A = 0
  · exact (h1 q).step fun _ k => XS.ifYes X.here hx rfl rfl hd rfl ((if0 _ _).trans ((holds_eq ha hb).1 q)) ho hp k
  · have q' : ¬ A = 0 := by omega
    exact (h2 q').step fun _ k => XS.ifNo X.here hx rfl hd rfl ((if0 _ _).trans ((holds_eq ha hb).2 q')) k
theorem holds_ne {x y : Int32} {A B : Int} (ha : x.toInt = A) (hb : y.toInt = B) : ((¬ A = B) → if_icmp.holds .ne x y = true) ∧ ((A = B) → if_icmp.holds .ne x y = false) := by
  subst ha hb
  constructor
  · intro q
    first
    | exact (tlt (x := x) (y := y) (Int32.lt_iff_toInt_lt.mpr (by omega))).1
    | exact (flt (x := x) (y := y) (fun r => by have := Int32.lt_iff_toInt_lt.mp r; omega)).2.1
    | exact (tlt (x := y) (y := x) (Int32.lt_iff_toInt_lt.mpr (by omega))).2.2.1
    | exact (flt (x := y) (y := x) (fun r => by have := Int32.lt_iff_toInt_lt.mp r; omega)).2.2.2
    | exact (teq (x := x) (y := y) (Int32.toInt_inj.mp (by omega))).1
    | exact (feq (x := x) (y := y) (fun r => q (by rw [r]))).2
  · intro q
    first
    | exact (flt (x := x) (y := y) (fun r => by have := Int32.lt_iff_toInt_lt.mp r; omega)).1
    | exact (tlt (x := x) (y := y) (Int32.lt_iff_toInt_lt.mpr (by omega))).2.1
    | exact (flt (x := y) (y := x) (fun r => by have := Int32.lt_iff_toInt_lt.mp r; omega)).2.2.1
    | exact (tlt (x := y) (y := x) (Int32.lt_iff_toInt_lt.mpr (by omega))).2.2.2
    | exact (feq (x := x) (y := y) (fun r => q (by rw [r]))).1
    | exact (teq (x := x) (y := y) (Int32.toInt_inj.mp (by omega))).2
theorem w_icmp_ne (X : Stand p l e R s m args below meth c T locs cells slots) (hx : p.tables.exec = Jvm.exec) {x y : Int32} {o : Int} (A B : Int) (ha : x.toInt = A) (hb : y.toInt = B) (hd : decode c.code pc = .ok (.if_icmp .ne o, 3)) (pt pn : Nat) (h1 : ¬ A = B → Wk p e below Fe T (mkF m pt Ls S)) (h2 : A = B → Wk p e below Fe T (mkF m pn Ls S)) (ho : 0 ≤ (pc : Int) + o := by decide) (hp : ((pc : Int) + o).toNat = pt := by decide) (hn : pc + 3 = pn := by rfl) : Wk p e below Fe T (mkF m pc Ls (.int y :: .int x :: S)) := by
  subst hn
  by_cases q : ¬ A = B
  · exact (h1 q).step fun _ k => XS.icmpYes X.here hx rfl rfl hd rfl ((holds_ne ha hb).1 q) ho hp k
  · have q' : A = B := by omega
    exact (h2 q').step fun _ k => XS.icmpNo X.here hx rfl hd rfl ((holds_ne ha hb).2 q') k
theorem holds_lt {x y : Int32} {A B : Int} (ha : x.toInt = A) (hb : y.toInt = B) : ((A < B) → if_icmp.holds .lt x y = true) ∧ ((B ≤ A) → if_icmp.holds .lt x y = false) := by
  subst ha hb
  constructor
  · intro q
    first
    | exact (tlt (x := x) (y := y) (Int32.lt_iff_toInt_lt.mpr (by omega))).1
    | exact (flt (x := x) (y := y) (fun r => by have := Int32.lt_iff_toInt_lt.mp r; omega)).2.1
    | exact (tlt (x := y) (y := x) (Int32.lt_iff_toInt_lt.mpr (by omega))).2.2.1
    | exact (flt (x := y) (y := x) (fun r => by have := Int32.lt_iff_toInt_lt.mp r; omega)).2.2.2
    | exact (teq (x := x) (y := y) (Int32.toInt_inj.mp (by omega))).1
    | exact (feq (x := x) (y := y) (fun r => q (by rw [r]))).2
  · intro q
    first
    | exact (flt (x := x) (y := y) (fun r => by have := Int32.lt_iff_toInt_lt.mp r; omega)).1
    | exact (tlt (x := x) (y := y) (Int32.lt_iff_toInt_lt.mpr (by omega))).2.1
    | exact (flt (x := y) (y := x) (fun r => by have := Int32.lt_iff_toInt_lt.mp r; omega)).2.2.1
    | exact (tlt (x := y) (y := x) (Int32.lt_iff_toInt_lt.mpr (by omega))).2.2.2
    | exact (feq (x := x) (y := y) (fun r => q (by rw [r]))).1
    | exact (teq (x := x) (y := y) (Int32.toInt_inj.mp (by omega))).2
theorem w_icmp_lt (X : Stand p l e R s m args below meth c T locs cells slots) (hx : p.tables.exec = Jvm.exec) {x y : Int32} {o : Int} (A B : Int) (ha : x.toInt = A) (hb : y.toInt = B) (hd : decode c.code pc = .ok (.if_icmp .lt o, 3)) (pt pn : Nat) (h1 : A < B → Wk p e below Fe T (mkF m pt Ls S)) (h2 : B ≤ A → Wk p e below Fe T (mkF m pn Ls S)) (ho : 0 ≤ (pc : Int) + o := by decide) (hp : ((pc : Int) + o).toNat = pt := by decide) (hn : pc + 3 = pn := by rfl) : Wk p e below Fe T (mkF m pc Ls (.int y :: .int x :: S)) := by
  subst hn
  by_cases q : A < B
  · exact (h1 q).step fun _ k => XS.icmpYes X.here hx rfl rfl hd rfl ((holds_lt ha hb).1 q) ho hp k
  · have q' : B ≤ A := by omega
    exact (h2 q').step fun _ k => XS.icmpNo X.here hx rfl hd rfl ((holds_lt ha hb).2 q') k
theorem holds_ge {x y : Int32} {A B : Int} (ha : x.toInt = A) (hb : y.toInt = B) : ((B ≤ A) → if_icmp.holds .ge x y = true) ∧ ((A < B) → if_icmp.holds .ge x y = false) := by
  subst ha hb
  constructor
  · intro q
    first
    | exact (tlt (x := x) (y := y) (Int32.lt_iff_toInt_lt.mpr (by omega))).1
    | exact (flt (x := x) (y := y) (fun r => by have := Int32.lt_iff_toInt_lt.mp r; omega)).2.1
    | exact (tlt (x := y) (y := x) (Int32.lt_iff_toInt_lt.mpr (by omega))).2.2.1
    | exact (flt (x := y) (y := x) (fun r => by have := Int32.lt_iff_toInt_lt.mp r; omega)).2.2.2
    | exact (teq (x := x) (y := y) (Int32.toInt_inj.mp (by omega))).1
    | exact (feq (x := x) (y := y) (fun r => q (by rw [r]))).2
  · intro q
    first
    | exact (flt (x := x) (y := y) (fun r => by have := Int32.lt_iff_toInt_lt.mp r; omega)).1
    | exact (tlt (x := x) (y := y) (Int32.lt_iff_toInt_lt.mpr (by omega))).2.1
    | exact (flt (x := y) (y := x) (fun r => by have := Int32.lt_iff_toInt_lt.mp r; omega)).2.2.1
    | exact (tlt (x := y) (y := x) (Int32.lt_iff_toInt_lt.mpr (by omega))).2.2.2
    | exact (feq (x := x) (y := y) (fun r => q (by rw [r]))).1
    | exact (teq (x := x) (y := y) (Int32.toInt_inj.mp (by omega))).2
theorem w_icmp_ge (X : Stand p l e R s m args below meth c T locs cells slots) (hx : p.tables.exec = Jvm.exec) {x y : Int32} {o : Int} (A B : Int) (ha : x.toInt = A) (hb : y.toInt = B) (hd : decode c.code pc = .ok (.if_icmp .ge o, 3)) (pt pn : Nat) (h1 : B ≤ A → Wk p e below Fe T (mkF m pt Ls S)) (h2 : A < B → Wk p e below Fe T (mkF m pn Ls S)) (ho : 0 ≤ (pc : Int) + o := by decide) (hp : ((pc : Int) + o).toNat = pt := by decide) (hn : pc + 3 = pn := by rfl) : Wk p e below Fe T (mkF m pc Ls (.int y :: .int x :: S)) := by
  subst hn
  by_cases q : B ≤ A
  · exact (h1 q).step fun _ k => XS.icmpYes X.here hx rfl rfl hd rfl ((holds_ge ha hb).1 q) ho hp k
  · have q' : A < B := by omega
    exact (h2 q').step fun _ k => XS.icmpNo X.here hx rfl hd rfl ((holds_ge ha hb).2 q') k
theorem holds_le {x y : Int32} {A B : Int} (ha : x.toInt = A) (hb : y.toInt = B) : ((A ≤ B) → if_icmp.holds .le x y = true) ∧ ((B < A) → if_icmp.holds .le x y = false) := by
  subst ha hb
  constructor
  · intro q
    first
    | exact (tlt (x := x) (y := y) (Int32.lt_iff_toInt_lt.mpr (by omega))).1
    | exact (flt (x := x) (y := y) (fun r => by have := Int32.lt_iff_toInt_lt.mp r; omega)).2.1
    | exact (tlt (x := y) (y := x) (Int32.lt_iff_toInt_lt.mpr (by omega))).2.2.1
    | exact (flt (x := y) (y := x) (fun r => by have := Int32.lt_iff_toInt_lt.mp r; omega)).2.2.2
    | exact (teq (x := x) (y := y) (Int32.toInt_inj.mp (by omega))).1
    | exact (feq (x := x) (y := y) (fun r => q (by rw [r]))).2
  · intro q
    first
    | exact (flt (x := x) (y := y) (fun r => by have := Int32.lt_iff_toInt_lt.mp r; omega)).1
    | exact (tlt (x := x) (y := y) (Int32.lt_iff_toInt_lt.mpr (by omega))).2.1
    | exact (flt (x := y) (y := x) (fun r => by have := Int32.lt_iff_toInt_lt.mp r; omega)).2.2.1
    | exact (tlt (x := y) (y := x) (Int32.lt_iff_toInt_lt.mpr (by omega))).2.2.2
    | exact (feq (x := x) (y := y) (fun r => q (by rw [r]))).1
    | exact (teq (x := x) (y := y) (Int32.toInt_inj.mp (by omega))).2
theorem w_icmp_le (X : Stand p l e R s m args below meth c T locs cells slots) (hx : p.tables.exec = Jvm.exec) {x y : Int32} {o : Int} (A B : Int) (ha : x.toInt = A) (hb : y.toInt = B) (hd : decode c.code pc = .ok (.if_icmp .le o, 3)) (pt pn : Nat) (h1 : A ≤ B → Wk p e below Fe T (mkF m pt Ls S)) (h2 : B < A → Wk p e below Fe T (mkF m pn Ls S)) (ho : 0 ≤ (pc : Int) + o := by decide) (hp : ((pc : Int) + o).toNat = pt := by decide) (hn : pc + 3 = pn := by rfl) : Wk p e below Fe T (mkF m pc Ls (.int y :: .int x :: S)) := by
  subst hn
  by_cases q : A ≤ B
  · exact (h1 q).step fun _ k => XS.icmpYes X.here hx rfl rfl hd rfl ((holds_le ha hb).1 q) ho hp k
  · have q' : B < A := by omega
    exact (h2 q').step fun _ k => XS.icmpNo X.here hx rfl hd rfl ((holds_le ha hb).2 q') k
theorem w_if_le (X : Stand p l e R s m args below meth c T locs cells slots) (hx : p.tables.exec = Jvm.exec) {x : Int32} {o : Int} (A : Int) (ha : x.toInt = A) (hd : decode c.code pc = .ok (.ifCond .le o, 3)) (pt pn : Nat) (h1 : A ≤ 0 → Wk p e below Fe T (mkF m pt Ls S)) (h2 : 0 < A → Wk p e below Fe T (mkF m pn Ls S)) (ho : 0 ≤ (pc : Int) + o := by decide) (hp : ((pc : Int) + o).toNat = pt := by decide) (hn : pc + 3 = pn := by rfl) : Wk p e below Fe T (mkF m pc Ls (.int x :: S)) := by
  subst hn
  have hb : (0 : Int32).toInt = 0 := rfl
  by_cases q : A ≤ 0
  · exact (h1 q).step fun _ k => XS.ifYes X.here hx rfl rfl hd rfl ((if0 _ _).trans ((holds_le ha hb).1 q)) ho hp k
  · have q' : 0 < A := by omega
    exact (h2 q').step fun _ k => XS.ifNo X.here hx rfl hd rfl ((if0 _ _).trans ((holds_le ha hb).2 q')) k
theorem w_retN (X : Stand p l e R s m args below meth c T locs cells slots) (hx : p.tables.exec = Jvm.exec) (hlocks : meth.locks = false) {t : FieldType} {z : Int32} (hret : meth.sig.returnType = some t) (ht : t = .boolean ∨ t = .byte ∨ t = .char ∨ t = .short) (hd : decode c.code pc = .ok (.ireturn, 1)) (hc : cells ≤ kc) (hs : slots ≤ ks) (hQ : Q (some (.int (nar t z))) T.heap locs) : Wk p e below (FN s Q kc ks) T (mkF m pc Ls (.int z :: S)) := by
  obtain ⟨fs, hr, hrun, hended, hW, hsame⟩ := X.leave (v := some (.int (nar t z))) (fun h => by rw [hret] at h; cases h) hlocks
  exact ⟨_, _, retN X hx hret ht hd hr, hrun, hended, _, _, rfl, hQ, ⟨_, rfl⟩, hW, hsame.mono hc hs⟩
theorem w_retO (X : Stand p l e R s m args below meth c T locs cells slots) (hx : p.tables.exec = Jvm.exec) (hlocks : meth.locks = false) {t : FieldType} {w : Value} {i : Instr} (hret : meth.sig.returnType = some t) (hn : narrow t w = w)
    (hi : (i = .ireturn ∧ (t = .int ∨ t = .boolean ∨ t = .byte ∨ t = .char ∨ t = .short) ∧ ∃ z, w = .int z) ∨ (i = .lreturn ∧ t = .long ∧ ∃ z, w = .long z) ∨ (i = .dreturn ∧ t = .double ∧ ∃ z, w = .double z) ∨ (i = .freturn ∧ t = .float ∧ ∃ z, w = .float z) ∨ (i = .areturn ∧ t.isReference = true ∧ w.isRef = true))
    (hd : decode c.code pc = .ok (i, 1)) (hc : cells ≤ kc) (hs : slots ≤ ks) (hQ : Q (some w) T.heap locs) : Wk p e below (FN s Q kc ks) T (mkF m pc Ls (w :: S)) := by
  obtain ⟨fs, hr, hrun, hended, hW, hsame⟩ := X.leave (v := some w) (fun h => by rw [hret] at h; cases h) hlocks
  exact ⟨_, _, retOut X hx hret hn hi hd hr, hrun, hended, _, _, rfl, hQ, ⟨_, rfl⟩, hW, hsame.mono hc hs⟩
theorem w_retI (X : Stand p l e R s m args below meth c T locs cells slots) (hx : p.tables.exec = Jvm.exec) (hlocks : meth.locks = false) {z : Int32} (hret : meth.sig.returnType = some .int) (hd : decode c.code pc = .ok (.ireturn, 1)) (hc : cells ≤ kc) (hs : slots ≤ ks) (hQ : Q (some (.int z)) T.heap locs) : Wk p e below (FN s Q kc ks) T (mkF m pc Ls (.int z :: S)) :=
  w_retO X hx hlocks hret rfl (Or.inl ⟨rfl, Or.inl rfl, _, rfl⟩) hd hc hs hQ
theorem w_ret0 (X : Stand p l e R s m args below meth c T locs cells slots) (hx : p.tables.exec = Jvm.exec) (hlocks : meth.locks = false) (hret : meth.sig.returnType = none) (hd : decode c.code pc = .ok (.return_, 1)) (hc : cells ≤ kc) (hs : slots ≤ ks) (hQ : Q none T.heap locs) : Wk p e below (FN s Q kc ks) T (mkF m pc Ls []) := by
  obtain ⟨fs, hr, hrun, hended, hW, hsame⟩ := X.leave (v := none) (fun _ => rfl) hlocks
  exact ⟨_, _, X.returnOut hx hret hd hr, hrun, hended, _, _, rfl, hQ, ⟨_, rfl⟩, hW, hsame.mono hc hs⟩
theorem w_callS (X : Stand p l e R s m args below meth c T locs cells slots) (hx : p.tables.exec = Jvm.exec) (hZ : Z.Warmed39 s.vm) {own : String} {index : Nat} {y : MethodName} {bytes : ByteArray} {maxL : Nat} {ret : Option FieldType} {rm : Room} {as' : Array Value} {Qc : Option Value → Heap → List Loc → Prop} (hown : s.vm.findClass own = some m.cls) (eT : T.heap = h)
    (hM : MetFree l y (head1 [Cond.code y bytes maxL ret] rm) (fun a U => a = as' ∧ Z.Warmed39 U.vm ∧ U.heap = h) (fun _ _ _ _ _ => True) (fun _ U o U' => ∃ v L, o = .returned v ∧ Qc v U'.heap L ∧ FrameEnd U o U' L rm.cells rm.slots))
    (w1 : (Cond.methodLink own index y).before a0 Z = true) (w2 : (Cond.static y).before a0 Z = true) (w3 : (Cond.initialized y.cls).before a0 Z = true) (w4 : (Cond.code y bytes maxL ret).before a0 Z = true) (hy : y.cls ≠ "java/lang/invoke/MethodHandle" ∧ y.cls ≠ "java/lang/invoke/VarHandle")
    (hsize : Ls.size = c.maxLocals) (argsL rest : List Value) (hlen : ∀ sig, parseMethodDescriptor y.desc = some sig → argsL.length = sig.parameters.length) (hst : S = argsL.reverse ++ rest) (has : argsL.toArray = as')
    (hf : rm.frames + 1 ≤ R.frames) (W : Nat) (hW : (rest.map fun v => v.category).sum = W) (hl : W + (maxL + 11) + rm.locals ≤ R.locals) (hc : cells + rm.cells ≤ R.cells) (hs : slots + rm.slots ≤ R.slots) (hd : decode c.code pc = .ok (.invokestatic index, 3)) (pc' : Nat) (hp : pc + 3 = pc')
    (k : ∀ (v : Option Value) (T' : State) (L : List Loc), Stand p l e R s m args below meth c T' (locs ++ L) (cells + rm.cells) (slots + rm.slots) → Qc v T'.heap L → Wk p e below Fe T' (mkF m pc' Ls (v.toList ++ rest))) : Wk p e below Fe T (mkF m pc Ls S) := by
  subst hp hst has hW
  obtain ⟨v, _, ⟨T', L', k', n'⟩, -, X', ⟨Lc, q1, q2, q3, q4⟩, st⟩ := Jvm.LawKit.callS X hx hown (mvT hZ w1) (mvT hZ w2) (mvT hZ w3) (mvT hZ w4) hy (backOf hM hZ w4 w3 hf hl) (g := mkF m pc Ls (argsL.reverse ++ rest)) rfl hsize hlen rfl (by show 2 * 0 + _ ≤ _; rw [Nat.mul_zero, Nat.zero_add]; exact Nat.le_refl _) hd (fun _ _ => ⟨rfl, eT, hc, hs⟩)
  dsimp only [Pt.U, Pt.locs, Pt.cells, Pt.slots] at X' q2 q3 q4 st q1
  subst q2 q3 q4
  exact (k v T' Lc X' q1).step st
theorem w_init (X : Stand p l e R s m args below meth c T locs cells slots) (hx : p.tables.exec = Jvm.exec) (hZ : Z.Warmed39 s.vm) {own : String} {index : Nat} {y : MethodName} {bytes : ByteArray} {maxL : Nat} {rm : Room} {as' : Array Value} {Qc : Option Value → Heap → List Loc → Prop} (hy1 : y.name = "<init>") (hown : s.vm.findClass own = some m.cls) (eT : T.heap = h)
    (hM : MetFree l y (head1 [Cond.code y bytes maxL none] rm) (fun a U => a = as' ∧ Z.Warmed39 U.vm ∧ U.heap = h) (fun _ _ _ _ _ => True) (fun _ U o U' => ∃ v L, o = .returned v ∧ Qc v U'.heap L ∧ FrameEnd U o U' L rm.cells rm.slots))
    (w1 : (Cond.methodLink own index y).before a0 Z = true) (w2 : (Cond.instanceMethod y).before a0 Z = true) (w3 : (Cond.initialized y.cls).before a0 Z = true) (w4 : (Cond.code y bytes maxL none).before a0 Z = true) (hy : y.cls ≠ "java/lang/invoke/MethodHandle" ∧ y.cls ≠ "java/lang/invoke/VarHandle")
    (hsize : Ls.size = c.maxLocals) (a : Addr) (argsL rest : List Value) (hlen : ∀ sig, parseMethodDescriptor y.desc = some sig → argsL.length = sig.parameters.length) (hst : S = argsL.reverse ++ .ref a :: rest) (has : (Value.ref a :: argsL).toArray = as')
    (hf : rm.frames + 1 ≤ R.frames) (W : Nat) (hW : (rest.map fun v => v.category).sum = W) (hl : W + (maxL + 11) + rm.locals ≤ R.locals) (hc : cells + rm.cells ≤ R.cells) (hs : slots + rm.slots ≤ R.slots) (hd : decode c.code pc = .ok (.invokespecial index, 3)) (pc' : Nat) (hp : pc + 3 = pc')
    (k : ∀ (v : Option Value) (T' : State) (L : List Loc), Stand p l e R s m args below meth c T' (locs ++ L) (cells + rm.cells) (slots + rm.slots) → Qc v T'.heap L → Wk p e below Fe T' (mkF m pc' Ls (v.toList ++ rest))) : Wk p e below Fe T (mkF m pc Ls S) := by
  subst hp hst has hW
  obtain ⟨v, _, ⟨T', L', k', n'⟩, -, X', ⟨Lc, q1, q2, q3, q4⟩, st⟩ := X.specialBack hx hy1 hown (mvT hZ w1) (mvT hZ w2) (mvT hZ w4) hy (backOf hM hZ w4 w3 hf hl) (g := mkF m pc Ls (argsL.reverse ++ .ref a :: rest)) rfl hsize (Steps.refl _) hlen rfl (by show 2 * 0 + _ ≤ _; rw [Nat.mul_zero, Nat.zero_add]; exact Nat.le_refl _) hd (fun _ _ => ⟨rfl, eT, hc, hs⟩)
  dsimp only [Pt.U, Pt.locs, Pt.cells, Pt.slots] at X' q2 q3 q4 st q1
  subst q2 q3 q4
  exact (k v T' Lc X' q1).come st
theorem w_virt (X : Stand p l e R s m args below meth c T locs cells slots) (hx : p.tables.exec = Jvm.exec) (hZ : Z.Warmed39 s.vm) {own : String} {index : Nat} {y : MethodName} {bytes : ByteArray} {maxL : Nat} {ret : Option FieldType} {rm : Room} {as' : Array Value} {Qc : Option Value → Heap → List Loc → Prop} {C : String} {y0 : MethodName} (hown : s.vm.findClass own = some m.cls) (eT : T.heap = h)
    (hM : MetFree l y (head1 [Cond.code y bytes maxL ret] rm) (fun a U => a = as' ∧ Z.Warmed39 U.vm ∧ U.heap = h) (fun _ _ _ _ _ => True) (fun _ U o U' => ∃ v L, o = .returned v ∧ Qc v U'.heap L ∧ FrameEnd U o U' L rm.cells rm.slots))
    (w1 : (Cond.methodLink own index y0).before a0 Z = true) (w2 : (Cond.declares y0).before a0 Z = true) (nf : NotFace s y0) (w5 : (Cond.selects C y0 y).before a0 Z = true) (w6 : (Cond.instanceMethod y).before a0 Z = true) (w3 : (Cond.initialized y.cls).before a0 Z = true) (w4 : (Cond.code y bytes maxL ret).before a0 Z = true) (hy : y0.cls ≠ "java/lang/invoke/MethodHandle" ∧ y0.cls ≠ "java/lang/invoke/VarHandle")
    (a : Addr) (E : Exa Z h a C)
    (hsize : Ls.size = c.maxLocals) (argsL rest : List Value) (hlen : ∀ sig, parseMethodDescriptor y0.desc = some sig → argsL.length = sig.parameters.length) (hst : S = argsL.reverse ++ .ref a :: rest) (has : (Value.ref a :: argsL).toArray = as')
    (hf : rm.frames + 1 ≤ R.frames) (W : Nat) (hW : (rest.map fun v => v.category).sum = W) (hl : W + (maxL + 11) + rm.locals ≤ R.locals) (hc : cells + rm.cells ≤ R.cells) (hs : slots + rm.slots ≤ R.slots) (hd : decode c.code pc = .ok (.invokevirtual index, 3)) (pc' : Nat) (hp : pc + 3 = pc')
    (k : ∀ (v : Option Value) (T' : State) (L : List Loc), Stand p l e R s m args below meth c T' (locs ++ L) (cells + rm.cells) (slots + rm.slots) → Qc v T'.heap L → Wk p e below Fe T' (mkF m pc' Ls (v.toList ++ rest))) : Wk p e below Fe T (mkF m pc Ls S) := by
  subst hp hst has hW
  obtain ⟨cq, kq, qa, qb, qc⟩ := isOf hZ eT E
  obtain ⟨v, _, ⟨T', L', k', n'⟩, -, X', ⟨Lc, q1, q2, q3, q4⟩, st⟩ := X.virtualBack hx hown (mvT hZ w1) (mvT hZ w2) nf (mvT hZ w5) (mvT hZ w6) hy (backOf hM hZ w4 w3 hf hl) qa qc (g := mkF m pc Ls (argsL.reverse ++ .ref a :: rest)) rfl hsize (Steps.refl _) hlen rfl (by show 2 * 0 + _ ≤ _; rw [Nat.mul_zero, Nat.zero_add]; exact Nat.le_refl _) hd (fun _ _ => ⟨rfl, eT, hc, hs⟩)
  dsimp only [Pt.U, Pt.locs, Pt.cells, Pt.slots] at X' q2 q3 q4 st q1
  subst q2 q3 q4
  exact (k v T' Lc X' q1).come st
theorem w_objinit (X : Stand p l e R s m args below meth c T locs cells slots) (hx : p.tables.exec = Jvm.exec) (hZ : Z.Warmed39 s.vm) {own : String} {idx : Nat} (hown : s.vm.findClass own = some m.cls) (eT : T.heap = h) (w1 : (Cond.methodLink own idx Lib.objectInit).before a0 Z = true) (w2 : (Cond.instanceMethod Lib.objectInit).before a0 Z = true) (w3 : (Cond.code Lib.objectInit ⟨#[0xb1]⟩ 1 none).before a0 Z = true)
    (hsize : Ls.size = c.maxLocals) {a : Addr} (hf : 1 ≤ R.frames) (W : Nat) (hW : (S.map fun v => v.category).sum = W) (hl : W + 12 ≤ R.locals) (hd : decode c.code pc = .ok (.invokespecial idx, 3)) (pc' : Nat) (hp : pc + 3 = pc')
    (k : ∀ T' : State, Stand p l e R s m args below meth c T' locs cells slots → T'.heap = h → Wk p e below Fe T' (mkF m pc' Ls S)) : Wk p e below Fe T (mkF m pc Ls (.ref a :: S)) := by
  subst hp hW
  obtain ⟨T', X', e', st⟩ := initO X hx hZ hown w1 w2 w3 eT (g := mkF m pc Ls (.ref a :: S)) rfl hsize rfl hd hf (by show 2 * 0 + _ ≤ _; rw [Nat.mul_zero, Nat.zero_add]; exact Nat.le_refl _) hl
  exact (k T' X' e').step st
theorem w_getF (X : Stand p l e R s m args below meth c T locs cells slots) (hx : p.tables.exec = Jvm.exec) (hZ : Z.Warmed39 s.vm) {own R0 O n d host : String} {index : Nat} (hown : s.vm.findClass own = some m.cls) (eT : T.heap = h) (w : (Cond.fieldLink own index R0 n d).before a0 Z = true ∨ (Cond.fieldLinkNest own index R0 n d host).before a0 Z = true) (via : Via Z R0 O n d)
    {a : Addr} {v : Value} (F : Fld Z h a O n d v) (hd : decode c.code pc = .ok (.getfield index, 3)) (pc' : Nat) (hp : pc + 3 = pc')
    (k : ∀ T' : State, Stand p l e R s m args below meth c T' locs cells slots → T'.heap = h → Wk p e below Fe T' (mkF m pc' Ls (v :: S))) : Wk p e below Fe T (mkF m pc Ls (.ref a :: S)) := by
  subst hp
  obtain ⟨T', X', e', st⟩ := getF X hx hZ hown w via eT F (g := mkF m pc Ls (.ref a :: S)) rfl rfl hd
  exact (k T' X' e').step st
theorem w_putF (X : Stand p l e R s m args below meth c T locs cells slots) (hx : p.tables.exec = Jvm.exec) (hZ : Z.Warmed39 s.vm) {own R0 O n d host C : String} {index kk : Nat} {ty : FieldType} (hown : s.vm.findClass own = some m.cls) (eT : T.heap = h) (w : (Cond.fieldLink own index R0 n d).before a0 Z = true ∨ (Cond.fieldLinkNest own index R0 n d host).before a0 Z = true) (via : Via Z R0 O n d)
    {a : Addr} {v old : Value} (F : Fld Z h a O n d old) (E : Exa Z h a C) (L : (Cond.lays C O n d).before a0 Z = true ∨ ((Cond.laysFinal C O n d).before a0 Z = true ∧ own = O ∧ meth.name = "<init>")) (wi : (Cond.instantiable C kk).before a0 Z = true)
    (hty : parseFieldDescriptor d = some ty) (hn : narrow ty v = v) (hf : fits ty v = true) (hd : decode c.code pc = .ok (.putfield index, 3)) (pc' : Nat) (hp : pc + 3 = pc')
    (k : ∀ (T' : State) (h' : Heap), Stand p l e R s m args below meth c T' (locs ++ [⟨a, Jvm.RoadKit.slotOf Z O n d⟩]) cells slots → T'.heap = h' → Wr h h' a (Jvm.RoadKit.slotOf Z O n d) v → Wk p e below Fe T' (mkF m pc' Ls S)) : Wk p e below Fe T (mkF m pc Ls (v :: .ref a :: S)) := by
  subst hp
  obtain ⟨T', h', X', e', W', st⟩ := putF X hx hZ hown w via eT F E L wi hty hn hf (g := mkF m pc Ls (v :: .ref a :: S)) rfl rfl hd
  exact (k T' h' X' e' W').step st
theorem w_new (X : Stand p l e R s m args below meth c T locs cells slots) (hx : p.tables.exec = Jvm.exec) (hZ : Z.Warmed39 s.vm) {own C : String} {index n : Nat} (hown : s.vm.findClass own = some m.cls) (eT : T.heap = h) (w : (Cond.classLink own index C).before a0 Z = true) (wi : (Cond.instantiable C n).before a0 Z = true) (wz : (Cond.initialized C).before a0 Z = true)
    (hc : cells + 1 ≤ R.cells) (hl : slots + n ≤ R.slots) (hd : decode c.code pc = .ok (.new index, 3)) (pc' : Nat) (hp : pc + 3 = pc')
    (k : ∀ (T' : State) (h' : Heap) (a : Addr), Stand p l e R s m args below meth c T' locs (cells + 1) (slots + n) → T'.heap = h' → a = h.size → Ext h h' → Exa Z h' a C → (∀ {O nm d : String} {ty : FieldType}, Laid Z a0 C O nm d → parseFieldDescriptor d = some ty → Fld Z h' a O nm d (defaultValue ty)) → Wk p e below Fe T' (mkF m pc' Ls (.ref a :: S))) : Wk p e below Fe T (mkF m pc Ls S) := by
  subst hp
  obtain ⟨T', h', X', e', E', A', D', -, st⟩ := newO X hx hZ hown w wi wz eT (g := mkF m pc Ls S) rfl hd hc hl
  exact (k T' h' _ X' e' rfl E' A' D').step st
theorem w_newP (X : Stand p l e R s m args below meth c T locs cells slots) (hx : p.tables.exec = Jvm.exec) (hZ : Z.Warmed39 s.vm) (eT : T.heap = h) {aty : ArrayType} (w : (Cond.arrayClass (newarray.typeOf aty)).before a0 Z = true) {n : Int32} (hn : ¬ n < 0) (cap : Nat) (hcap : n.toNatClampNeg ≤ cap) (hb : cap * 8 ≤ 536870912) (hc : cells + 1 ≤ R.cells) (hl : slots + cap ≤ R.slots) (hd : decode c.code pc = .ok (.newarray aty, 2)) (pc' : Nat) (hp : pc + 2 = pc')
    (k : ∀ (T' : State) (h' : Heap) (a : Addr) (cA : ClassId), Stand p l e R s m args below meth c T' locs (cells + 1) (slots + cap) → T'.heap = h' → a = h.size → Ext h h' → Arv Z h' a cA (newarray.typeOf aty) n [] (defaultValue (newarray.typeOf aty)) → Wk p e below Fe T' (mkF m pc' Ls (.ref a :: S))) : Wk p e below Fe T (mkF m pc Ls (.int n :: S)) := by
  subst hp
  obtain ⟨T', h', cA, X', e', E', A', st⟩ := newP X hx hZ w eT (g := mkF m pc Ls (.int n :: S)) rfl hd rfl hn hcap hb hc hl
  exact (k T' h' _ cA X' e' rfl E' (Arv.new A' hn)).step st
theorem w_length (X : Stand p l e R s m args below meth c T locs cells slots) (hx : p.tables.exec = Jvm.exec) (hZ : Z.Warmed39 s.vm) (eT : T.heap = h) {a : Addr} {kA : ClassId} {ty : FieldType} {z : Int32} {vs : List Value} {dv : Value} (A : Arv Z h a kA ty z vs dv) (hd : decode c.code pc = .ok (.arraylength, 1)) (pc' : Nat) (hp : pc + 1 = pc')
    (k : Wk p e below Fe T (mkF m pc' Ls (.int z :: S))) : Wk p e below Fe T (mkF m pc Ls (.ref a :: S)) := by
  subst hp
  obtain ⟨cl, Ar, -, Sz, Nz, -, -⟩ := A
  refine k.step fun t q => X.arraylength hx (by rw [eT]; exact Ar.1) (State.isArrayOf_alike hZ.alike Ar.2.1) (g := mkF m pc Ls (.ref a :: S)) rfl rfl hd t ?_
  rw [len_of Sz Nz]; exact q
theorem w_bastore (X : Stand p l e R s m args below meth c T locs cells slots) (hx : p.tables.exec = Jvm.exec) (hZ : Z.Warmed39 s.vm) (eT : T.heap = h) {a : Addr} {kA : ClassId} {z : Int32} {vs : List Value} {dv : Value} (A : Arv Z h a kA .byte z vs dv) {j x : Int32} (hj : 0 ≤ j.toInt ∧ j.toInt < z.toInt) (i : Nat) (hi : j.toNatClampNeg = i) (hv : i < vs.length) (hd : decode c.code pc = .ok (.bastore, 1)) (pc' : Nat) (hp : pc + 1 = pc')
    (k : ∀ (T' : State) (h' : Heap), Stand p l e R s m args below meth c T' (locs ++ [⟨a, j.toNatClampNeg⟩]) cells slots → T'.heap = h' → Wr h h' a j.toNatClampNeg (.int x.toInt8.toInt32) → Arv Z h' a kA .byte z (vs.set i (.int x.toInt8.toInt32)) dv → Wk p e below Fe T' (mkF m pc' Ls S)) : Wk p e below Fe T (mkF m pc Ls (.int x :: .int j :: .ref a :: S)) := by
  subst hp
  obtain ⟨cl, Ar, q, Sz, Nz, H, G⟩ := A
  have hin : ¬ (j < 0 ∨ cl.slots.size ≤ j.toNatClampNeg) := inb_of Sz ⟨fun r => by have := Int32.lt_iff_toInt_lt.mp r; have h0 : (0 : Int32).toInt = 0 := rfl; omega, Int32.lt_iff_toInt_lt.mpr hj.2⟩
  obtain ⟨T', h', X', e', W', st⟩ := stB X hx hZ eT Ar hin (g := mkF m pc Ls (.int x :: .int j :: .ref a :: S)) rfl rfl hd
  exact (k T' h' X' e' W' (Arv.set Ar q Sz Nz H G (fits_nar_byte _) W' i hi hv)).step st
theorem w_baload (X : Stand p l e R s m args below meth c T locs cells slots) (hx : p.tables.exec = Jvm.exec) (hZ : Z.Warmed39 s.vm) (eT : T.heap = h) {a : Addr} {kA : ClassId} {z : Int32} {vs : List Value} {dv : Value} (A : Arv Z h a kA .byte z vs dv) {j : Int32} (hj : 0 ≤ j.toInt ∧ j.toInt < z.toInt) {v : Value} (hv : vs.getD j.toNatClampNeg dv = v) (hd : decode c.code pc = .ok (.baload, 1)) (pc' : Nat) (hp : pc + 1 = pc')
    (k : Wk p e below Fe T (mkF m pc' Ls (v :: S))) : Wk p e below Fe T (mkF m pc Ls (.int j :: .ref a :: S)) := by
  subst hp
  obtain ⟨cl, Ar, q, Sz, Nz, H, G⟩ := A
  have hin : ¬ (j < 0 ∨ cl.slots.size ≤ j.toNatClampNeg) := inb_of Sz ⟨fun r => by have := Int32.lt_iff_toInt_lt.mp r; have h0 : (0 : Int32).toInt = 0 := rfl; omega, Int32.lt_iff_toInt_lt.mpr hj.2⟩
  exact k.step fun t r => X.baloadBytes hx (by rw [eT]; exact Ar.1) (State.isArrayOf_alike hZ.alike Ar.2.1) Ar.2.2 hin (Has.at H hin hv) (g := mkF m pc Ls (.int j :: .ref a :: S)) rfl rfl hd t r
theorem w_priv0 (X : Stand p l e R s m args below meth c T locs cells slots) (hx : p.tables.exec = Jvm.exec) (hZ : Z.Warmed39 s.vm) {own : String} {index : Nat} {y : MethodName} {bytes : ByteArray} {maxL : Nat} {ret : Option FieldType} {rm : Room} {as' : Array Value} {Qc : Option Value → Heap → List Loc → Prop} (hown : s.vm.findClass own = some m.cls) (eT : T.heap = h)
    (hM : MetFree l y (head1 [Cond.code y bytes maxL ret] rm) (fun a U => a = as' ∧ Z.Warmed39 U.vm ∧ U.heap = h) (fun _ _ _ _ _ => True) (fun _ U o U' => ∃ v L, o = .returned v ∧ Qc v U'.heap L ∧ FrameEnd U o U' L rm.cells rm.slots))
    (w1 : (Cond.methodLink own index y).before a0 Z = true) (w2 : (Cond.instanceMethod y).before a0 Z = true) {ni : Nat} (w5 : (Cond.instantiable y.cls ni).before a0 Z = true) (w6 : (Cond.privateMethod y).before a0 Z = true) (w3 : (Cond.initialized y.cls).before a0 Z = true) (w4 : (Cond.code y bytes maxL ret).before a0 Z = true) (hy : y.cls ≠ "java/lang/invoke/MethodHandle" ∧ y.cls ≠ "java/lang/invoke/VarHandle")
    (a : Addr) {C : String} (E : Exa Z h a C)
    (hsize : Ls.size = c.maxLocals) (argsL rest : List Value) (hlen : ∀ sig, parseMethodDescriptor y.desc = some sig → argsL.length = sig.parameters.length) (hst : S = argsL.reverse ++ .ref a :: rest) (has : (Value.ref a :: argsL).toArray = as')
    (hf : rm.frames + 1 ≤ R.frames) (W : Nat) (hW : (rest.map fun v => v.category).sum = W) (hl : W + (maxL + 11) + rm.locals ≤ R.locals) (hc : cells + rm.cells ≤ R.cells) (hs : slots + rm.slots ≤ R.slots) (hd : decode c.code pc = .ok (.invokevirtual index, 3)) (pc' : Nat) (hp : pc + 3 = pc')
    (k : ∀ (v : Option Value) (T' : State) (L : List Loc), Stand p l e R s m args below meth c T' (locs ++ L) (cells + rm.cells) (slots + rm.slots) → Qc v T'.heap L → Wk p e below Fe T' (mkF m pc' Ls (v.toList ++ rest))) : Wk p e below Fe T (mkF m pc Ls S) := by
  subst hp hst has hW
  obtain ⟨cq, q, q'⟩ := E.cell
  obtain ⟨ci, ki, i1, i2, -, i4, -⟩ := Cond.instantiable_spec (mvT (args := args) hZ w5)
  have hps := Cond.privateMethod_at (mvP hZ w6 (args := args))
  have hsel := Jvm.Stand.selects_self_of_private (args := args) i1 i2 (by cases hq : ki.isInterface <;> simp [hq] at i4 ⊢) hps (mvT hZ w2) hy
  obtain ⟨v, _, ⟨T', L', k', n'⟩, -, X', ⟨Lc, q1, q2, q3, q4⟩, st⟩ := X.privateBack hx hown (mvT hZ w1) (mvT hZ w2) hsel hps (mvT hZ w4) hy (backOf hM hZ w4 w3 hf hl) (g := mkF m pc Ls (argsL.reverse ++ .ref a :: rest)) rfl hsize (Steps.refl _) (a := a) (by rw [eT]; exact q) q' hlen rfl (by show 2 * 0 + _ ≤ _; rw [Nat.mul_zero, Nat.zero_add]; exact Nat.le_refl _) hd (fun _ _ => ⟨rfl, eT, hc, hs⟩)
  dsimp only [Pt.U, Pt.locs, Pt.cells, Pt.slots] at X' q2 q3 q4 st q1
  subst q2 q3 q4
  exact (k v T' Lc X' q1).come st
theorem w_copy (X : Stand p l e R s m args below meth c T locs cells slots) (hx : p.tables.exec = Jvm.exec) (hZ : Z.Warmed39 s.vm) {own : String} {index : Nat} (hown : s.vm.findClass own = some m.cls) (eT : T.heap = h) (w1 : (Cond.methodLink own index Jvm.Stand.acN).before a0 Z = true) (w2 : (Cond.native Jvm.Stand.acN).before a0 Z = true) (w3 : (Cond.static Jvm.Stand.acN).before a0 Z = true) (w4 : (Cond.initialized "java/lang/System").before a0 Z = true)
    {a b : Addr} {kA kB : ClassId} {ty : FieldType} {z z' sp dp nn : Int32} {vs vd : List Value} {dv dd : Value} (A : Arv Z h a kA ty z vs dv) (B : Arv Z h b kB ty z' vd dd) (hty : refKind ty = false) (i1 i2 i3 : Nat) (e1 : sp.toNatClampNeg = i1) (e2 : dp.toNatClampNeg = i2) (e3 : nn.toNatClampNeg = i3) (h1 : ¬ sp < 0) (h2 : ¬ dp < 0) (h3 : ¬ nn < 0)
    (h4 : i1 + i3 ≤ z.toNatClampNeg) (h5 : i2 + i3 ≤ z'.toNatClampNeg) (hl : i2 + i3 ≤ vd.length) (res : List Value) (hres : vd.take i2 ++ ((List.range i3).map fun i => vs.getD (i1 + i) dv) ++ vd.drop (i2 + i3) = res) {n0 : Nat} (N : Fr n0 locs) (ge : n0 ≤ b)
    (hsize : Ls.size = c.maxLocals) (hf : 1 ≤ R.frames) (W : Nat) (hW : (S.map fun v => v.category).sum = W) (hlo : W + 18 ≤ R.locals) (hd : decode c.code pc = .ok (.invokestatic index, 3)) (pc' : Nat) (hp : pc + 3 = pc')
    (k : ∀ (T' : State) (h' : Heap) (L : List Loc), Stand p l e R s m args below meth c T' L cells slots → T'.heap = h' → Fr n0 L → Keep h h' [b] → Arv Z h' b kB ty z' res dd → Wk p e below Fe T' (mkF m pc' Ls S)) : Wk p e below Fe T (mkF m pc Ls (.int nn :: .int dp :: .ref b :: .int sp :: .ref a :: S)) := by
  subst hp hW hres e1 e2 e3
  obtain ⟨T', h', L, X', e', N', K', A', st⟩ := cpA X hx hZ hown w1 w2 w3 w4 eT A B (Or.inl ⟨rfl, hty⟩) h1 h2 h3 h4 h5 rfl hl N ge (g := mkF m pc Ls (.int nn :: .int dp :: .ref b :: .int sp :: .ref a :: S)) rfl hsize rfl hd hf (by show 2 * 0 + _ ≤ _; rw [Nat.mul_zero, Nat.zero_add]; exact Nat.le_refl _) hlo
  exact (k T' h' L X' e' N' K' A').step st
abbrev CT (l : Launch) (y : MethodName) (bytes : ByteArray) (maxL : Nat) (ret : Option FieldType) (ws : List Cond) (rm : Room) (as' : Array Value) (Z : State) (h0 : Heap) (Q : Option Value → Heap → List Loc → Prop) : Prop :=
  MetFree l y (head1 (Cond.code y bytes maxL ret :: ws) rm) (fun a U => a = as' ∧ Z.Warmed39 U.vm ∧ U.heap = h0) (fun _ _ _ _ _ => True) (fun _ U o U' => ∃ v L, o = .returned v ∧ Q v U'.heap L ∧ FrameEnd U o U' L rm.cells rm.slots)
theorem body_of {y : MethodName} {bytes : ByteArray} {maxL : Nat} {ret : Option FieldType} {ws : List Cond} {rm : Room} {as' : Array Value} {h0 : Heap} (hpl : plainFor y = true)
    (k : ∀ (p : Program) (e : Env) (s : State) (m : MethodId) (below : List Frame) (meth : Method) (c : Code) (s₁ : State), p.tables.exec = Jvm.exec → (∀ {pc : Nat} {r : Except DecodeError (Instr × Nat)}, decode bytes pc = r → decode c.code pc = r) → meth.sig.returnType = ret → meth.locks = false → c.maxLocals = maxL → s.vm.findClass y.cls = some m.cls → meth.name = y.name → Stand p l e rm s m as' below meth c s₁ [] 0 0 → s₁.heap = h0 → Z.Warmed39 s.vm → Wk p e below (FN s Q kc ks) s₁ (entryFrame m as' maxL)) :
    MetFree l y (head1 (Cond.code y bytes maxL ret :: ws) rm) (fun a U => a = as' ∧ Z.Warmed39 U.vm ∧ U.heap = h0) (fun _ _ _ _ _ => True) (fun _ U o U' => ∃ v L, o = .returned v ∧ Q v U'.heap L ∧ FrameEnd U o U' L kc ks) := by
  refine MetFree.of_bodySF hpl hisR ?_
  intro p e s m args below meth c s₁ Bd hml0 hP hK
  obtain ⟨rfl, hZ, hh⟩ := hP
  obtain ⟨s₂, o, h1, h2⟩ := k p e s m below meth c s₁ Bd.exec (fun q => hb Bd.bytes q) Bd.returns Bd.notSynchronized hml0 (findClass_of_methodNamed Bd.named) (name_of_methodNamed Bd.named Bd.method).1 (Stand.of_body Bd) (by rw [← hh, Bd.state]; rfl) hZ
  exact ⟨s₂, o, h1, h2⟩
theorem ne_arv {a b : Addr} {C : String} {k : Nat} {kA : ClassId} {ty : FieldType} {z : Int32} {vs : List Value} {dv : Value} (F : Exa Z h a C) (wi : (Cond.instantiable C k).before a0 Z = true) (G : Arv Z h b kA ty z vs dv) : a ≠ b := by
  obtain ⟨c, A, -⟩ := G; exact ne_arr F wi A
end Walk
/-! plain facts on Int32 and Int64, in Ints -/
theorem eqI {x y : Int32} (h : x.toInt = y.toInt) : x = y := Int32.toInt_inj.mp h
theorem maskX {x m : Int32} {A : Int} (k : Nat) (ha : x.toInt = A) (hk : k ≤ 31) (hm : m.toBitVec.toNat = 2 ^ k - 1) : (x &&& m).toInt = A % (2 ^ k : Nat) := by subst ha; exact c_mask x m k hk hm
theorem ishrX {x q : Int32} {A : Int} (k : Nat) (ha : x.toInt = A) (hk : q.toBitVec.toNat % 32 = k) : (x >>> (q &&& 31)).toInt = A / (2 ^ k : Nat) := by subst ha; exact c_ishr x q k hk
theorem i2bX {x : Int32} {A : Int} (ha : x.toInt = A) : (x.toInt8.toInt32.toInt - A) % 256 = 0 ∧ -128 ≤ x.toInt8.toInt32.toInt ∧ x.toInt8.toInt32.toInt < 128 := by
  subst ha; exact c_i2b x
theorem byteE {x : Int32} {A : Int} (ha : x.toInt = A) (h0 : -128 ≤ A) (h1 : A < 128) : x.toInt8.toInt32.toInt = x.toInt := by
  have := c_i2b x; omega
theorem narB {x : Int32} {A : Int} (ha : x.toInt = A) (h0 : -128 ≤ A) (h1 : A < 128) : nar .byte x = x := eqI (byteE ha h0 h1)
end Jvm.Own
namespace Jvm.Pilot.@@N@@
open Jvm Jvm.ClassFile Sem Op Lib Jvm.Free Jvm.Stand Jvm.LawKit Jvm.RoadKit Bundle Jvm.Own Jvm.Pilot.@@N@@.Jvm.D
abbrev cN_0 : String := "com/example/scrinium/scrinium/io/HeaderLine"
abbrev cN_1 : String := "com/example/scrinium/scrinium/io/HeaderLineDropCarriageReturnPinLaw"
theorem tw_0 {Z : State} {a0 : Array Value} (hw : ∀ d ∈ tables_1, d.before a0 Z = true) : (Jvm.Cond.arrayClass Jvm.ClassFile.FieldType.byte).before a0 Z = true := hw _ (List.mem_of_getElem? (i := 0) rfl)
theorem tw_1 {Z : State} {a0 : Array Value} (hw : ∀ d ∈ tables_1, d.before a0 Z = true) : (Jvm.Cond.methodLink "com/example/scrinium/scrinium/io/HeaderLineDropCarriageReturnPinLaw" (7 : Nat) ({ cls := "com/example/scrinium/scrinium/io/HeaderLineDropCarriageReturnPinLaw", name := "draw", desc := "(I)B" } : Jvm.MethodName)).before a0 Z = true := hw _ (List.mem_of_getElem? (i := 1) rfl)
theorem tw_2 {Z : State} {a0 : Array Value} (hw : ∀ d ∈ tables_1, d.before a0 Z = true) : (Jvm.Cond.static ({ cls := "com/example/scrinium/scrinium/io/HeaderLineDropCarriageReturnPinLaw", name := "draw", desc := "(I)B" } : Jvm.MethodName)).before a0 Z = true := hw _ (List.mem_of_getElem? (i := 2) rfl)
theorem tw_3 {Z : State} {a0 : Array Value} (hw : ∀ d ∈ tables_1, d.before a0 Z = true) : (Jvm.Cond.initialized "com/example/scrinium/scrinium/io/HeaderLineDropCarriageReturnPinLaw").before a0 Z = true := hw _ (List.mem_of_getElem? (i := 3) rfl)
theorem tw_4 {Z : State} {a0 : Array Value} (hw : ∀ d ∈ tables_1, d.before a0 Z = true) : (Jvm.Cond.code ({ cls := "com/example/scrinium/scrinium/io/HeaderLineDropCarriageReturnPinLaw", name := "draw", desc := "(I)B" } : Jvm.MethodName) method_2_code (1 : Nat) (Option.some Jvm.ClassFile.FieldType.byte)).before a0 Z = true := hw _ (List.mem_of_getElem? (i := 4) rfl)
theorem tw_5 {Z : State} {a0 : Array Value} (hw : ∀ d ∈ tables_1, d.before a0 Z = true) : (Jvm.Cond.classLink "com/example/scrinium/scrinium/io/HeaderLineDropCarriageReturnPinLaw" (13 : Nat) "com/example/scrinium/scrinium/io/HeaderLine").before a0 Z = true := hw _ (List.mem_of_getElem? (i := 5) rfl)
theorem tw_6 {Z : State} {a0 : Array Value} (hw : ∀ d ∈ tables_1, d.before a0 Z = true) : (Jvm.Cond.instantiable "com/example/scrinium/scrinium/io/HeaderLine" (3 : Nat)).before a0 Z = true := hw _ (List.mem_of_getElem? (i := 6) rfl)
theorem tw_7 {Z : State} {a0 : Array Value} (hw : ∀ d ∈ tables_1, d.before a0 Z = true) : (Jvm.Cond.initialized "com/example/scrinium/scrinium/io/HeaderLine").before a0 Z = true := hw _ (List.mem_of_getElem? (i := 7) rfl)
theorem tw_8 {Z : State} {a0 : Array Value} (hw : ∀ d ∈ tables_1, d.before a0 Z = true) : (Jvm.Cond.methodLink "com/example/scrinium/scrinium/io/HeaderLineDropCarriageReturnPinLaw" (15 : Nat) ({ cls := "com/example/scrinium/scrinium/io/HeaderLine", name := "<init>", desc := "()V" } : Jvm.MethodName)).before a0 Z = true := hw _ (List.mem_of_getElem? (i := 8) rfl)
theorem tw_9 {Z : State} {a0 : Array Value} (hw : ∀ d ∈ tables_1, d.before a0 Z = true) : (Jvm.Cond.instanceMethod ({ cls := "com/example/scrinium/scrinium/io/HeaderLine", name := "<init>", desc := "()V" } : Jvm.MethodName)).before a0 Z = true := hw _ (List.mem_of_getElem? (i := 9) rfl)
theorem tw_10 {Z : State} {a0 : Array Value} (hw : ∀ d ∈ tables_1, d.before a0 Z = true) : (Jvm.Cond.code ({ cls := "com/example/scrinium/scrinium/io/HeaderLine", name := "<init>", desc := "()V" } : Jvm.MethodName) prog_51_method_1_code (1 : Nat) (Option.none : Option Jvm.ClassFile.FieldType)).before a0 Z = true := hw _ (List.mem_of_getElem? (i := 10) rfl)
theorem tw_11 {Z : State} {a0 : Array Value} (hw : ∀ d ∈ tables_1, d.before a0 Z = true) : (Jvm.Cond.methodLink "com/example/scrinium/scrinium/io/HeaderLine" (1 : Nat) ({ cls := "java/lang/Object", name := "<init>", desc := "()V" } : Jvm.MethodName)).before a0 Z = true := hw _ (List.mem_of_getElem? (i := 11) rfl)
theorem tw_12 {Z : State} {a0 : Array Value} (hw : ∀ d ∈ tables_1, d.before a0 Z = true) : (Jvm.Cond.instanceMethod ({ cls := "java/lang/Object", name := "<init>", desc := "()V" } : Jvm.MethodName)).before a0 Z = true := hw _ (List.mem_of_getElem? (i := 12) rfl)
theorem tw_13 {Z : State} {a0 : Array Value} (hw : ∀ d ∈ tables_1, d.before a0 Z = true) : (Jvm.Cond.code ({ cls := "java/lang/Object", name := "<init>", desc := "()V" } : Jvm.MethodName) object_method_1_code (1 : Nat) (Option.none : Option Jvm.ClassFile.FieldType)).before a0 Z = true := hw _ (List.mem_of_getElem? (i := 13) rfl)
theorem tw_14 {Z : State} {a0 : Array Value} (hw : ∀ d ∈ tables_1, d.before a0 Z = true) : (Jvm.Cond.fieldLink "com/example/scrinium/scrinium/io/HeaderLine" (7 : Nat) "com/example/scrinium/scrinium/io/HeaderLine" "bytes" "[B").before a0 Z = true := hw _ (List.mem_of_getElem? (i := 14) rfl)
theorem tw_15 {Z : State} {a0 : Array Value} (hw : ∀ d ∈ tables_1, d.before a0 Z = true) : (Jvm.Cond.lays "com/example/scrinium/scrinium/io/HeaderLine" "com/example/scrinium/scrinium/io/HeaderLine" "bytes" "[B").before a0 Z = true := hw _ (List.mem_of_getElem? (i := 15) rfl)
theorem tw_16 {Z : State} {a0 : Array Value} (hw : ∀ d ∈ tables_1, d.before a0 Z = true) : (Jvm.Cond.methodLink "com/example/scrinium/scrinium/io/HeaderLineDropCarriageReturnPinLaw" (16 : Nat) ({ cls := "com/example/scrinium/scrinium/io/HeaderLine", name := "clear", desc := "(I)V" } : Jvm.MethodName)).before a0 Z = true := hw _ (List.mem_of_getElem? (i := 16) rfl)
theorem tw_17 {Z : State} {a0 : Array Value} (hw : ∀ d ∈ tables_1, d.before a0 Z = true) : (Jvm.Cond.declares ({ cls := "com/example/scrinium/scrinium/io/HeaderLine", name := "clear", desc := "(I)V" } : Jvm.MethodName)).before a0 Z = true := hw _ (List.mem_of_getElem? (i := 17) rfl)
theorem tw_18 {Z : State} {a0 : Array Value} (hw : ∀ d ∈ tables_1, d.before a0 Z = true) : (Jvm.Cond.instanceMethod ({ cls := "com/example/scrinium/scrinium/io/HeaderLine", name := "clear", desc := "(I)V" } : Jvm.MethodName)).before a0 Z = true := hw _ (List.mem_of_getElem? (i := 18) rfl)
theorem tw_19 {Z : State} {a0 : Array Value} (hw : ∀ d ∈ tables_1, d.before a0 Z = true) : (Jvm.Cond.selects "com/example/scrinium/scrinium/io/HeaderLine" ({ cls := "com/example/scrinium/scrinium/io/HeaderLine", name := "clear", desc := "(I)V" } : Jvm.MethodName) ({ cls := "com/example/scrinium/scrinium/io/HeaderLine", name := "clear", desc := "(I)V" } : Jvm.MethodName)).before a0 Z = true := hw _ (List.mem_of_getElem? (i := 19) rfl)
theorem tw_20 {Z : State} {a0 : Array Value} (hw : ∀ d ∈ tables_1, d.before a0 Z = true) : (Jvm.Cond.code ({ cls := "com/example/scrinium/scrinium/io/HeaderLine", name := "clear", desc := "(I)V" } : Jvm.MethodName) prog_51_method_2_code (2 : Nat) (Option.none : Option Jvm.ClassFile.FieldType)).before a0 Z = true := hw _ (List.mem_of_getElem? (i := 20) rfl)
theorem tw_21 {Z : State} {a0 : Array Value} (hw : ∀ d ∈ tables_1, d.before a0 Z = true) : (Jvm.Cond.fieldLink "com/example/scrinium/scrinium/io/HeaderLine" (13 : Nat) "com/example/scrinium/scrinium/io/HeaderLine" "length" "I").before a0 Z = true := hw _ (List.mem_of_getElem? (i := 21) rfl)
theorem tw_22 {Z : State} {a0 : Array Value} (hw : ∀ d ∈ tables_1, d.before a0 Z = true) : (Jvm.Cond.lays "com/example/scrinium/scrinium/io/HeaderLine" "com/example/scrinium/scrinium/io/HeaderLine" "length" "I").before a0 Z = true := hw _ (List.mem_of_getElem? (i := 22) rfl)
theorem tw_23 {Z : State} {a0 : Array Value} (hw : ∀ d ∈ tables_1, d.before a0 Z = true) : (Jvm.Cond.fieldLink "com/example/scrinium/scrinium/io/HeaderLine" (17 : Nat) "com/example/scrinium/scrinium/io/HeaderLine" "longest" "I").before a0 Z = true := hw _ (List.mem_of_getElem? (i := 23) rfl)
theorem tw_24 {Z : State} {a0 : Array Value} (hw : ∀ d ∈ tables_1, d.before a0 Z = true) : (Jvm.Cond.lays "com/example/scrinium/scrinium/io/HeaderLine" "com/example/scrinium/scrinium/io/HeaderLine" "longest" "I").before a0 Z = true := hw _ (List.mem_of_getElem? (i := 24) rfl)
theorem tw_25 {Z : State} {a0 : Array Value} (hw : ∀ d ∈ tables_1, d.before a0 Z = true) : (Jvm.Cond.methodLink "com/example/scrinium/scrinium/io/HeaderLineDropCarriageReturnPinLaw" (20 : Nat) ({ cls := "com/example/scrinium/scrinium/io/HeaderLine", name := "append", desc := "([BII)V" } : Jvm.MethodName)).before a0 Z = true := hw _ (List.mem_of_getElem? (i := 25) rfl)
theorem tw_26 {Z : State} {a0 : Array Value} (hw : ∀ d ∈ tables_1, d.before a0 Z = true) : (Jvm.Cond.declares ({ cls := "com/example/scrinium/scrinium/io/HeaderLine", name := "append", desc := "([BII)V" } : Jvm.MethodName)).before a0 Z = true := hw _ (List.mem_of_getElem? (i := 26) rfl)
theorem tw_27 {Z : State} {a0 : Array Value} (hw : ∀ d ∈ tables_1, d.before a0 Z = true) : (Jvm.Cond.instanceMethod ({ cls := "com/example/scrinium/scrinium/io/HeaderLine", name := "append", desc := "([BII)V" } : Jvm.MethodName)).before a0 Z = true := hw _ (List.mem_of_getElem? (i := 27) rfl)
theorem tw_28 {Z : State} {a0 : Array Value} (hw : ∀ d ∈ tables_1, d.before a0 Z = true) : (Jvm.Cond.selects "com/example/scrinium/scrinium/io/HeaderLine" ({ cls := "com/example/scrinium/scrinium/io/HeaderLine", name := "append", desc := "([BII)V" } : Jvm.MethodName) ({ cls := "com/example/scrinium/scrinium/io/HeaderLine", name := "append", desc := "([BII)V" } : Jvm.MethodName)).before a0 Z = true := hw _ (List.mem_of_getElem? (i := 28) rfl)
theorem tw_29 {Z : State} {a0 : Array Value} (hw : ∀ d ∈ tables_1, d.before a0 Z = true) : (Jvm.Cond.code ({ cls := "com/example/scrinium/scrinium/io/HeaderLine", name := "append", desc := "([BII)V" } : Jvm.MethodName) prog_51_method_3_code (4 : Nat) (Option.none : Option Jvm.ClassFile.FieldType)).before a0 Z = true := hw _ (List.mem_of_getElem? (i := 29) rfl)
theorem tw_30 {Z : State} {a0 : Array Value} (hw : ∀ d ∈ tables_1, d.before a0 Z = true) : (Jvm.Cond.methodLink "com/example/scrinium/scrinium/io/HeaderLine" (20 : Nat) ({ cls := "com/example/scrinium/scrinium/io/HeaderLine", name := "makeRoom", desc := "(I)V" } : Jvm.MethodName)).before a0 Z = true := hw _ (List.mem_of_getElem? (i := 30) rfl)
theorem tw_31 {Z : State} {a0 : Array Value} (hw : ∀ d ∈ tables_1, d.before a0 Z = true) : (Jvm.Cond.instanceMethod ({ cls := "com/example/scrinium/scrinium/io/HeaderLine", name := "makeRoom", desc := "(I)V" } : Jvm.MethodName)).before a0 Z = true := hw _ (List.mem_of_getElem? (i := 31) rfl)
theorem tw_32 {Z : State} {a0 : Array Value} (hw : ∀ d ∈ tables_1, d.before a0 Z = true) : (Jvm.Cond.privateMethod ({ cls := "com/example/scrinium/scrinium/io/HeaderLine", name := "makeRoom", desc := "(I)V" } : Jvm.MethodName)).before a0 Z = true := hw _ (List.mem_of_getElem? (i := 32) rfl)
theorem tw_33 {Z : State} {a0 : Array Value} (hw : ∀ d ∈ tables_1, d.before a0 Z = true) : (Jvm.Cond.code ({ cls := "com/example/scrinium/scrinium/io/HeaderLine", name := "makeRoom", desc := "(I)V" } : Jvm.MethodName) prog_51_method_10_code (2 : Nat) (Option.none : Option Jvm.ClassFile.FieldType)).before a0 Z = true := hw _ (List.mem_of_getElem? (i := 33) rfl)
theorem tw_34 {Z : State} {a0 : Array Value} (hw : ∀ d ∈ tables_1, d.before a0 Z = true) : (Jvm.Cond.methodLink "com/example/scrinium/scrinium/io/HeaderLine" (24 : Nat) ({ cls := "java/lang/System", name := "arraycopy", desc := "(Ljava/lang/Object;ILjava/lang/Object;II)V" } : Jvm.MethodName)).before a0 Z = true := hw _ (List.mem_of_getElem? (i := 34) rfl)
theorem tw_35 {Z : State} {a0 : Array Value} (hw : ∀ d ∈ tables_1, d.before a0 Z = true) : (Jvm.Cond.static ({ cls := "java/lang/System", name := "arraycopy", desc := "(Ljava/lang/Object;ILjava/lang/Object;II)V" } : Jvm.MethodName)).before a0 Z = true := hw _ (List.mem_of_getElem? (i := 35) rfl)
theorem tw_36 {Z : State} {a0 : Array Value} (hw : ∀ d ∈ tables_1, d.before a0 Z = true) : (Jvm.Cond.initialized "java/lang/System").before a0 Z = true := hw _ (List.mem_of_getElem? (i := 36) rfl)
theorem tw_37 {Z : State} {a0 : Array Value} (hw : ∀ d ∈ tables_1, d.before a0 Z = true) : (Jvm.Cond.native ({ cls := "java/lang/System", name := "arraycopy", desc := "(Ljava/lang/Object;ILjava/lang/Object;II)V" } : Jvm.MethodName)).before a0 Z = true := hw _ (List.mem_of_getElem? (i := 37) rfl)
theorem tw_38 {Z : State} {a0 : Array Value} (hw : ∀ d ∈ tables_1, d.before a0 Z = true) : (Jvm.Cond.methodLink "com/example/scrinium/scrinium/io/HeaderLineDropCarriageReturnPinLaw" (24 : Nat) ({ cls := "com/example/scrinium/scrinium/io/HeaderLine", name := "dropCarriageReturn", desc := "()V" } : Jvm.MethodName)).before a0 Z = true := hw _ (List.mem_of_getElem? (i := 38) rfl)
theorem tw_39 {Z : State} {a0 : Array Value} (hw : ∀ d ∈ tables_1, d.before a0 Z = true) : (Jvm.Cond.declares ({ cls := "com/example/scrinium/scrinium/io/HeaderLine", name := "dropCarriageReturn", desc := "()V" } : Jvm.MethodName)).before a0 Z = true := hw _ (List.mem_of_getElem? (i := 39) rfl)
theorem tw_40 {Z : State} {a0 : Array Value} (hw : ∀ d ∈ tables_1, d.before a0 Z = true) : (Jvm.Cond.instanceMethod ({ cls := "com/example/scrinium/scrinium/io/HeaderLine", name := "dropCarriageReturn", desc := "()V" } : Jvm.MethodName)).before a0 Z = true := hw _ (List.mem_of_getElem? (i := 40) rfl)
theorem tw_41 {Z : State} {a0 : Array Value} (hw : ∀ d ∈ tables_1, d.before a0 Z = true) : (Jvm.Cond.selects "com/example/scrinium/scrinium/io/HeaderLine" ({ cls := "com/example/scrinium/scrinium/io/HeaderLine", name := "dropCarriageReturn", desc := "()V" } : Jvm.MethodName) ({ cls := "com/example/scrinium/scrinium/io/HeaderLine", name := "dropCarriageReturn", desc := "()V" } : Jvm.MethodName)).before a0 Z = true := hw _ (List.mem_of_getElem? (i := 41) rfl)
theorem tw_42 {Z : State} {a0 : Array Value} (hw : ∀ d ∈ tables_1, d.before a0 Z = true) : (Jvm.Cond.code ({ cls := "com/example/scrinium/scrinium/io/HeaderLine", name := "dropCarriageReturn", desc := "()V" } : Jvm.MethodName) prog_51_method_5_code (1 : Nat) (Option.none : Option Jvm.ClassFile.FieldType)).before a0 Z = true := hw _ (List.mem_of_getElem? (i := 42) rfl)
theorem tw_43 {Z : State} {a0 : Array Value} (hw : ∀ d ∈ tables_1, d.before a0 Z = true) : (Jvm.Cond.methodLink "com/example/scrinium/scrinium/io/HeaderLineDropCarriageReturnPinLaw" (27 : Nat) ({ cls := "com/example/scrinium/scrinium/io/HeaderLine", name := "length", desc := "()I" } : Jvm.MethodName)).before a0 Z = true := hw _ (List.mem_of_getElem? (i := 43) rfl)
theorem tw_44 {Z : State} {a0 : Array Value} (hw : ∀ d ∈ tables_1, d.before a0 Z = true) : (Jvm.Cond.declares ({ cls := "com/example/scrinium/scrinium/io/HeaderLine", name := "length", desc := "()I" } : Jvm.MethodName)).before a0 Z = true := hw _ (List.mem_of_getElem? (i := 44) rfl)
theorem tw_45 {Z : State} {a0 : Array Value} (hw : ∀ d ∈ tables_1, d.before a0 Z = true) : (Jvm.Cond.instanceMethod ({ cls := "com/example/scrinium/scrinium/io/HeaderLine", name := "length", desc := "()I" } : Jvm.MethodName)).before a0 Z = true := hw _ (List.mem_of_getElem? (i := 45) rfl)
theorem tw_46 {Z : State} {a0 : Array Value} (hw : ∀ d ∈ tables_1, d.before a0 Z = true) : (Jvm.Cond.selects "com/example/scrinium/scrinium/io/HeaderLine" ({ cls := "com/example/scrinium/scrinium/io/HeaderLine", name := "length", desc := "()I" } : Jvm.MethodName) ({ cls := "com/example/scrinium/scrinium/io/HeaderLine", name := "length", desc := "()I" } : Jvm.MethodName)).before a0 Z = true := hw _ (List.mem_of_getElem? (i := 46) rfl)
theorem tw_47 {Z : State} {a0 : Array Value} (hw : ∀ d ∈ tables_1, d.before a0 Z = true) : (Jvm.Cond.code ({ cls := "com/example/scrinium/scrinium/io/HeaderLine", name := "length", desc := "()I" } : Jvm.MethodName) prog_51_method_6_code (1 : Nat) (Option.some Jvm.ClassFile.FieldType.int)).before a0 Z = true := hw _ (List.mem_of_getElem? (i := 47) rfl)
theorem tw_48 {Z : State} {a0 : Array Value} (hw : ∀ d ∈ tables_1, d.before a0 Z = true) : (Jvm.Cond.methodLink "com/example/scrinium/scrinium/io/HeaderLineDropCarriageReturnPinLaw" (31 : Nat) ({ cls := "com/example/scrinium/scrinium/io/HeaderLine", name := "indexOf", desc := "(C)I" } : Jvm.MethodName)).before a0 Z = true := hw _ (List.mem_of_getElem? (i := 48) rfl)
theorem tw_49 {Z : State} {a0 : Array Value} (hw : ∀ d ∈ tables_1, d.before a0 Z = true) : (Jvm.Cond.declares ({ cls := "com/example/scrinium/scrinium/io/HeaderLine", name := "indexOf", desc := "(C)I" } : Jvm.MethodName)).before a0 Z = true := hw _ (List.mem_of_getElem? (i := 49) rfl)
theorem tw_50 {Z : State} {a0 : Array Value} (hw : ∀ d ∈ tables_1, d.before a0 Z = true) : (Jvm.Cond.instanceMethod ({ cls := "com/example/scrinium/scrinium/io/HeaderLine", name := "indexOf", desc := "(C)I" } : Jvm.MethodName)).before a0 Z = true := hw _ (List.mem_of_getElem? (i := 50) rfl)
theorem tw_51 {Z : State} {a0 : Array Value} (hw : ∀ d ∈ tables_1, d.before a0 Z = true) : (Jvm.Cond.selects "com/example/scrinium/scrinium/io/HeaderLine" ({ cls := "com/example/scrinium/scrinium/io/HeaderLine", name := "indexOf", desc := "(C)I" } : Jvm.MethodName) ({ cls := "com/example/scrinium/scrinium/io/HeaderLine", name := "indexOf", desc := "(C)I" } : Jvm.MethodName)).before a0 Z = true := hw _ (List.mem_of_getElem? (i := 51) rfl)
theorem tw_52 {Z : State} {a0 : Array Value} (hw : ∀ d ∈ tables_1, d.before a0 Z = true) : (Jvm.Cond.code ({ cls := "com/example/scrinium/scrinium/io/HeaderLine", name := "indexOf", desc := "(C)I" } : Jvm.MethodName) prog_51_method_8_code (3 : Nat) (Option.some Jvm.ClassFile.FieldType.int)).before a0 Z = true := hw _ (List.mem_of_getElem? (i := 52) rfl)
theorem d2_0 : decode prog_51_method_1_code 0 = .ok (.aload_n 0, 1) := by decide +kernel
theorem d2_1 : decode prog_51_method_1_code 1 = .ok (.invokespecial 1, 3) := by decide +kernel
theorem d2_4 : decode prog_51_method_1_code 4 = .ok (.aload_n 0, 1) := by decide +kernel
theorem d2_5 : decode prog_51_method_1_code 5 = .ok (.sipush 256, 3) := by decide +kernel
theorem d2_8 : decode prog_51_method_1_code 8 = .ok (.newarray .byte, 2) := by decide +kernel
theorem d2_10 : decode prog_51_method_1_code 10 = .ok (.putfield 7, 3) := by decide +kernel
theorem d2_13 : decode prog_51_method_1_code 13 = .ok (.return_, 1) := by decide +kernel
theorem pn_0 : plainName "com/example/scrinium/scrinium/io/HeaderLine" = true := by first | (simp [plainName, overriddenIn]; done) | decide +kernel
abbrev mN_2 : MethodName := ⟨"com/example/scrinium/scrinium/io/HeaderLine", "<init>", "()V"⟩
theorem d4_0 : decode prog_51_method_2_code 0 = .ok (.aload_n 0, 1) := by decide +kernel
theorem d4_1 : decode prog_51_method_2_code 1 = .ok (.iconst 0, 1) := by decide +kernel
theorem d4_2 : decode prog_51_method_2_code 2 = .ok (.putfield 13, 3) := by decide +kernel
theorem d4_5 : decode prog_51_method_2_code 5 = .ok (.aload_n 0, 1) := by decide +kernel
theorem d4_6 : decode prog_51_method_2_code 6 = .ok (.iload_n 1, 1) := by decide +kernel
theorem d4_7 : decode prog_51_method_2_code 7 = .ok (.putfield 17, 3) := by decide +kernel
theorem d4_10 : decode prog_51_method_2_code 10 = .ok (.return_, 1) := by decide +kernel
abbrev mN_4 : MethodName := ⟨"com/example/scrinium/scrinium/io/HeaderLine", "clear", "(I)V"⟩
theorem d6_0 : decode prog_51_method_10_code 0 = .ok (.iload_n 1, 1) := by decide +kernel
theorem d6_1 : decode prog_51_method_10_code 1 = .ok (.aload_n 0, 1) := by decide +kernel
theorem d6_2 : decode prog_51_method_10_code 2 = .ok (.getfield 17, 3) := by decide +kernel
theorem d6_5 : decode prog_51_method_10_code 5 = .ok (.aload_n 0, 1) := by decide +kernel
theorem d6_6 : decode prog_51_method_10_code 6 = .ok (.getfield 13, 3) := by decide +kernel
theorem d6_9 : decode prog_51_method_10_code 9 = .ok (.isub, 1) := by decide +kernel
theorem d6_10 : decode prog_51_method_10_code 10 = .ok (.if_icmp .lt 20, 3) := by decide +kernel
theorem d6_30 : decode prog_51_method_10_code 30 = .ok (.aload_n 0, 1) := by decide +kernel
theorem d6_31 : decode prog_51_method_10_code 31 = .ok (.getfield 13, 3) := by decide +kernel
theorem d6_34 : decode prog_51_method_10_code 34 = .ok (.iload_n 1, 1) := by decide +kernel
theorem d6_35 : decode prog_51_method_10_code 35 = .ok (.iadd, 1) := by decide +kernel
theorem d6_36 : decode prog_51_method_10_code 36 = .ok (.aload_n 0, 1) := by decide +kernel
theorem d6_37 : decode prog_51_method_10_code 37 = .ok (.getfield 7, 3) := by decide +kernel
theorem d6_40 : decode prog_51_method_10_code 40 = .ok (.arraylength, 1) := by decide +kernel
theorem d6_41 : decode prog_51_method_10_code 41 = .ok (.if_icmp .le 30, 3) := by decide +kernel
theorem d6_71 : decode prog_51_method_10_code 71 = .ok (.return_, 1) := by decide +kernel
abbrev mN_6 : MethodName := ⟨"com/example/scrinium/scrinium/io/HeaderLine", "makeRoom", "(I)V"⟩
theorem pd_0 : parseMethodDescriptor "(I)V" = some ⟨[.int], none⟩ := by decide +kernel
theorem d5_0 : decode prog_51_method_3_code 0 = .ok (.aload_n 0, 1) := by decide +kernel
theorem d5_1 : decode prog_51_method_3_code 1 = .ok (.iload_n 3, 1) := by decide +kernel
theorem d5_2 : decode prog_51_method_3_code 2 = .ok (.invokevirtual 20, 3) := by decide +kernel
theorem d5_5 : decode prog_51_method_3_code 5 = .ok (.aload_n 1, 1) := by decide +kernel
theorem d5_6 : decode prog_51_method_3_code 6 = .ok (.iload_n 2, 1) := by decide +kernel
theorem d5_7 : decode prog_51_method_3_code 7 = .ok (.aload_n 0, 1) := by decide +kernel
theorem d5_8 : decode prog_51_method_3_code 8 = .ok (.getfield 7, 3) := by decide +kernel
theorem d5_11 : decode prog_51_method_3_code 11 = .ok (.aload_n 0, 1) := by decide +kernel
theorem d5_12 : decode prog_51_method_3_code 12 = .ok (.getfield 13, 3) := by decide +kernel
theorem d5_15 : decode prog_51_method_3_code 15 = .ok (.iload_n 3, 1) := by decide +kernel
theorem d5_16 : decode prog_51_method_3_code 16 = .ok (.invokestatic 24, 3) := by decide +kernel
theorem d5_19 : decode prog_51_method_3_code 19 = .ok (.aload_n 0, 1) := by decide +kernel
theorem d5_20 : decode prog_51_method_3_code 20 = .ok (.dup, 1) := by decide +kernel
theorem d5_21 : decode prog_51_method_3_code 21 = .ok (.getfield 13, 3) := by decide +kernel
theorem d5_24 : decode prog_51_method_3_code 24 = .ok (.iload_n 3, 1) := by decide +kernel
theorem d5_25 : decode prog_51_method_3_code 25 = .ok (.iadd, 1) := by decide +kernel
theorem d5_26 : decode prog_51_method_3_code 26 = .ok (.putfield 13, 3) := by decide +kernel
theorem d5_29 : decode prog_51_method_3_code 29 = .ok (.return_, 1) := by decide +kernel
abbrev mN_5 : MethodName := ⟨"com/example/scrinium/scrinium/io/HeaderLine", "append", "([BII)V"⟩
theorem d1_0 : decode method_2_code 0 = .ok (.iload_n 0, 1) := by decide +kernel
theorem d1_1 : decode method_2_code 1 = .ok (.iconst 1, 1) := by decide +kernel
theorem d1_2 : decode method_2_code 2 = .ok (.iand, 1) := by decide +kernel
theorem d1_3 : decode method_2_code 3 = .ok (.ifCond .eq 8, 3) := by decide +kernel
theorem d1_6 : decode method_2_code 6 = .ok (.bipush 13, 2) := by decide +kernel
theorem d1_8 : decode method_2_code 8 = .ok (.goto 7, 3) := by decide +kernel
theorem d1_11 : decode method_2_code 11 = .ok (.iload_n 0, 1) := by decide +kernel
theorem d1_12 : decode method_2_code 12 = .ok (.iconst 1, 1) := by decide +kernel
theorem d1_13 : decode method_2_code 13 = .ok (.ishr, 1) := by decide +kernel
theorem d1_14 : decode method_2_code 14 = .ok (.i2b, 1) := by decide +kernel
theorem d1_15 : decode method_2_code 15 = .ok (.ireturn, 1) := by decide +kernel
theorem pn_1 : plainName "com/example/scrinium/scrinium/io/HeaderLineDropCarriageReturnPinLaw" = true := by first | (simp [plainName, overriddenIn]; done) | decide +kernel
abbrev mN_1 : MethodName := ⟨"com/example/scrinium/scrinium/io/HeaderLineDropCarriageReturnPinLaw", "draw", "(I)B"⟩
theorem d7_0 : decode prog_51_method_5_code 0 = .ok (.aload_n 0, 1) := by decide +kernel
theorem d7_1 : decode prog_51_method_5_code 1 = .ok (.getfield 13, 3) := by decide +kernel
theorem d7_4 : decode prog_51_method_5_code 4 = .ok (.ifCond .le 29, 3) := by decide +kernel
theorem d7_33 : decode prog_51_method_5_code 33 = .ok (.return_, 1) := by decide +kernel
abbrev mN_7 : MethodName := ⟨"com/example/scrinium/scrinium/io/HeaderLine", "dropCarriageReturn", "()V"⟩
theorem d7_7 : decode prog_51_method_5_code 7 = .ok (.aload_n 0, 1) := by decide +kernel
theorem d7_8 : decode prog_51_method_5_code 8 = .ok (.getfield 7, 3) := by decide +kernel
theorem d7_11 : decode prog_51_method_5_code 11 = .ok (.aload_n 0, 1) := by decide +kernel
theorem d7_12 : decode prog_51_method_5_code 12 = .ok (.getfield 13, 3) := by decide +kernel
theorem d7_15 : decode prog_51_method_5_code 15 = .ok (.iconst 1, 1) := by decide +kernel
theorem d7_16 : decode prog_51_method_5_code 16 = .ok (.isub, 1) := by decide +kernel
theorem d7_17 : decode prog_51_method_5_code 17 = .ok (.baload, 1) := by decide +kernel
theorem d7_18 : decode prog_51_method_5_code 18 = .ok (.bipush 13, 2) := by decide +kernel
theorem d7_20 : decode prog_51_method_5_code 20 = .ok (.if_icmp .ne 13, 3) := by decide +kernel
theorem d7_23 : decode prog_51_method_5_code 23 = .ok (.aload_n 0, 1) := by decide +kernel
theorem d7_24 : decode prog_51_method_5_code 24 = .ok (.dup, 1) := by decide +kernel
theorem d7_25 : decode prog_51_method_5_code 25 = .ok (.getfield 13, 3) := by decide +kernel
theorem d7_28 : decode prog_51_method_5_code 28 = .ok (.iconst 1, 1) := by decide +kernel
theorem d7_29 : decode prog_51_method_5_code 29 = .ok (.isub, 1) := by decide +kernel
theorem d7_30 : decode prog_51_method_5_code 30 = .ok (.putfield 13, 3) := by decide +kernel
theorem d8_0 : decode prog_51_method_6_code 0 = .ok (.aload_n 0, 1) := by decide +kernel
theorem d8_1 : decode prog_51_method_6_code 1 = .ok (.getfield 13, 3) := by decide +kernel
theorem d8_4 : decode prog_51_method_6_code 4 = .ok (.ireturn, 1) := by decide +kernel
abbrev mN_8 : MethodName := ⟨"com/example/scrinium/scrinium/io/HeaderLine", "length", "()I"⟩
theorem d9_0 : decode prog_51_method_8_code 0 = .ok (.iconst 0, 1) := by decide +kernel
theorem d9_1 : decode prog_51_method_8_code 1 = .ok (.istore_n 2, 1) := by decide +kernel
theorem d9_2 : decode prog_51_method_8_code 2 = .ok (.iload_n 2, 1) := by decide +kernel
theorem d9_3 : decode prog_51_method_8_code 3 = .ok (.aload_n 0, 1) := by decide +kernel
theorem d9_4 : decode prog_51_method_8_code 4 = .ok (.getfield 13, 3) := by decide +kernel
theorem d9_7 : decode prog_51_method_8_code 7 = .ok (.if_icmp .ge 21, 3) := by decide +kernel
theorem d9_10 : decode prog_51_method_8_code 10 = .ok (.aload_n 0, 1) := by decide +kernel
theorem d9_11 : decode prog_51_method_8_code 11 = .ok (.getfield 7, 3) := by decide +kernel
theorem d9_14 : decode prog_51_method_8_code 14 = .ok (.iload_n 2, 1) := by decide +kernel
theorem d9_15 : decode prog_51_method_8_code 15 = .ok (.baload, 1) := by decide +kernel
theorem d9_16 : decode prog_51_method_8_code 16 = .ok (.iload_n 1, 1) := by decide +kernel
theorem d9_17 : decode prog_51_method_8_code 17 = .ok (.if_icmp .ne 5, 3) := by decide +kernel
theorem d9_20 : decode prog_51_method_8_code 20 = .ok (.iload_n 2, 1) := by decide +kernel
theorem d9_21 : decode prog_51_method_8_code 21 = .ok (.ireturn, 1) := by decide +kernel
theorem d9_22 : decode prog_51_method_8_code 22 = .ok (.iinc 2 1, 3) := by decide +kernel
theorem d9_25 : decode prog_51_method_8_code 25 = .ok (.goto (-23), 3) := by decide +kernel
theorem d9_28 : decode prog_51_method_8_code 28 = .ok (.iconst (-1), 1) := by decide +kernel
theorem d9_29 : decode prog_51_method_8_code 29 = .ok (.ireturn, 1) := by decide +kernel
abbrev mN_9 : MethodName := ⟨"com/example/scrinium/scrinium/io/HeaderLine", "indexOf", "(C)I"⟩
theorem pd_1 : parseMethodDescriptor "(I)B" = some ⟨[.int], some .byte⟩ := by decide +kernel
theorem pd_2 : parseMethodDescriptor "()V" = some ⟨[], none⟩ := by decide +kernel
theorem pd_3 : parseMethodDescriptor "([BII)V" = some ⟨[(.array .byte), .int, .int], none⟩ := by decide +kernel
theorem pd_4 : parseMethodDescriptor "()I" = some ⟨[], some .int⟩ := by decide +kernel
theorem pd_5 : parseMethodDescriptor "(C)I" = some ⟨[.char], some .int⟩ := by decide +kernel
theorem ef_2 (m : MethodId) (x0 : Addr) : entryFrame m #[(.ref x0)] 1 = mkF m 0 #[.val (.ref x0)] [] := by first | (simp [entryFrame, mkF, argsToLocals, Value.category]; done) | rfl
def Q2 (Z : State) (a : Addr) (h0 : Heap) (n0 : Nat) (v : Option Value) (h : Heap) (L : List Loc) : Prop := ∃ bb : Addr, ∃ kb : ClassId, v = none ∧ Fr n0 L ∧ Keep h0 h [a] ∧ h0.size ≤ bb ∧ Fld Z h a cN_0 "bytes" "[B" (.ref bb) ∧ Fld Z h a cN_0 "length" "I" (.int (0 : Int32)) ∧ Fld Z h a cN_0 "longest" "I" (.int (0 : Int32)) ∧ Arv Z h bb kb .byte (256 : Int32) [(.int (0 : Int32)), (.int (0 : Int32)), (.int (0 : Int32)), (.int (0 : Int32))] (.int (0 : Int32))
set_option maxRecDepth 65536 in
set_option maxHeartbeats 40000000 in
theorem rm2 (l : Launch) (Z : State) (a0 : Array Value) (hw : ∀ d ∈ tables_1, d.before a0 Z = true) (ws : List Jvm.Cond) (a : Addr) (h0 : Heap) (n0 : Nat) (Z0 : n0 ≤ h0.size) (E_a : Exa Z h0 a cN_0) (F_bytes_a : Fld Z h0 a cN_0 "bytes" "[B" .null) (F_length_a : Fld Z h0 a cN_0 "length" "I" (.int (0 : Int32))) (F_longest_a : Fld Z h0 a cN_0 "longest" "I" (.int (0 : Int32))) (g_a : n0 ≤ a) :
    CT l mN_2 prog_51_method_1_code 1 none ws ({ frames := 1, cells := 1, slots := 256, locals := 12 } : Room) #[(.ref a)] Z h0 (Q2 Z a h0 n0) := by
  refine body_of (plainFor_of_name pn_0) ?_
  intro p e s m below meth c s₁ hx dB hret hlk hml hown0 hnm X0 e0 hZ
  have hown : s.vm.findClass cN_0 = some m.cls := hown0
  have N0 := Fr.nil n0
  rw [ef_2]
  show Wk p e below (FN s (Q2 Z a h0 n0) 1 256) s₁ (mkF m 0 #[.val (.ref a)] [])
  refine w_aloadN X0 hx (.ref a) (dB d2_0) 1 rfl rfl rfl ?_
  refine w_objinit X0 hx hZ hown e0 (tw_11 hw) (tw_12 hw) (tw_13 hw) (by rw [hml]; rfl) (by decide) 0 rfl (by decide) (dB d2_1) 4 rfl (fun T1 X1 e1 => ?_)
  refine w_aloadN X1 hx (.ref a) (dB d2_4) 5 rfl rfl rfl ?_
  refine w_sipush X1 hx (dB d2_5) 8 rfl (256 : Int32) (by decide) ?_
  refine w_newP X1 hx hZ e1 (aty := .byte) (tw_0 hw) (by decide) 256 (by decide) (by decide) (by decide) (by decide) (dB d2_8) 10 rfl (fun T2 h2 a2 k2 X2 e2 g2 E2 A2 => ?_)
  have ne_a_a2 : a ≠ a2 := Nat.ne_of_lt (Nat.lt_of_lt_of_le E_a.lt (Nat.le_of_eq g2.symm))
  have g_a2 : n0 ≤ a2 := Nat.le_trans Z0 (Nat.le_of_eq g2.symm)
  have s_a2 : h0.size ≤ a2 := Nat.le_trans (Keep.refl h0 [a]).1 (Nat.le_of_eq g2.symm)
  have F3 : Exa Z h2 a cN_0 := E_a.ext E2
  have F4 : Fld Z h2 a cN_0 "bytes" "[B" .null := F_bytes_a.ext E2
  have F5 : Fld Z h2 a cN_0 "length" "I" (.int (0 : Int32)) := F_length_a.ext E2
  have F6 : Fld Z h2 a cN_0 "longest" "I" (.int (0 : Int32)) := F_longest_a.ext E2
  have Z2 : n0 ≤ h2.size := Nat.le_trans Z0 E2.1
  have K2 : Keep h0 h2 [a] := (Keep.refl h0 [a]).ext E2
  have V2 : Arv Z h2 a2 k2 .byte (256 : Int32) [(.int (0 : Int32)), (.int (0 : Int32)), (.int (0 : Int32)), (.int (0 : Int32))] (.int (0 : Int32)) := A2.pad (pad_rep [] (.int (0 : Int32)) 4)
  refine w_putF X2 hx hZ hown e2 (host := "") (Or.inl (tw_14 hw)) Via.refl F4 F3 (Or.inl (tw_15 hw)) (tw_6 hw) (ty := (.array .byte)) (by decide) rfl rfl (dB d2_10) 13 rfl (fun T7 h7 X7 e7 W7 => ?_)
  have F8 : Exa Z h7 a cN_0 := F3.wr W7
  have F9 : Fld Z h7 a cN_0 "bytes" "[B" (.ref a2) := F4.same W7
  have F10 : Fld Z h7 a cN_0 "length" "I" (.int (0 : Int32)) := F5.other W7 (Or.inr (slot_ne (Or.inl (tw_22 hw)) (Or.inl (tw_15 hw)) (by decide) (t := .int) (t' := (.array .byte)) (by decide) (by decide)))
  have F11 : Fld Z h7 a cN_0 "longest" "I" (.int (0 : Int32)) := F6.other W7 (Or.inr (slot_ne (Or.inl (tw_24 hw)) (Or.inl (tw_15 hw)) (by decide) (t := .int) (t' := (.array .byte)) (by decide) (by decide)))
  have F12 : Arv Z h7 a2 k2 .byte (256 : Int32) [(.int (0 : Int32)), (.int (0 : Int32)), (.int (0 : Int32)), (.int (0 : Int32))] (.int (0 : Int32)) := V2.other W7 (Ne.symm ne_a_a2)
  have Z7 : n0 ≤ h7.size := by rw [W7.size]; exact Z2
  have K7 : Keep h0 h7 [a] := K2.wr W7 (Or.inl (List.mem_of_getElem? (i := 0) rfl))
  have N7 := Fr.snoc X7 N0 g_a
  refine w_ret0 X7 hx hlk hret (dB d2_13) (by decide) (by decide) ?_
  rw [e7]
  exact ⟨a2, k2, rfl, N7, K7, s_a2, F9, F10, F11, F12⟩
theorem ef_4 (m : MethodId) (x0 : Addr) : entryFrame m #[(.ref x0), (.int (16 : Int32))] 2 = mkF m 0 #[.val (.ref x0), .val (.int (16 : Int32))] [] := by first | (simp [entryFrame, mkF, argsToLocals, Value.category]; done) | rfl
def Q4 (Z : State) (a : Addr) (bb : Addr) (xl : Int32) (xg : Int32) (h0 : Heap) (n0 : Nat) (v : Option Value) (h : Heap) (L : List Loc) : Prop := v = none ∧ Fr n0 L ∧ Keep h0 h [a] ∧ Fld Z h a cN_0 "bytes" "[B" (.ref bb) ∧ Fld Z h a cN_0 "length" "I" (.int (0 : Int32)) ∧ Fld Z h a cN_0 "longest" "I" (.int (16 : Int32))
set_option maxRecDepth 65536 in
set_option maxHeartbeats 40000000 in
theorem rm4 (l : Launch) (Z : State) (a0 : Array Value) (hw : ∀ d ∈ tables_1, d.before a0 Z = true) (ws : List Jvm.Cond) (a : Addr) (bb : Addr) (xl : Int32) (xg : Int32) (h0 : Heap) (n0 : Nat) (Z0 : n0 ≤ h0.size) (E_a : Exa Z h0 a cN_0) (F_bytes_a : Fld Z h0 a cN_0 "bytes" "[B" (.ref bb)) (F_length_a : Fld Z h0 a cN_0 "length" "I" (.int xl)) (F_longest_a : Fld Z h0 a cN_0 "longest" "I" (.int xg)) (g_a : n0 ≤ a) :
    CT l mN_4 prog_51_method_2_code 2 none ws ({ frames := 0, cells := 0, slots := 0, locals := 0 } : Room) #[(.ref a), (.int (16 : Int32))] Z h0 (Q4 Z a bb xl xg h0 n0) := by
  refine body_of (plainFor_of_name pn_0) ?_
  intro p e s m below meth c s₁ hx dB hret hlk hml hown0 hnm X0 e0 hZ
  have hown : s.vm.findClass cN_0 = some m.cls := hown0
  have N0 := Fr.nil n0
  rw [ef_4]
  show Wk p e below (FN s (Q4 Z a bb xl xg h0 n0) 0 0) s₁ (mkF m 0 #[.val (.ref a), .val (.int (16 : Int32))] [])
  refine w_aloadN X0 hx (.ref a) (dB d4_0) 1 rfl rfl rfl ?_
  refine w_iconst X0 hx (dB d4_1) 2 rfl (0 : Int32) (by decide) ?_
  refine w_putF X0 hx hZ hown e0 (host := "") (Or.inl (tw_21 hw)) Via.refl F_length_a E_a (Or.inl (tw_22 hw)) (tw_6 hw) (ty := .int) (by decide) rfl rfl (dB d4_2) 5 rfl (fun T13 h13 X13 e13 W13 => ?_)
  have F14 : Exa Z h13 a cN_0 := E_a.wr W13
  have F15 : Fld Z h13 a cN_0 "bytes" "[B" (.ref bb) := F_bytes_a.other W13 (Or.inr (slot_ne (Or.inl (tw_15 hw)) (Or.inl (tw_22 hw)) (by decide) (t := (.array .byte)) (t' := .int) (by decide) (by decide)))
  have F16 : Fld Z h13 a cN_0 "length" "I" (.int (0 : Int32)) := F_length_a.same W13
  have F17 : Fld Z h13 a cN_0 "longest" "I" (.int xg) := F_longest_a.other W13 (Or.inr (slot_ne (Or.inl (tw_24 hw)) (Or.inl (tw_22 hw)) (by decide) (t := .int) (t' := .int) (by decide) (by decide)))
  have Z13 : n0 ≤ h13.size := by rw [W13.size]; exact Z0
  have K13 : Keep h0 h13 [a] := (Keep.refl h0 [a]).wr W13 (Or.inl (List.mem_of_getElem? (i := 0) rfl))
  have N13 := Fr.snoc X13 N0 g_a
  refine w_aloadN X13 hx (.ref a) (dB d4_5) 6 rfl rfl rfl ?_
  refine w_iloadN X13 hx (16 : Int32) (dB d4_6) 7 rfl rfl ?_
  refine w_putF X13 hx hZ hown e13 (host := "") (Or.inl (tw_23 hw)) Via.refl F17 F14 (Or.inl (tw_24 hw)) (tw_6 hw) (ty := .int) (by decide) rfl rfl (dB d4_7) 10 rfl (fun T18 h18 X18 e18 W18 => ?_)
  have F19 : Exa Z h18 a cN_0 := F14.wr W18
  have F20 : Fld Z h18 a cN_0 "bytes" "[B" (.ref bb) := F15.other W18 (Or.inr (slot_ne (Or.inl (tw_15 hw)) (Or.inl (tw_24 hw)) (by decide) (t := (.array .byte)) (t' := .int) (by decide) (by decide)))
  have F21 : Fld Z h18 a cN_0 "length" "I" (.int (0 : Int32)) := F16.other W18 (Or.inr (slot_ne (Or.inl (tw_22 hw)) (Or.inl (tw_24 hw)) (by decide) (t := .int) (t' := .int) (by decide) (by decide)))
  have F22 : Fld Z h18 a cN_0 "longest" "I" (.int (16 : Int32)) := F17.same W18
  have Z18 : n0 ≤ h18.size := by rw [W18.size]; exact Z13
  have K18 : Keep h0 h18 [a] := K13.wr W18 (Or.inl (List.mem_of_getElem? (i := 0) rfl))
  have N18 := Fr.snoc X18 N13 g_a
  refine w_ret0 X18 hx hlk hret (dB d4_10) (by decide) (by decide) ?_
  rw [e18]
  exact ⟨rfl, N18, K18, F20, F21, F22⟩
theorem ef_6n0 (m : MethodId) (x0 : Addr) : entryFrame m #[(.ref x0), (.int (0 : Int32))] 2 = mkF m 0 #[.val (.ref x0), .val (.int (0 : Int32))] [] := by first | (simp [entryFrame, mkF, argsToLocals, Value.category]; done) | rfl
def Q6n0 (Z : State) (a : Addr) (bb : Addr) (kb : ClassId) (d0 : Int32) (d1 : Int32) (d2 : Int32) (d3 : Int32) (h0 : Heap) (n0 : Nat) (v : Option Value) (h : Heap) (L : List Loc) : Prop := v = none ∧ Fr n0 L ∧ h = h0
set_option maxRecDepth 65536 in
set_option maxHeartbeats 40000000 in
theorem rm6n0 (l : Launch) (Z : State) (a0 : Array Value) (hw : ∀ d ∈ tables_1, d.before a0 Z = true) (ws : List Jvm.Cond) (a : Addr) (bb : Addr) (kb : ClassId) (d0 : Int32) (d1 : Int32) (d2 : Int32) (d3 : Int32) (h0 : Heap) (n0 : Nat) (Z0 : n0 ≤ h0.size) (F_bytes_a : Fld Z h0 a cN_0 "bytes" "[B" (.ref bb)) (F_length_a : Fld Z h0 a cN_0 "length" "I" (.int (0 : Int32))) (F_longest_a : Fld Z h0 a cN_0 "longest" "I" (.int (16 : Int32))) (V_bb : Arv Z h0 bb kb .byte (256 : Int32) [(.int d0), (.int d1), (.int d2), (.int d3)] (.int (0 : Int32))) :
    CT l mN_6 prog_51_method_10_code 2 none ws ({ frames := 0, cells := 0, slots := 0, locals := 0 } : Room) #[(.ref a), (.int (0 : Int32))] Z h0 (Q6n0 Z a bb kb d0 d1 d2 d3 h0 n0) := by
  refine body_of (plainFor_of_name pn_0) ?_
  intro p e s m below meth c s₁ hx dB hret hlk hml hown0 hnm X0 e0 hZ
  have hown : s.vm.findClass cN_0 = some m.cls := hown0
  have N0 := Fr.nil n0
  rw [ef_6n0]
  show Wk p e below (FN s (Q6n0 Z a bb kb d0 d1 d2 d3 h0 n0) 0 0) s₁ (mkF m 0 #[.val (.ref a), .val (.int (0 : Int32))] [])
  refine w_iloadN X0 hx (0 : Int32) (dB d6_0) 1 rfl rfl ?_
  refine w_aloadN X0 hx (.ref a) (dB d6_1) 2 rfl rfl rfl ?_
  refine w_getF X0 hx hZ hown e0 (host := "") (Or.inl (tw_23 hw)) Via.refl F_longest_a (dB d6_2) 5 rfl (fun T23 X23 e23 => ?_)
  refine w_aloadN X23 hx (.ref a) (dB d6_5) 6 rfl rfl rfl ?_
  refine w_getF X23 hx hZ hown e23 (host := "") (Or.inl (tw_21 hw)) Via.refl F_length_a (dB d6_6) 9 rfl (fun T24 X24 e24 => ?_)
  refine w_isub X24 hx (dB d6_9) 10 rfl (show (16 : Int32) = (16 : Int32) - (0 : Int32) from by decide) ?_
  refine w_icmp_lt X24 hx 0 16 (by decide) (by decide) (dB d6_10) 30 13 (fun c25 => ?_) (fun c25 => ?_)
  ·refine w_aloadN X24 hx (.ref a) (dB d6_30) 31 rfl rfl rfl ?_
   refine w_getF X24 hx hZ hown e24 (host := "") (Or.inl (tw_21 hw)) Via.refl F_length_a (dB d6_31) 34 rfl (fun T26 X26 e26 => ?_)
   refine w_iloadN X26 hx (0 : Int32) (dB d6_34) 35 rfl rfl ?_
   refine w_iadd X26 hx (dB d6_35) 36 rfl (show (0 : Int32) = (0 : Int32) + (0 : Int32) from by decide) ?_
   refine w_aloadN X26 hx (.ref a) (dB d6_36) 37 rfl rfl rfl ?_
   refine w_getF X26 hx hZ hown e26 (host := "") (Or.inl (tw_14 hw)) Via.refl F_bytes_a (dB d6_37) 40 rfl (fun T27 X27 e27 => ?_)
   refine w_length X27 hx hZ e27 V_bb (dB d6_40) 41 rfl ?_
   refine w_icmp_le X27 hx 0 256 (by decide) (by decide) (dB d6_41) 71 44 (fun c28 => ?_) (fun c28 => ?_)
   ·refine w_ret0 X27 hx hlk hret (dB d6_71) (by decide) (by decide) ?_
    rw [e27]
    exact ⟨rfl, N0, rfl⟩
   ·exfalso; omega
  ·exfalso; omega
theorem ef_6n1 (m : MethodId) (x0 : Addr) : entryFrame m #[(.ref x0), (.int (1 : Int32))] 2 = mkF m 0 #[.val (.ref x0), .val (.int (1 : Int32))] [] := by first | (simp [entryFrame, mkF, argsToLocals, Value.category]; done) | rfl
def Q6n1 (Z : State) (a : Addr) (bb : Addr) (kb : ClassId) (d0 : Int32) (d1 : Int32) (d2 : Int32) (d3 : Int32) (h0 : Heap) (n0 : Nat) (v : Option Value) (h : Heap) (L : List Loc) : Prop := v = none ∧ Fr n0 L ∧ h = h0
set_option maxRecDepth 65536 in
set_option maxHeartbeats 40000000 in
theorem rm6n1 (l : Launch) (Z : State) (a0 : Array Value) (hw : ∀ d ∈ tables_1, d.before a0 Z = true) (ws : List Jvm.Cond) (a : Addr) (bb : Addr) (kb : ClassId) (d0 : Int32) (d1 : Int32) (d2 : Int32) (d3 : Int32) (h0 : Heap) (n0 : Nat) (Z0 : n0 ≤ h0.size) (F_bytes_a : Fld Z h0 a cN_0 "bytes" "[B" (.ref bb)) (F_length_a : Fld Z h0 a cN_0 "length" "I" (.int (0 : Int32))) (F_longest_a : Fld Z h0 a cN_0 "longest" "I" (.int (16 : Int32))) (V_bb : Arv Z h0 bb kb .byte (256 : Int32) [(.int d0), (.int d1), (.int d2), (.int d3)] (.int (0 : Int32))) :
    CT l mN_6 prog_51_method_10_code 2 none ws ({ frames := 0, cells := 0, slots := 0, locals := 0 } : Room) #[(.ref a), (.int (1 : Int32))] Z h0 (Q6n1 Z a bb kb d0 d1 d2 d3 h0 n0) := by
  refine body_of (plainFor_of_name pn_0) ?_
  intro p e s m below meth c s₁ hx dB hret hlk hml hown0 hnm X0 e0 hZ
  have hown : s.vm.findClass cN_0 = some m.cls := hown0
  have N0 := Fr.nil n0
  rw [ef_6n1]
  show Wk p e below (FN s (Q6n1 Z a bb kb d0 d1 d2 d3 h0 n0) 0 0) s₁ (mkF m 0 #[.val (.ref a), .val (.int (1 : Int32))] [])
  refine w_iloadN X0 hx (1 : Int32) (dB d6_0) 1 rfl rfl ?_
  refine w_aloadN X0 hx (.ref a) (dB d6_1) 2 rfl rfl rfl ?_
  refine w_getF X0 hx hZ hown e0 (host := "") (Or.inl (tw_23 hw)) Via.refl F_longest_a (dB d6_2) 5 rfl (fun T29 X29 e29 => ?_)
  refine w_aloadN X29 hx (.ref a) (dB d6_5) 6 rfl rfl rfl ?_
  refine w_getF X29 hx hZ hown e29 (host := "") (Or.inl (tw_21 hw)) Via.refl F_length_a (dB d6_6) 9 rfl (fun T30 X30 e30 => ?_)
  refine w_isub X30 hx (dB d6_9) 10 rfl (show (16 : Int32) = (16 : Int32) - (0 : Int32) from by decide) ?_
  refine w_icmp_lt X30 hx 1 16 (by decide) (by decide) (dB d6_10) 30 13 (fun c31 => ?_) (fun c31 => ?_)
  ·refine w_aloadN X30 hx (.ref a) (dB d6_30) 31 rfl rfl rfl ?_
   refine w_getF X30 hx hZ hown e30 (host := "") (Or.inl (tw_21 hw)) Via.refl F_length_a (dB d6_31) 34 rfl (fun T32 X32 e32 => ?_)
   refine w_iloadN X32 hx (1 : Int32) (dB d6_34) 35 rfl rfl ?_
   refine w_iadd X32 hx (dB d6_35) 36 rfl (show (1 : Int32) = (0 : Int32) + (1 : Int32) from by decide) ?_
   refine w_aloadN X32 hx (.ref a) (dB d6_36) 37 rfl rfl rfl ?_
   refine w_getF X32 hx hZ hown e32 (host := "") (Or.inl (tw_14 hw)) Via.refl F_bytes_a (dB d6_37) 40 rfl (fun T33 X33 e33 => ?_)
   refine w_length X33 hx hZ e33 V_bb (dB d6_40) 41 rfl ?_
   refine w_icmp_le X33 hx 1 256 (by decide) (by decide) (dB d6_41) 71 44 (fun c34 => ?_) (fun c34 => ?_)
   ·refine w_ret0 X33 hx hlk hret (dB d6_71) (by decide) (by decide) ?_
    rw [e33]
    exact ⟨rfl, N0, rfl⟩
   ·exfalso; omega
  ·exfalso; omega
theorem ef_6n2 (m : MethodId) (x0 : Addr) : entryFrame m #[(.ref x0), (.int (2 : Int32))] 2 = mkF m 0 #[.val (.ref x0), .val (.int (2 : Int32))] [] := by first | (simp [entryFrame, mkF, argsToLocals, Value.category]; done) | rfl
def Q6n2 (Z : State) (a : Addr) (bb : Addr) (kb : ClassId) (d0 : Int32) (d1 : Int32) (d2 : Int32) (d3 : Int32) (h0 : Heap) (n0 : Nat) (v : Option Value) (h : Heap) (L : List Loc) : Prop := v = none ∧ Fr n0 L ∧ h = h0
set_option maxRecDepth 65536 in
set_option maxHeartbeats 40000000 in
theorem rm6n2 (l : Launch) (Z : State) (a0 : Array Value) (hw : ∀ d ∈ tables_1, d.before a0 Z = true) (ws : List Jvm.Cond) (a : Addr) (bb : Addr) (kb : ClassId) (d0 : Int32) (d1 : Int32) (d2 : Int32) (d3 : Int32) (h0 : Heap) (n0 : Nat) (Z0 : n0 ≤ h0.size) (F_bytes_a : Fld Z h0 a cN_0 "bytes" "[B" (.ref bb)) (F_length_a : Fld Z h0 a cN_0 "length" "I" (.int (0 : Int32))) (F_longest_a : Fld Z h0 a cN_0 "longest" "I" (.int (16 : Int32))) (V_bb : Arv Z h0 bb kb .byte (256 : Int32) [(.int d0), (.int d1), (.int d2), (.int d3)] (.int (0 : Int32))) :
    CT l mN_6 prog_51_method_10_code 2 none ws ({ frames := 0, cells := 0, slots := 0, locals := 0 } : Room) #[(.ref a), (.int (2 : Int32))] Z h0 (Q6n2 Z a bb kb d0 d1 d2 d3 h0 n0) := by
  refine body_of (plainFor_of_name pn_0) ?_
  intro p e s m below meth c s₁ hx dB hret hlk hml hown0 hnm X0 e0 hZ
  have hown : s.vm.findClass cN_0 = some m.cls := hown0
  have N0 := Fr.nil n0
  rw [ef_6n2]
  show Wk p e below (FN s (Q6n2 Z a bb kb d0 d1 d2 d3 h0 n0) 0 0) s₁ (mkF m 0 #[.val (.ref a), .val (.int (2 : Int32))] [])
  refine w_iloadN X0 hx (2 : Int32) (dB d6_0) 1 rfl rfl ?_
  refine w_aloadN X0 hx (.ref a) (dB d6_1) 2 rfl rfl rfl ?_
  refine w_getF X0 hx hZ hown e0 (host := "") (Or.inl (tw_23 hw)) Via.refl F_longest_a (dB d6_2) 5 rfl (fun T35 X35 e35 => ?_)
  refine w_aloadN X35 hx (.ref a) (dB d6_5) 6 rfl rfl rfl ?_
  refine w_getF X35 hx hZ hown e35 (host := "") (Or.inl (tw_21 hw)) Via.refl F_length_a (dB d6_6) 9 rfl (fun T36 X36 e36 => ?_)
  refine w_isub X36 hx (dB d6_9) 10 rfl (show (16 : Int32) = (16 : Int32) - (0 : Int32) from by decide) ?_
  refine w_icmp_lt X36 hx 2 16 (by decide) (by decide) (dB d6_10) 30 13 (fun c37 => ?_) (fun c37 => ?_)
  ·refine w_aloadN X36 hx (.ref a) (dB d6_30) 31 rfl rfl rfl ?_
   refine w_getF X36 hx hZ hown e36 (host := "") (Or.inl (tw_21 hw)) Via.refl F_length_a (dB d6_31) 34 rfl (fun T38 X38 e38 => ?_)
   refine w_iloadN X38 hx (2 : Int32) (dB d6_34) 35 rfl rfl ?_
   refine w_iadd X38 hx (dB d6_35) 36 rfl (show (2 : Int32) = (0 : Int32) + (2 : Int32) from by decide) ?_
   refine w_aloadN X38 hx (.ref a) (dB d6_36) 37 rfl rfl rfl ?_
   refine w_getF X38 hx hZ hown e38 (host := "") (Or.inl (tw_14 hw)) Via.refl F_bytes_a (dB d6_37) 40 rfl (fun T39 X39 e39 => ?_)
   refine w_length X39 hx hZ e39 V_bb (dB d6_40) 41 rfl ?_
   refine w_icmp_le X39 hx 2 256 (by decide) (by decide) (dB d6_41) 71 44 (fun c40 => ?_) (fun c40 => ?_)
   ·refine w_ret0 X39 hx hlk hret (dB d6_71) (by decide) (by decide) ?_
    rw [e39]
    exact ⟨rfl, N0, rfl⟩
   ·exfalso; omega
  ·exfalso; omega
theorem ef_6n3 (m : MethodId) (x0 : Addr) : entryFrame m #[(.ref x0), (.int (3 : Int32))] 2 = mkF m 0 #[.val (.ref x0), .val (.int (3 : Int32))] [] := by first | (simp [entryFrame, mkF, argsToLocals, Value.category]; done) | rfl
def Q6n3 (Z : State) (a : Addr) (bb : Addr) (kb : ClassId) (d0 : Int32) (d1 : Int32) (d2 : Int32) (d3 : Int32) (h0 : Heap) (n0 : Nat) (v : Option Value) (h : Heap) (L : List Loc) : Prop := v = none ∧ Fr n0 L ∧ h = h0
set_option maxRecDepth 65536 in
set_option maxHeartbeats 40000000 in
theorem rm6n3 (l : Launch) (Z : State) (a0 : Array Value) (hw : ∀ d ∈ tables_1, d.before a0 Z = true) (ws : List Jvm.Cond) (a : Addr) (bb : Addr) (kb : ClassId) (d0 : Int32) (d1 : Int32) (d2 : Int32) (d3 : Int32) (h0 : Heap) (n0 : Nat) (Z0 : n0 ≤ h0.size) (F_bytes_a : Fld Z h0 a cN_0 "bytes" "[B" (.ref bb)) (F_length_a : Fld Z h0 a cN_0 "length" "I" (.int (0 : Int32))) (F_longest_a : Fld Z h0 a cN_0 "longest" "I" (.int (16 : Int32))) (V_bb : Arv Z h0 bb kb .byte (256 : Int32) [(.int d0), (.int d1), (.int d2), (.int d3)] (.int (0 : Int32))) :
    CT l mN_6 prog_51_method_10_code 2 none ws ({ frames := 0, cells := 0, slots := 0, locals := 0 } : Room) #[(.ref a), (.int (3 : Int32))] Z h0 (Q6n3 Z a bb kb d0 d1 d2 d3 h0 n0) := by
  refine body_of (plainFor_of_name pn_0) ?_
  intro p e s m below meth c s₁ hx dB hret hlk hml hown0 hnm X0 e0 hZ
  have hown : s.vm.findClass cN_0 = some m.cls := hown0
  have N0 := Fr.nil n0
  rw [ef_6n3]
  show Wk p e below (FN s (Q6n3 Z a bb kb d0 d1 d2 d3 h0 n0) 0 0) s₁ (mkF m 0 #[.val (.ref a), .val (.int (3 : Int32))] [])
  refine w_iloadN X0 hx (3 : Int32) (dB d6_0) 1 rfl rfl ?_
  refine w_aloadN X0 hx (.ref a) (dB d6_1) 2 rfl rfl rfl ?_
  refine w_getF X0 hx hZ hown e0 (host := "") (Or.inl (tw_23 hw)) Via.refl F_longest_a (dB d6_2) 5 rfl (fun T41 X41 e41 => ?_)
  refine w_aloadN X41 hx (.ref a) (dB d6_5) 6 rfl rfl rfl ?_
  refine w_getF X41 hx hZ hown e41 (host := "") (Or.inl (tw_21 hw)) Via.refl F_length_a (dB d6_6) 9 rfl (fun T42 X42 e42 => ?_)
  refine w_isub X42 hx (dB d6_9) 10 rfl (show (16 : Int32) = (16 : Int32) - (0 : Int32) from by decide) ?_
  refine w_icmp_lt X42 hx 3 16 (by decide) (by decide) (dB d6_10) 30 13 (fun c43 => ?_) (fun c43 => ?_)
  ·refine w_aloadN X42 hx (.ref a) (dB d6_30) 31 rfl rfl rfl ?_
   refine w_getF X42 hx hZ hown e42 (host := "") (Or.inl (tw_21 hw)) Via.refl F_length_a (dB d6_31) 34 rfl (fun T44 X44 e44 => ?_)
   refine w_iloadN X44 hx (3 : Int32) (dB d6_34) 35 rfl rfl ?_
   refine w_iadd X44 hx (dB d6_35) 36 rfl (show (3 : Int32) = (0 : Int32) + (3 : Int32) from by decide) ?_
   refine w_aloadN X44 hx (.ref a) (dB d6_36) 37 rfl rfl rfl ?_
   refine w_getF X44 hx hZ hown e44 (host := "") (Or.inl (tw_14 hw)) Via.refl F_bytes_a (dB d6_37) 40 rfl (fun T45 X45 e45 => ?_)
   refine w_length X45 hx hZ e45 V_bb (dB d6_40) 41 rfl ?_
   refine w_icmp_le X45 hx 3 256 (by decide) (by decide) (dB d6_41) 71 44 (fun c46 => ?_) (fun c46 => ?_)
   ·refine w_ret0 X45 hx hlk hret (dB d6_71) (by decide) (by decide) ?_
    rw [e45]
    exact ⟨rfl, N0, rfl⟩
   ·exfalso; omega
  ·exfalso; omega
theorem ef_6n4 (m : MethodId) (x0 : Addr) : entryFrame m #[(.ref x0), (.int (4 : Int32))] 2 = mkF m 0 #[.val (.ref x0), .val (.int (4 : Int32))] [] := by first | (simp [entryFrame, mkF, argsToLocals, Value.category]; done) | rfl
def Q6n4 (Z : State) (a : Addr) (bb : Addr) (kb : ClassId) (d0 : Int32) (d1 : Int32) (d2 : Int32) (d3 : Int32) (h0 : Heap) (n0 : Nat) (v : Option Value) (h : Heap) (L : List Loc) : Prop := v = none ∧ Fr n0 L ∧ h = h0
set_option maxRecDepth 65536 in
set_option maxHeartbeats 40000000 in
theorem rm6n4 (l : Launch) (Z : State) (a0 : Array Value) (hw : ∀ d ∈ tables_1, d.before a0 Z = true) (ws : List Jvm.Cond) (a : Addr) (bb : Addr) (kb : ClassId) (d0 : Int32) (d1 : Int32) (d2 : Int32) (d3 : Int32) (h0 : Heap) (n0 : Nat) (Z0 : n0 ≤ h0.size) (F_bytes_a : Fld Z h0 a cN_0 "bytes" "[B" (.ref bb)) (F_length_a : Fld Z h0 a cN_0 "length" "I" (.int (0 : Int32))) (F_longest_a : Fld Z h0 a cN_0 "longest" "I" (.int (16 : Int32))) (V_bb : Arv Z h0 bb kb .byte (256 : Int32) [(.int d0), (.int d1), (.int d2), (.int d3)] (.int (0 : Int32))) :
    CT l mN_6 prog_51_method_10_code 2 none ws ({ frames := 0, cells := 0, slots := 0, locals := 0 } : Room) #[(.ref a), (.int (4 : Int32))] Z h0 (Q6n4 Z a bb kb d0 d1 d2 d3 h0 n0) := by
  refine body_of (plainFor_of_name pn_0) ?_
  intro p e s m below meth c s₁ hx dB hret hlk hml hown0 hnm X0 e0 hZ
  have hown : s.vm.findClass cN_0 = some m.cls := hown0
  have N0 := Fr.nil n0
  rw [ef_6n4]
  show Wk p e below (FN s (Q6n4 Z a bb kb d0 d1 d2 d3 h0 n0) 0 0) s₁ (mkF m 0 #[.val (.ref a), .val (.int (4 : Int32))] [])
  refine w_iloadN X0 hx (4 : Int32) (dB d6_0) 1 rfl rfl ?_
  refine w_aloadN X0 hx (.ref a) (dB d6_1) 2 rfl rfl rfl ?_
  refine w_getF X0 hx hZ hown e0 (host := "") (Or.inl (tw_23 hw)) Via.refl F_longest_a (dB d6_2) 5 rfl (fun T47 X47 e47 => ?_)
  refine w_aloadN X47 hx (.ref a) (dB d6_5) 6 rfl rfl rfl ?_
  refine w_getF X47 hx hZ hown e47 (host := "") (Or.inl (tw_21 hw)) Via.refl F_length_a (dB d6_6) 9 rfl (fun T48 X48 e48 => ?_)
  refine w_isub X48 hx (dB d6_9) 10 rfl (show (16 : Int32) = (16 : Int32) - (0 : Int32) from by decide) ?_
  refine w_icmp_lt X48 hx 4 16 (by decide) (by decide) (dB d6_10) 30 13 (fun c49 => ?_) (fun c49 => ?_)
  ·refine w_aloadN X48 hx (.ref a) (dB d6_30) 31 rfl rfl rfl ?_
   refine w_getF X48 hx hZ hown e48 (host := "") (Or.inl (tw_21 hw)) Via.refl F_length_a (dB d6_31) 34 rfl (fun T50 X50 e50 => ?_)
   refine w_iloadN X50 hx (4 : Int32) (dB d6_34) 35 rfl rfl ?_
   refine w_iadd X50 hx (dB d6_35) 36 rfl (show (4 : Int32) = (0 : Int32) + (4 : Int32) from by decide) ?_
   refine w_aloadN X50 hx (.ref a) (dB d6_36) 37 rfl rfl rfl ?_
   refine w_getF X50 hx hZ hown e50 (host := "") (Or.inl (tw_14 hw)) Via.refl F_bytes_a (dB d6_37) 40 rfl (fun T51 X51 e51 => ?_)
   refine w_length X51 hx hZ e51 V_bb (dB d6_40) 41 rfl ?_
   refine w_icmp_le X51 hx 4 256 (by decide) (by decide) (dB d6_41) 71 44 (fun c52 => ?_) (fun c52 => ?_)
   ·refine w_ret0 X51 hx hlk hret (dB d6_71) (by decide) (by decide) ?_
    rw [e51]
    exact ⟨rfl, N0, rfl⟩
   ·exfalso; omega
  ·exfalso; omega
theorem ef_5n4 (m : MethodId) (x0 : Addr) (x1 : Addr) : entryFrame m #[(.ref x0), (.ref x1), (.int (0 : Int32)), (.int (4 : Int32))] 4 = mkF m 0 #[.val (.ref x0), .val (.ref x1), .val (.int (0 : Int32)), .val (.int (4 : Int32))] [] := by first | (simp [entryFrame, mkF, argsToLocals, Value.category]; done) | rfl
def Q5n4 (Z : State) (a : Addr) (ar : Addr) (bb : Addr) (kb : ClassId) (ka : ClassId) (d0 : Int32) (d1 : Int32) (d2 : Int32) (d3 : Int32) (s0 : Int32) (s1 : Int32) (s2 : Int32) (s3 : Int32) (h0 : Heap) (n0 : Nat) (v : Option Value) (h : Heap) (L : List Loc) : Prop := v = none ∧ Fr n0 L ∧ Keep h0 h [a, bb] ∧ Fld Z h a cN_0 "bytes" "[B" (.ref bb) ∧ Fld Z h a cN_0 "length" "I" (.int (4 : Int32)) ∧ Fld Z h a cN_0 "longest" "I" (.int (16 : Int32)) ∧ Arv Z h bb kb .byte (256 : Int32) [(.int s0), (.int s1), (.int s2), (.int s3)] (.int (0 : Int32))
set_option maxRecDepth 65536 in
set_option maxHeartbeats 40000000 in
theorem rm5n4 (l : Launch) (Z : State) (a0 : Array Value) (hw : ∀ d ∈ tables_1, d.before a0 Z = true) (ws : List Jvm.Cond) (a : Addr) (ar : Addr) (bb : Addr) (kb : ClassId) (ka : ClassId) (d0 : Int32) (d1 : Int32) (d2 : Int32) (d3 : Int32) (s0 : Int32) (s1 : Int32) (s2 : Int32) (s3 : Int32) (h0 : Heap) (n0 : Nat) (Z0 : n0 ≤ h0.size) (E_a : Exa Z h0 a cN_0) (F_bytes_a : Fld Z h0 a cN_0 "bytes" "[B" (.ref bb)) (F_length_a : Fld Z h0 a cN_0 "length" "I" (.int (0 : Int32))) (F_longest_a : Fld Z h0 a cN_0 "longest" "I" (.int (16 : Int32))) (V_bb : Arv Z h0 bb kb .byte (256 : Int32) [(.int d0), (.int d1), (.int d2), (.int d3)] (.int (0 : Int32))) (V_ar : Arv Z h0 ar ka .byte (4 : Int32) [(.int s0), (.int s1), (.int s2), (.int s3)] (.int (0 : Int32))) (g_a : n0 ≤ a) (g_bb : n0 ≤ bb) (ne1 : ar ≠ bb) :
    CT l mN_5 prog_51_method_3_code 4 none ws ({ frames := 1, cells := 0, slots := 0, locals := 18 } : Room) #[(.ref a), (.ref ar), (.int (0 : Int32)), (.int (4 : Int32))] Z h0 (Q5n4 Z a ar bb kb ka d0 d1 d2 d3 s0 s1 s2 s3 h0 n0) := by
  refine body_of (plainFor_of_name pn_0) ?_
  intro p e s m below meth c s₁ hx dB hret hlk hml hown0 hnm X0 e0 hZ
  have hown : s.vm.findClass cN_0 = some m.cls := hown0
  have N0 := Fr.nil n0
  rw [ef_5n4]
  show Wk p e below (FN s (Q5n4 Z a ar bb kb ka d0 d1 d2 d3 s0 s1 s2 s3 h0 n0) 0 0) s₁ (mkF m 0 #[.val (.ref a), .val (.ref ar), .val (.int (0 : Int32)), .val (.int (4 : Int32))] [])
  refine w_aloadN X0 hx (.ref a) (dB d5_0) 1 rfl rfl rfl ?_
  refine w_iloadN X0 hx (4 : Int32) (dB d5_1) 2 rfl rfl ?_
  refine w_priv0 X0 hx hZ hown e0 (rm6n4 l Z a0 hw [] a bb kb d0 d1 d2 d3 h0 n0 Z0 F_bytes_a F_length_a F_longest_a V_bb) (tw_30 hw) (tw_31 hw) (tw_6 hw) (tw_32 hw) (tw_7 hw) (tw_33 hw) (by decide) a E_a (by rw [hml]; rfl) [(.int (4 : Int32))] [] (lenOf pd_0 rfl) rfl rfl (by decide) 0 rfl (by decide) (by decide) (by decide) (dB d5_2) 5 rfl (fun r53 T53 L53 X53 q53 => ?_)
  obtain ⟨rfl, Nq53, eq53⟩ := q53
  have N53 := Fr.app N0 Nq53
  dsimp only [Option.toList_some, Option.toList_none, List.cons_append, List.nil_append]
  refine w_aloadN X53 hx (.ref ar) (dB d5_5) 6 rfl rfl rfl ?_
  refine w_iloadN X53 hx (0 : Int32) (dB d5_6) 7 rfl rfl ?_
  refine w_aloadN X53 hx (.ref a) (dB d5_7) 8 rfl rfl rfl ?_
  refine w_getF X53 hx hZ hown eq53 (host := "") (Or.inl (tw_14 hw)) Via.refl F_bytes_a (dB d5_8) 11 rfl (fun T54 X54 e54 => ?_)
  refine w_aloadN X54 hx (.ref a) (dB d5_11) 12 rfl rfl rfl ?_
  refine w_getF X54 hx hZ hown e54 (host := "") (Or.inl (tw_21 hw)) Via.refl F_length_a (dB d5_12) 15 rfl (fun T55 X55 e55 => ?_)
  refine w_iloadN X55 hx (4 : Int32) (dB d5_15) 16 rfl rfl ?_
  refine w_copy X55 hx hZ hown e55 (tw_34 hw) (tw_37 hw) (tw_35 hw) (tw_36 hw) V_ar V_bb rfl 0 0 4 (by decide) (by decide) (by decide) (by decide) (by decide) (by decide) (by decide) (by decide) (show 4 ≤ 4 from (by decide)) [(.int s0), (.int s1), (.int s2), (.int s3)] rfl N53 g_bb (by rw [hml]; rfl) (by decide) 0 rfl (by decide) (dB d5_16) 19 rfl (fun T56 h56 L56 X56 e56 N56 Kq56 V56 => ?_)
  have F57 : Exa Z h56 a cN_0 := E_a.keep Kq56
  have F58 : Fld Z h56 a cN_0 "bytes" "[B" (.ref bb) := F_bytes_a.keep Kq56 (ninS (ne_arv E_a (tw_6 hw) V_bb) nin0)
  have F59 : Fld Z h56 a cN_0 "length" "I" (.int (0 : Int32)) := F_length_a.keep Kq56 (ninS (ne_arv E_a (tw_6 hw) V_bb) nin0)
  have F60 : Fld Z h56 a cN_0 "longest" "I" (.int (16 : Int32)) := F_longest_a.keep Kq56 (ninS (ne_arv E_a (tw_6 hw) V_bb) nin0)
  have F61 : Arv Z h56 ar ka .byte (4 : Int32) [(.int s0), (.int s1), (.int s2), (.int s3)] (.int (0 : Int32)) := V_ar.keep Kq56 (ninS ne1 nin0)
  have Z56 : n0 ≤ h56.size := Nat.le_trans Z0 Kq56.1
  have K56 : Keep h0 h56 [a, bb] := (Keep.refl h0 [a, bb]).trans Kq56 (allS (Or.inl (List.mem_of_getElem? (i := 1) rfl)) all0)
  refine w_aloadN X56 hx (.ref a) (dB d5_19) 20 rfl rfl rfl ?_
  refine w_dup X56 hx (dB d5_20) 21 rfl rfl ?_
  refine w_getF X56 hx hZ hown e56 (host := "") (Or.inl (tw_21 hw)) Via.refl F59 (dB d5_21) 24 rfl (fun T62 X62 e62 => ?_)
  refine w_iloadN X62 hx (4 : Int32) (dB d5_24) 25 rfl rfl ?_
  refine w_iadd X62 hx (dB d5_25) 26 rfl (show (4 : Int32) = (0 : Int32) + (4 : Int32) from by decide) ?_
  refine w_putF X62 hx hZ hown e62 (host := "") (Or.inl (tw_21 hw)) Via.refl F59 F57 (Or.inl (tw_22 hw)) (tw_6 hw) (ty := .int) (by decide) rfl rfl (dB d5_26) 29 rfl (fun T63 h63 X63 e63 W63 => ?_)
  have F64 : Exa Z h63 a cN_0 := F57.wr W63
  have F65 : Fld Z h63 a cN_0 "bytes" "[B" (.ref bb) := F58.other W63 (Or.inr (slot_ne (Or.inl (tw_15 hw)) (Or.inl (tw_22 hw)) (by decide) (t := (.array .byte)) (t' := .int) (by decide) (by decide)))
  have F66 : Fld Z h63 a cN_0 "length" "I" (.int (4 : Int32)) := F59.same W63
  have F67 : Fld Z h63 a cN_0 "longest" "I" (.int (16 : Int32)) := F60.other W63 (Or.inr (slot_ne (Or.inl (tw_24 hw)) (Or.inl (tw_22 hw)) (by decide) (t := .int) (t' := .int) (by decide) (by decide)))
  have F68 : Arv Z h63 ar ka .byte (4 : Int32) [(.int s0), (.int s1), (.int s2), (.int s3)] (.int (0 : Int32)) := F61.other W63 (Ne.symm (ne_arv F57 (tw_6 hw) F61))
  have F69 : Arv Z h63 bb kb .byte (256 : Int32) [(.int s0), (.int s1), (.int s2), (.int s3)] (.int (0 : Int32)) := V56.other W63 (Ne.symm (ne_arv F57 (tw_6 hw) V56))
  have Z63 : n0 ≤ h63.size := by rw [W63.size]; exact Z56
  have K63 : Keep h0 h63 [a, bb] := K56.wr W63 (Or.inl (List.mem_of_getElem? (i := 0) rfl))
  have N63 := Fr.snoc X63 N56 g_a
  refine w_ret0 X63 hx hlk hret (dB d5_29) (by decide) (by decide) ?_
  rw [e63]
  exact ⟨rfl, N63, K63, F65, F66, F67, F69⟩
theorem ef_5m0 (m : MethodId) (x0 : Addr) (x1 : Addr) : entryFrame m #[(.ref x0), (.ref x1), (.int (0 : Int32)), (.int (0 : Int32))] 4 = mkF m 0 #[.val (.ref x0), .val (.ref x1), .val (.int (0 : Int32)), .val (.int (0 : Int32))] [] := by first | (simp [entryFrame, mkF, argsToLocals, Value.category]; done) | rfl
def Q5m0 (Z : State) (a : Addr) (ar : Addr) (bb : Addr) (kb : ClassId) (ka : ClassId) (d0 : Int32) (d1 : Int32) (d2 : Int32) (d3 : Int32) (s0 : Int32) (s1 : Int32) (s2 : Int32) (h0 : Heap) (n0 : Nat) (v : Option Value) (h : Heap) (L : List Loc) : Prop := v = none ∧ Fr n0 L ∧ Keep h0 h [a, bb] ∧ Fld Z h a cN_0 "bytes" "[B" (.ref bb) ∧ Fld Z h a cN_0 "length" "I" (.int (0 : Int32)) ∧ Fld Z h a cN_0 "longest" "I" (.int (16 : Int32)) ∧ Arv Z h bb kb .byte (256 : Int32) [(.int d0), (.int d1), (.int d2), (.int d3)] (.int (0 : Int32))
set_option maxRecDepth 65536 in
set_option maxHeartbeats 40000000 in
theorem rm5m0 (l : Launch) (Z : State) (a0 : Array Value) (hw : ∀ d ∈ tables_1, d.before a0 Z = true) (ws : List Jvm.Cond) (a : Addr) (ar : Addr) (bb : Addr) (kb : ClassId) (ka : ClassId) (d0 : Int32) (d1 : Int32) (d2 : Int32) (d3 : Int32) (s0 : Int32) (s1 : Int32) (s2 : Int32) (h0 : Heap) (n0 : Nat) (Z0 : n0 ≤ h0.size) (E_a : Exa Z h0 a cN_0) (F_bytes_a : Fld Z h0 a cN_0 "bytes" "[B" (.ref bb)) (F_length_a : Fld Z h0 a cN_0 "length" "I" (.int (0 : Int32))) (F_longest_a : Fld Z h0 a cN_0 "longest" "I" (.int (16 : Int32))) (V_bb : Arv Z h0 bb kb .byte (256 : Int32) [(.int d0), (.int d1), (.int d2), (.int d3)] (.int (0 : Int32))) (V_ar : Arv Z h0 ar ka .byte (3 : Int32) [(.int s0), (.int s1), (.int s2)] (.int (0 : Int32))) (g_a : n0 ≤ a) (g_bb : n0 ≤ bb) (ne1 : ar ≠ bb) :
    CT l mN_5 prog_51_method_3_code 4 none ws ({ frames := 1, cells := 0, slots := 0, locals := 18 } : Room) #[(.ref a), (.ref ar), (.int (0 : Int32)), (.int (0 : Int32))] Z h0 (Q5m0 Z a ar bb kb ka d0 d1 d2 d3 s0 s1 s2 h0 n0) := by
  refine body_of (plainFor_of_name pn_0) ?_
  intro p e s m below meth c s₁ hx dB hret hlk hml hown0 hnm X0 e0 hZ
  have hown : s.vm.findClass cN_0 = some m.cls := hown0
  have N0 := Fr.nil n0
  rw [ef_5m0]
  show Wk p e below (FN s (Q5m0 Z a ar bb kb ka d0 d1 d2 d3 s0 s1 s2 h0 n0) 0 0) s₁ (mkF m 0 #[.val (.ref a), .val (.ref ar), .val (.int (0 : Int32)), .val (.int (0 : Int32))] [])
  refine w_aloadN X0 hx (.ref a) (dB d5_0) 1 rfl rfl rfl ?_
  refine w_iloadN X0 hx (0 : Int32) (dB d5_1) 2 rfl rfl ?_
  refine w_priv0 X0 hx hZ hown e0 (rm6n0 l Z a0 hw [] a bb kb d0 d1 d2 d3 h0 n0 Z0 F_bytes_a F_length_a F_longest_a V_bb) (tw_30 hw) (tw_31 hw) (tw_6 hw) (tw_32 hw) (tw_7 hw) (tw_33 hw) (by decide) a E_a (by rw [hml]; rfl) [(.int (0 : Int32))] [] (lenOf pd_0 rfl) rfl rfl (by decide) 0 rfl (by decide) (by decide) (by decide) (dB d5_2) 5 rfl (fun r70 T70 L70 X70 q70 => ?_)
  obtain ⟨rfl, Nq70, eq70⟩ := q70
  have N70 := Fr.app N0 Nq70
  dsimp only [Option.toList_some, Option.toList_none, List.cons_append, List.nil_append]
  refine w_aloadN X70 hx (.ref ar) (dB d5_5) 6 rfl rfl rfl ?_
  refine w_iloadN X70 hx (0 : Int32) (dB d5_6) 7 rfl rfl ?_
  refine w_aloadN X70 hx (.ref a) (dB d5_7) 8 rfl rfl rfl ?_
  refine w_getF X70 hx hZ hown eq70 (host := "") (Or.inl (tw_14 hw)) Via.refl F_bytes_a (dB d5_8) 11 rfl (fun T71 X71 e71 => ?_)
  refine w_aloadN X71 hx (.ref a) (dB d5_11) 12 rfl rfl rfl ?_
  refine w_getF X71 hx hZ hown e71 (host := "") (Or.inl (tw_21 hw)) Via.refl F_length_a (dB d5_12) 15 rfl (fun T72 X72 e72 => ?_)
  refine w_iloadN X72 hx (0 : Int32) (dB d5_15) 16 rfl rfl ?_
  refine w_copy X72 hx hZ hown e72 (tw_34 hw) (tw_37 hw) (tw_35 hw) (tw_36 hw) V_ar V_bb rfl 0 0 0 (by decide) (by decide) (by decide) (by decide) (by decide) (by decide) (by decide) (by decide) (show 0 ≤ 4 from (by decide)) [(.int d0), (.int d1), (.int d2), (.int d3)] rfl N70 g_bb (by rw [hml]; rfl) (by decide) 0 rfl (by decide) (dB d5_16) 19 rfl (fun T73 h73 L73 X73 e73 N73 Kq73 V73 => ?_)
  have F74 : Exa Z h73 a cN_0 := E_a.keep Kq73
  have F75 : Fld Z h73 a cN_0 "bytes" "[B" (.ref bb) := F_bytes_a.keep Kq73 (ninS (ne_arv E_a (tw_6 hw) V_bb) nin0)
  have F76 : Fld Z h73 a cN_0 "length" "I" (.int (0 : Int32)) := F_length_a.keep Kq73 (ninS (ne_arv E_a (tw_6 hw) V_bb) nin0)
  have F77 : Fld Z h73 a cN_0 "longest" "I" (.int (16 : Int32)) := F_longest_a.keep Kq73 (ninS (ne_arv E_a (tw_6 hw) V_bb) nin0)
  have F78 : Arv Z h73 ar ka .byte (3 : Int32) [(.int s0), (.int s1), (.int s2)] (.int (0 : Int32)) := V_ar.keep Kq73 (ninS ne1 nin0)
  have Z73 : n0 ≤ h73.size := Nat.le_trans Z0 Kq73.1
  have K73 : Keep h0 h73 [a, bb] := (Keep.refl h0 [a, bb]).trans Kq73 (allS (Or.inl (List.mem_of_getElem? (i := 1) rfl)) all0)
  refine w_aloadN X73 hx (.ref a) (dB d5_19) 20 rfl rfl rfl ?_
  refine w_dup X73 hx (dB d5_20) 21 rfl rfl ?_
  refine w_getF X73 hx hZ hown e73 (host := "") (Or.inl (tw_21 hw)) Via.refl F76 (dB d5_21) 24 rfl (fun T79 X79 e79 => ?_)
  refine w_iloadN X79 hx (0 : Int32) (dB d5_24) 25 rfl rfl ?_
  refine w_iadd X79 hx (dB d5_25) 26 rfl (show (0 : Int32) = (0 : Int32) + (0 : Int32) from by decide) ?_
  refine w_putF X79 hx hZ hown e79 (host := "") (Or.inl (tw_21 hw)) Via.refl F76 F74 (Or.inl (tw_22 hw)) (tw_6 hw) (ty := .int) (by decide) rfl rfl (dB d5_26) 29 rfl (fun T80 h80 X80 e80 W80 => ?_)
  have F81 : Exa Z h80 a cN_0 := F74.wr W80
  have F82 : Fld Z h80 a cN_0 "bytes" "[B" (.ref bb) := F75.other W80 (Or.inr (slot_ne (Or.inl (tw_15 hw)) (Or.inl (tw_22 hw)) (by decide) (t := (.array .byte)) (t' := .int) (by decide) (by decide)))
  have F83 : Fld Z h80 a cN_0 "length" "I" (.int (0 : Int32)) := F76.same W80
  have F84 : Fld Z h80 a cN_0 "longest" "I" (.int (16 : Int32)) := F77.other W80 (Or.inr (slot_ne (Or.inl (tw_24 hw)) (Or.inl (tw_22 hw)) (by decide) (t := .int) (t' := .int) (by decide) (by decide)))
  have F85 : Arv Z h80 ar ka .byte (3 : Int32) [(.int s0), (.int s1), (.int s2)] (.int (0 : Int32)) := F78.other W80 (Ne.symm (ne_arv F74 (tw_6 hw) F78))
  have F86 : Arv Z h80 bb kb .byte (256 : Int32) [(.int d0), (.int d1), (.int d2), (.int d3)] (.int (0 : Int32)) := V73.other W80 (Ne.symm (ne_arv F74 (tw_6 hw) V73))
  have Z80 : n0 ≤ h80.size := by rw [W80.size]; exact Z73
  have K80 : Keep h0 h80 [a, bb] := K73.wr W80 (Or.inl (List.mem_of_getElem? (i := 0) rfl))
  have N80 := Fr.snoc X80 N73 g_a
  refine w_ret0 X80 hx hlk hret (dB d5_29) (by decide) (by decide) ?_
  rw [e80]
  exact ⟨rfl, N80, K80, F82, F83, F84, F86⟩
theorem ef_5m1 (m : MethodId) (x0 : Addr) (x1 : Addr) : entryFrame m #[(.ref x0), (.ref x1), (.int (0 : Int32)), (.int (1 : Int32))] 4 = mkF m 0 #[.val (.ref x0), .val (.ref x1), .val (.int (0 : Int32)), .val (.int (1 : Int32))] [] := by first | (simp [entryFrame, mkF, argsToLocals, Value.category]; done) | rfl
def Q5m1 (Z : State) (a : Addr) (ar : Addr) (bb : Addr) (kb : ClassId) (ka : ClassId) (d0 : Int32) (d1 : Int32) (d2 : Int32) (d3 : Int32) (s0 : Int32) (s1 : Int32) (s2 : Int32) (h0 : Heap) (n0 : Nat) (v : Option Value) (h : Heap) (L : List Loc) : Prop := v = none ∧ Fr n0 L ∧ Keep h0 h [a, bb] ∧ Fld Z h a cN_0 "bytes" "[B" (.ref bb) ∧ Fld Z h a cN_0 "length" "I" (.int (1 : Int32)) ∧ Fld Z h a cN_0 "longest" "I" (.int (16 : Int32)) ∧ Arv Z h bb kb .byte (256 : Int32) [(.int s0), (.int d1), (.int d2), (.int d3)] (.int (0 : Int32))
set_option maxRecDepth 65536 in
set_option maxHeartbeats 40000000 in
theorem rm5m1 (l : Launch) (Z : State) (a0 : Array Value) (hw : ∀ d ∈ tables_1, d.before a0 Z = true) (ws : List Jvm.Cond) (a : Addr) (ar : Addr) (bb : Addr) (kb : ClassId) (ka : ClassId) (d0 : Int32) (d1 : Int32) (d2 : Int32) (d3 : Int32) (s0 : Int32) (s1 : Int32) (s2 : Int32) (h0 : Heap) (n0 : Nat) (Z0 : n0 ≤ h0.size) (E_a : Exa Z h0 a cN_0) (F_bytes_a : Fld Z h0 a cN_0 "bytes" "[B" (.ref bb)) (F_length_a : Fld Z h0 a cN_0 "length" "I" (.int (0 : Int32))) (F_longest_a : Fld Z h0 a cN_0 "longest" "I" (.int (16 : Int32))) (V_bb : Arv Z h0 bb kb .byte (256 : Int32) [(.int d0), (.int d1), (.int d2), (.int d3)] (.int (0 : Int32))) (V_ar : Arv Z h0 ar ka .byte (3 : Int32) [(.int s0), (.int s1), (.int s2)] (.int (0 : Int32))) (g_a : n0 ≤ a) (g_bb : n0 ≤ bb) (ne1 : ar ≠ bb) :
    CT l mN_5 prog_51_method_3_code 4 none ws ({ frames := 1, cells := 0, slots := 0, locals := 18 } : Room) #[(.ref a), (.ref ar), (.int (0 : Int32)), (.int (1 : Int32))] Z h0 (Q5m1 Z a ar bb kb ka d0 d1 d2 d3 s0 s1 s2 h0 n0) := by
  refine body_of (plainFor_of_name pn_0) ?_
  intro p e s m below meth c s₁ hx dB hret hlk hml hown0 hnm X0 e0 hZ
  have hown : s.vm.findClass cN_0 = some m.cls := hown0
  have N0 := Fr.nil n0
  rw [ef_5m1]
  show Wk p e below (FN s (Q5m1 Z a ar bb kb ka d0 d1 d2 d3 s0 s1 s2 h0 n0) 0 0) s₁ (mkF m 0 #[.val (.ref a), .val (.ref ar), .val (.int (0 : Int32)), .val (.int (1 : Int32))] [])
  refine w_aloadN X0 hx (.ref a) (dB d5_0) 1 rfl rfl rfl ?_
  refine w_iloadN X0 hx (1 : Int32) (dB d5_1) 2 rfl rfl ?_
  refine w_priv0 X0 hx hZ hown e0 (rm6n1 l Z a0 hw [] a bb kb d0 d1 d2 d3 h0 n0 Z0 F_bytes_a F_length_a F_longest_a V_bb) (tw_30 hw) (tw_31 hw) (tw_6 hw) (tw_32 hw) (tw_7 hw) (tw_33 hw) (by decide) a E_a (by rw [hml]; rfl) [(.int (1 : Int32))] [] (lenOf pd_0 rfl) rfl rfl (by decide) 0 rfl (by decide) (by decide) (by decide) (dB d5_2) 5 rfl (fun r87 T87 L87 X87 q87 => ?_)
  obtain ⟨rfl, Nq87, eq87⟩ := q87
  have N87 := Fr.app N0 Nq87
  dsimp only [Option.toList_some, Option.toList_none, List.cons_append, List.nil_append]
  refine w_aloadN X87 hx (.ref ar) (dB d5_5) 6 rfl rfl rfl ?_
  refine w_iloadN X87 hx (0 : Int32) (dB d5_6) 7 rfl rfl ?_
  refine w_aloadN X87 hx (.ref a) (dB d5_7) 8 rfl rfl rfl ?_
  refine w_getF X87 hx hZ hown eq87 (host := "") (Or.inl (tw_14 hw)) Via.refl F_bytes_a (dB d5_8) 11 rfl (fun T88 X88 e88 => ?_)
  refine w_aloadN X88 hx (.ref a) (dB d5_11) 12 rfl rfl rfl ?_
  refine w_getF X88 hx hZ hown e88 (host := "") (Or.inl (tw_21 hw)) Via.refl F_length_a (dB d5_12) 15 rfl (fun T89 X89 e89 => ?_)
  refine w_iloadN X89 hx (1 : Int32) (dB d5_15) 16 rfl rfl ?_
  refine w_copy X89 hx hZ hown e89 (tw_34 hw) (tw_37 hw) (tw_35 hw) (tw_36 hw) V_ar V_bb rfl 0 0 1 (by decide) (by decide) (by decide) (by decide) (by decide) (by decide) (by decide) (by decide) (show 1 ≤ 4 from (by decide)) [(.int s0), (.int d1), (.int d2), (.int d3)] rfl N87 g_bb (by rw [hml]; rfl) (by decide) 0 rfl (by decide) (dB d5_16) 19 rfl (fun T90 h90 L90 X90 e90 N90 Kq90 V90 => ?_)
  have F91 : Exa Z h90 a cN_0 := E_a.keep Kq90
  have F92 : Fld Z h90 a cN_0 "bytes" "[B" (.ref bb) := F_bytes_a.keep Kq90 (ninS (ne_arv E_a (tw_6 hw) V_bb) nin0)
  have F93 : Fld Z h90 a cN_0 "length" "I" (.int (0 : Int32)) := F_length_a.keep Kq90 (ninS (ne_arv E_a (tw_6 hw) V_bb) nin0)
  have F94 : Fld Z h90 a cN_0 "longest" "I" (.int (16 : Int32)) := F_longest_a.keep Kq90 (ninS (ne_arv E_a (tw_6 hw) V_bb) nin0)
  have F95 : Arv Z h90 ar ka .byte (3 : Int32) [(.int s0), (.int s1), (.int s2)] (.int (0 : Int32)) := V_ar.keep Kq90 (ninS ne1 nin0)
  have Z90 : n0 ≤ h90.size := Nat.le_trans Z0 Kq90.1
  have K90 : Keep h0 h90 [a, bb] := (Keep.refl h0 [a, bb]).trans Kq90 (allS (Or.inl (List.mem_of_getElem? (i := 1) rfl)) all0)
  refine w_aloadN X90 hx (.ref a) (dB d5_19) 20 rfl rfl rfl ?_
  refine w_dup X90 hx (dB d5_20) 21 rfl rfl ?_
  refine w_getF X90 hx hZ hown e90 (host := "") (Or.inl (tw_21 hw)) Via.refl F93 (dB d5_21) 24 rfl (fun T96 X96 e96 => ?_)
  refine w_iloadN X96 hx (1 : Int32) (dB d5_24) 25 rfl rfl ?_
  refine w_iadd X96 hx (dB d5_25) 26 rfl (show (1 : Int32) = (0 : Int32) + (1 : Int32) from by decide) ?_
  refine w_putF X96 hx hZ hown e96 (host := "") (Or.inl (tw_21 hw)) Via.refl F93 F91 (Or.inl (tw_22 hw)) (tw_6 hw) (ty := .int) (by decide) rfl rfl (dB d5_26) 29 rfl (fun T97 h97 X97 e97 W97 => ?_)
  have F98 : Exa Z h97 a cN_0 := F91.wr W97
  have F99 : Fld Z h97 a cN_0 "bytes" "[B" (.ref bb) := F92.other W97 (Or.inr (slot_ne (Or.inl (tw_15 hw)) (Or.inl (tw_22 hw)) (by decide) (t := (.array .byte)) (t' := .int) (by decide) (by decide)))
  have F100 : Fld Z h97 a cN_0 "length" "I" (.int (1 : Int32)) := F93.same W97
  have F101 : Fld Z h97 a cN_0 "longest" "I" (.int (16 : Int32)) := F94.other W97 (Or.inr (slot_ne (Or.inl (tw_24 hw)) (Or.inl (tw_22 hw)) (by decide) (t := .int) (t' := .int) (by decide) (by decide)))
  have F102 : Arv Z h97 ar ka .byte (3 : Int32) [(.int s0), (.int s1), (.int s2)] (.int (0 : Int32)) := F95.other W97 (Ne.symm (ne_arv F91 (tw_6 hw) F95))
  have F103 : Arv Z h97 bb kb .byte (256 : Int32) [(.int s0), (.int d1), (.int d2), (.int d3)] (.int (0 : Int32)) := V90.other W97 (Ne.symm (ne_arv F91 (tw_6 hw) V90))
  have Z97 : n0 ≤ h97.size := by rw [W97.size]; exact Z90
  have K97 : Keep h0 h97 [a, bb] := K90.wr W97 (Or.inl (List.mem_of_getElem? (i := 0) rfl))
  have N97 := Fr.snoc X97 N90 g_a
  refine w_ret0 X97 hx hlk hret (dB d5_29) (by decide) (by decide) ?_
  rw [e97]
  exact ⟨rfl, N97, K97, F99, F100, F101, F103⟩
theorem ef_5m2 (m : MethodId) (x0 : Addr) (x1 : Addr) : entryFrame m #[(.ref x0), (.ref x1), (.int (0 : Int32)), (.int (2 : Int32))] 4 = mkF m 0 #[.val (.ref x0), .val (.ref x1), .val (.int (0 : Int32)), .val (.int (2 : Int32))] [] := by first | (simp [entryFrame, mkF, argsToLocals, Value.category]; done) | rfl
def Q5m2 (Z : State) (a : Addr) (ar : Addr) (bb : Addr) (kb : ClassId) (ka : ClassId) (d0 : Int32) (d1 : Int32) (d2 : Int32) (d3 : Int32) (s0 : Int32) (s1 : Int32) (s2 : Int32) (h0 : Heap) (n0 : Nat) (v : Option Value) (h : Heap) (L : List Loc) : Prop := v = none ∧ Fr n0 L ∧ Keep h0 h [a, bb] ∧ Fld Z h a cN_0 "bytes" "[B" (.ref bb) ∧ Fld Z h a cN_0 "length" "I" (.int (2 : Int32)) ∧ Fld Z h a cN_0 "longest" "I" (.int (16 : Int32)) ∧ Arv Z h bb kb .byte (256 : Int32) [(.int s0), (.int s1), (.int d2), (.int d3)] (.int (0 : Int32))
set_option maxRecDepth 65536 in
set_option maxHeartbeats 40000000 in
theorem rm5m2 (l : Launch) (Z : State) (a0 : Array Value) (hw : ∀ d ∈ tables_1, d.before a0 Z = true) (ws : List Jvm.Cond) (a : Addr) (ar : Addr) (bb : Addr) (kb : ClassId) (ka : ClassId) (d0 : Int32) (d1 : Int32) (d2 : Int32) (d3 : Int32) (s0 : Int32) (s1 : Int32) (s2 : Int32) (h0 : Heap) (n0 : Nat) (Z0 : n0 ≤ h0.size) (E_a : Exa Z h0 a cN_0) (F_bytes_a : Fld Z h0 a cN_0 "bytes" "[B" (.ref bb)) (F_length_a : Fld Z h0 a cN_0 "length" "I" (.int (0 : Int32))) (F_longest_a : Fld Z h0 a cN_0 "longest" "I" (.int (16 : Int32))) (V_bb : Arv Z h0 bb kb .byte (256 : Int32) [(.int d0), (.int d1), (.int d2), (.int d3)] (.int (0 : Int32))) (V_ar : Arv Z h0 ar ka .byte (3 : Int32) [(.int s0), (.int s1), (.int s2)] (.int (0 : Int32))) (g_a : n0 ≤ a) (g_bb : n0 ≤ bb) (ne1 : ar ≠ bb) :
    CT l mN_5 prog_51_method_3_code 4 none ws ({ frames := 1, cells := 0, slots := 0, locals := 18 } : Room) #[(.ref a), (.ref ar), (.int (0 : Int32)), (.int (2 : Int32))] Z h0 (Q5m2 Z a ar bb kb ka d0 d1 d2 d3 s0 s1 s2 h0 n0) := by
  refine body_of (plainFor_of_name pn_0) ?_
  intro p e s m below meth c s₁ hx dB hret hlk hml hown0 hnm X0 e0 hZ
  have hown : s.vm.findClass cN_0 = some m.cls := hown0
  have N0 := Fr.nil n0
  rw [ef_5m2]
  show Wk p e below (FN s (Q5m2 Z a ar bb kb ka d0 d1 d2 d3 s0 s1 s2 h0 n0) 0 0) s₁ (mkF m 0 #[.val (.ref a), .val (.ref ar), .val (.int (0 : Int32)), .val (.int (2 : Int32))] [])
  refine w_aloadN X0 hx (.ref a) (dB d5_0) 1 rfl rfl rfl ?_
  refine w_iloadN X0 hx (2 : Int32) (dB d5_1) 2 rfl rfl ?_
  refine w_priv0 X0 hx hZ hown e0 (rm6n2 l Z a0 hw [] a bb kb d0 d1 d2 d3 h0 n0 Z0 F_bytes_a F_length_a F_longest_a V_bb) (tw_30 hw) (tw_31 hw) (tw_6 hw) (tw_32 hw) (tw_7 hw) (tw_33 hw) (by decide) a E_a (by rw [hml]; rfl) [(.int (2 : Int32))] [] (lenOf pd_0 rfl) rfl rfl (by decide) 0 rfl (by decide) (by decide) (by decide) (dB d5_2) 5 rfl (fun r104 T104 L104 X104 q104 => ?_)
  obtain ⟨rfl, Nq104, eq104⟩ := q104
  have N104 := Fr.app N0 Nq104
  dsimp only [Option.toList_some, Option.toList_none, List.cons_append, List.nil_append]
  refine w_aloadN X104 hx (.ref ar) (dB d5_5) 6 rfl rfl rfl ?_
  refine w_iloadN X104 hx (0 : Int32) (dB d5_6) 7 rfl rfl ?_
  refine w_aloadN X104 hx (.ref a) (dB d5_7) 8 rfl rfl rfl ?_
  refine w_getF X104 hx hZ hown eq104 (host := "") (Or.inl (tw_14 hw)) Via.refl F_bytes_a (dB d5_8) 11 rfl (fun T105 X105 e105 => ?_)
  refine w_aloadN X105 hx (.ref a) (dB d5_11) 12 rfl rfl rfl ?_
  refine w_getF X105 hx hZ hown e105 (host := "") (Or.inl (tw_21 hw)) Via.refl F_length_a (dB d5_12) 15 rfl (fun T106 X106 e106 => ?_)
  refine w_iloadN X106 hx (2 : Int32) (dB d5_15) 16 rfl rfl ?_
  refine w_copy X106 hx hZ hown e106 (tw_34 hw) (tw_37 hw) (tw_35 hw) (tw_36 hw) V_ar V_bb rfl 0 0 2 (by decide) (by decide) (by decide) (by decide) (by decide) (by decide) (by decide) (by decide) (show 2 ≤ 4 from (by decide)) [(.int s0), (.int s1), (.int d2), (.int d3)] rfl N104 g_bb (by rw [hml]; rfl) (by decide) 0 rfl (by decide) (dB d5_16) 19 rfl (fun T107 h107 L107 X107 e107 N107 Kq107 V107 => ?_)
  have F108 : Exa Z h107 a cN_0 := E_a.keep Kq107
  have F109 : Fld Z h107 a cN_0 "bytes" "[B" (.ref bb) := F_bytes_a.keep Kq107 (ninS (ne_arv E_a (tw_6 hw) V_bb) nin0)
  have F110 : Fld Z h107 a cN_0 "length" "I" (.int (0 : Int32)) := F_length_a.keep Kq107 (ninS (ne_arv E_a (tw_6 hw) V_bb) nin0)
  have F111 : Fld Z h107 a cN_0 "longest" "I" (.int (16 : Int32)) := F_longest_a.keep Kq107 (ninS (ne_arv E_a (tw_6 hw) V_bb) nin0)
  have F112 : Arv Z h107 ar ka .byte (3 : Int32) [(.int s0), (.int s1), (.int s2)] (.int (0 : Int32)) := V_ar.keep Kq107 (ninS ne1 nin0)
  have Z107 : n0 ≤ h107.size := Nat.le_trans Z0 Kq107.1
  have K107 : Keep h0 h107 [a, bb] := (Keep.refl h0 [a, bb]).trans Kq107 (allS (Or.inl (List.mem_of_getElem? (i := 1) rfl)) all0)
  refine w_aloadN X107 hx (.ref a) (dB d5_19) 20 rfl rfl rfl ?_
  refine w_dup X107 hx (dB d5_20) 21 rfl rfl ?_
  refine w_getF X107 hx hZ hown e107 (host := "") (Or.inl (tw_21 hw)) Via.refl F110 (dB d5_21) 24 rfl (fun T113 X113 e113 => ?_)
  refine w_iloadN X113 hx (2 : Int32) (dB d5_24) 25 rfl rfl ?_
  refine w_iadd X113 hx (dB d5_25) 26 rfl (show (2 : Int32) = (0 : Int32) + (2 : Int32) from by decide) ?_
  refine w_putF X113 hx hZ hown e113 (host := "") (Or.inl (tw_21 hw)) Via.refl F110 F108 (Or.inl (tw_22 hw)) (tw_6 hw) (ty := .int) (by decide) rfl rfl (dB d5_26) 29 rfl (fun T114 h114 X114 e114 W114 => ?_)
  have F115 : Exa Z h114 a cN_0 := F108.wr W114
  have F116 : Fld Z h114 a cN_0 "bytes" "[B" (.ref bb) := F109.other W114 (Or.inr (slot_ne (Or.inl (tw_15 hw)) (Or.inl (tw_22 hw)) (by decide) (t := (.array .byte)) (t' := .int) (by decide) (by decide)))
  have F117 : Fld Z h114 a cN_0 "length" "I" (.int (2 : Int32)) := F110.same W114
  have F118 : Fld Z h114 a cN_0 "longest" "I" (.int (16 : Int32)) := F111.other W114 (Or.inr (slot_ne (Or.inl (tw_24 hw)) (Or.inl (tw_22 hw)) (by decide) (t := .int) (t' := .int) (by decide) (by decide)))
  have F119 : Arv Z h114 ar ka .byte (3 : Int32) [(.int s0), (.int s1), (.int s2)] (.int (0 : Int32)) := F112.other W114 (Ne.symm (ne_arv F108 (tw_6 hw) F112))
  have F120 : Arv Z h114 bb kb .byte (256 : Int32) [(.int s0), (.int s1), (.int d2), (.int d3)] (.int (0 : Int32)) := V107.other W114 (Ne.symm (ne_arv F108 (tw_6 hw) V107))
  have Z114 : n0 ≤ h114.size := by rw [W114.size]; exact Z107
  have K114 : Keep h0 h114 [a, bb] := K107.wr W114 (Or.inl (List.mem_of_getElem? (i := 0) rfl))
  have N114 := Fr.snoc X114 N107 g_a
  refine w_ret0 X114 hx hlk hret (dB d5_29) (by decide) (by decide) ?_
  rw [e114]
  exact ⟨rfl, N114, K114, F116, F117, F118, F120⟩
theorem ef_5m3 (m : MethodId) (x0 : Addr) (x1 : Addr) : entryFrame m #[(.ref x0), (.ref x1), (.int (0 : Int32)), (.int (3 : Int32))] 4 = mkF m 0 #[.val (.ref x0), .val (.ref x1), .val (.int (0 : Int32)), .val (.int (3 : Int32))] [] := by first | (simp [entryFrame, mkF, argsToLocals, Value.category]; done) | rfl
def Q5m3 (Z : State) (a : Addr) (ar : Addr) (bb : Addr) (kb : ClassId) (ka : ClassId) (d0 : Int32) (d1 : Int32) (d2 : Int32) (d3 : Int32) (s0 : Int32) (s1 : Int32) (s2 : Int32) (h0 : Heap) (n0 : Nat) (v : Option Value) (h : Heap) (L : List Loc) : Prop := v = none ∧ Fr n0 L ∧ Keep h0 h [a, bb] ∧ Fld Z h a cN_0 "bytes" "[B" (.ref bb) ∧ Fld Z h a cN_0 "length" "I" (.int (3 : Int32)) ∧ Fld Z h a cN_0 "longest" "I" (.int (16 : Int32)) ∧ Arv Z h bb kb .byte (256 : Int32) [(.int s0), (.int s1), (.int s2), (.int d3)] (.int (0 : Int32))
set_option maxRecDepth 65536 in
set_option maxHeartbeats 40000000 in
theorem rm5m3 (l : Launch) (Z : State) (a0 : Array Value) (hw : ∀ d ∈ tables_1, d.before a0 Z = true) (ws : List Jvm.Cond) (a : Addr) (ar : Addr) (bb : Addr) (kb : ClassId) (ka : ClassId) (d0 : Int32) (d1 : Int32) (d2 : Int32) (d3 : Int32) (s0 : Int32) (s1 : Int32) (s2 : Int32) (h0 : Heap) (n0 : Nat) (Z0 : n0 ≤ h0.size) (E_a : Exa Z h0 a cN_0) (F_bytes_a : Fld Z h0 a cN_0 "bytes" "[B" (.ref bb)) (F_length_a : Fld Z h0 a cN_0 "length" "I" (.int (0 : Int32))) (F_longest_a : Fld Z h0 a cN_0 "longest" "I" (.int (16 : Int32))) (V_bb : Arv Z h0 bb kb .byte (256 : Int32) [(.int d0), (.int d1), (.int d2), (.int d3)] (.int (0 : Int32))) (V_ar : Arv Z h0 ar ka .byte (3 : Int32) [(.int s0), (.int s1), (.int s2)] (.int (0 : Int32))) (g_a : n0 ≤ a) (g_bb : n0 ≤ bb) (ne1 : ar ≠ bb) :
    CT l mN_5 prog_51_method_3_code 4 none ws ({ frames := 1, cells := 0, slots := 0, locals := 18 } : Room) #[(.ref a), (.ref ar), (.int (0 : Int32)), (.int (3 : Int32))] Z h0 (Q5m3 Z a ar bb kb ka d0 d1 d2 d3 s0 s1 s2 h0 n0) := by
  refine body_of (plainFor_of_name pn_0) ?_
  intro p e s m below meth c s₁ hx dB hret hlk hml hown0 hnm X0 e0 hZ
  have hown : s.vm.findClass cN_0 = some m.cls := hown0
  have N0 := Fr.nil n0
  rw [ef_5m3]
  show Wk p e below (FN s (Q5m3 Z a ar bb kb ka d0 d1 d2 d3 s0 s1 s2 h0 n0) 0 0) s₁ (mkF m 0 #[.val (.ref a), .val (.ref ar), .val (.int (0 : Int32)), .val (.int (3 : Int32))] [])
  refine w_aloadN X0 hx (.ref a) (dB d5_0) 1 rfl rfl rfl ?_
  refine w_iloadN X0 hx (3 : Int32) (dB d5_1) 2 rfl rfl ?_
  refine w_priv0 X0 hx hZ hown e0 (rm6n3 l Z a0 hw [] a bb kb d0 d1 d2 d3 h0 n0 Z0 F_bytes_a F_length_a F_longest_a V_bb) (tw_30 hw) (tw_31 hw) (tw_6 hw) (tw_32 hw) (tw_7 hw) (tw_33 hw) (by decide) a E_a (by rw [hml]; rfl) [(.int (3 : Int32))] [] (lenOf pd_0 rfl) rfl rfl (by decide) 0 rfl (by decide) (by decide) (by decide) (dB d5_2) 5 rfl (fun r121 T121 L121 X121 q121 => ?_)
  obtain ⟨rfl, Nq121, eq121⟩ := q121
  have N121 := Fr.app N0 Nq121
  dsimp only [Option.toList_some, Option.toList_none, List.cons_append, List.nil_append]
  refine w_aloadN X121 hx (.ref ar) (dB d5_5) 6 rfl rfl rfl ?_
  refine w_iloadN X121 hx (0 : Int32) (dB d5_6) 7 rfl rfl ?_
  refine w_aloadN X121 hx (.ref a) (dB d5_7) 8 rfl rfl rfl ?_
  refine w_getF X121 hx hZ hown eq121 (host := "") (Or.inl (tw_14 hw)) Via.refl F_bytes_a (dB d5_8) 11 rfl (fun T122 X122 e122 => ?_)
  refine w_aloadN X122 hx (.ref a) (dB d5_11) 12 rfl rfl rfl ?_
  refine w_getF X122 hx hZ hown e122 (host := "") (Or.inl (tw_21 hw)) Via.refl F_length_a (dB d5_12) 15 rfl (fun T123 X123 e123 => ?_)
  refine w_iloadN X123 hx (3 : Int32) (dB d5_15) 16 rfl rfl ?_
  refine w_copy X123 hx hZ hown e123 (tw_34 hw) (tw_37 hw) (tw_35 hw) (tw_36 hw) V_ar V_bb rfl 0 0 3 (by decide) (by decide) (by decide) (by decide) (by decide) (by decide) (by decide) (by decide) (show 3 ≤ 4 from (by decide)) [(.int s0), (.int s1), (.int s2), (.int d3)] rfl N121 g_bb (by rw [hml]; rfl) (by decide) 0 rfl (by decide) (dB d5_16) 19 rfl (fun T124 h124 L124 X124 e124 N124 Kq124 V124 => ?_)
  have F125 : Exa Z h124 a cN_0 := E_a.keep Kq124
  have F126 : Fld Z h124 a cN_0 "bytes" "[B" (.ref bb) := F_bytes_a.keep Kq124 (ninS (ne_arv E_a (tw_6 hw) V_bb) nin0)
  have F127 : Fld Z h124 a cN_0 "length" "I" (.int (0 : Int32)) := F_length_a.keep Kq124 (ninS (ne_arv E_a (tw_6 hw) V_bb) nin0)
  have F128 : Fld Z h124 a cN_0 "longest" "I" (.int (16 : Int32)) := F_longest_a.keep Kq124 (ninS (ne_arv E_a (tw_6 hw) V_bb) nin0)
  have F129 : Arv Z h124 ar ka .byte (3 : Int32) [(.int s0), (.int s1), (.int s2)] (.int (0 : Int32)) := V_ar.keep Kq124 (ninS ne1 nin0)
  have Z124 : n0 ≤ h124.size := Nat.le_trans Z0 Kq124.1
  have K124 : Keep h0 h124 [a, bb] := (Keep.refl h0 [a, bb]).trans Kq124 (allS (Or.inl (List.mem_of_getElem? (i := 1) rfl)) all0)
  refine w_aloadN X124 hx (.ref a) (dB d5_19) 20 rfl rfl rfl ?_
  refine w_dup X124 hx (dB d5_20) 21 rfl rfl ?_
  refine w_getF X124 hx hZ hown e124 (host := "") (Or.inl (tw_21 hw)) Via.refl F127 (dB d5_21) 24 rfl (fun T130 X130 e130 => ?_)
  refine w_iloadN X130 hx (3 : Int32) (dB d5_24) 25 rfl rfl ?_
  refine w_iadd X130 hx (dB d5_25) 26 rfl (show (3 : Int32) = (0 : Int32) + (3 : Int32) from by decide) ?_
  refine w_putF X130 hx hZ hown e130 (host := "") (Or.inl (tw_21 hw)) Via.refl F127 F125 (Or.inl (tw_22 hw)) (tw_6 hw) (ty := .int) (by decide) rfl rfl (dB d5_26) 29 rfl (fun T131 h131 X131 e131 W131 => ?_)
  have F132 : Exa Z h131 a cN_0 := F125.wr W131
  have F133 : Fld Z h131 a cN_0 "bytes" "[B" (.ref bb) := F126.other W131 (Or.inr (slot_ne (Or.inl (tw_15 hw)) (Or.inl (tw_22 hw)) (by decide) (t := (.array .byte)) (t' := .int) (by decide) (by decide)))
  have F134 : Fld Z h131 a cN_0 "length" "I" (.int (3 : Int32)) := F127.same W131
  have F135 : Fld Z h131 a cN_0 "longest" "I" (.int (16 : Int32)) := F128.other W131 (Or.inr (slot_ne (Or.inl (tw_24 hw)) (Or.inl (tw_22 hw)) (by decide) (t := .int) (t' := .int) (by decide) (by decide)))
  have F136 : Arv Z h131 ar ka .byte (3 : Int32) [(.int s0), (.int s1), (.int s2)] (.int (0 : Int32)) := F129.other W131 (Ne.symm (ne_arv F125 (tw_6 hw) F129))
  have F137 : Arv Z h131 bb kb .byte (256 : Int32) [(.int s0), (.int s1), (.int s2), (.int d3)] (.int (0 : Int32)) := V124.other W131 (Ne.symm (ne_arv F125 (tw_6 hw) V124))
  have Z131 : n0 ≤ h131.size := by rw [W131.size]; exact Z124
  have K131 : Keep h0 h131 [a, bb] := K124.wr W131 (Or.inl (List.mem_of_getElem? (i := 0) rfl))
  have N131 := Fr.snoc X131 N124 g_a
  refine w_ret0 X131 hx hlk hret (dB d5_29) (by decide) (by decide) ?_
  rw [e131]
  exact ⟨rfl, N131, K131, F133, F134, F135, F137⟩
theorem ef_1 (m : MethodId) (x0 : Int32) : entryFrame m #[(.int x0)] 1 = mkF m 0 #[.val (.int x0)] [] := by first | (simp [entryFrame, mkF, argsToLocals, Value.category]; done) | rfl
def Q1 (Z : State) (x : Int32) (h0 : Heap) (n0 : Nat) (v : Option Value) (h : Heap) (L : List Loc) : Prop := ∃ z : Int32, v = some (.int z) ∧ (-128 ≤ z.toInt ∧ z.toInt ≤ 127) ∧ Fr n0 L ∧ h = h0
set_option maxRecDepth 65536 in
set_option maxHeartbeats 40000000 in
theorem rm1 (l : Launch) (Z : State) (a0 : Array Value) (hw : ∀ d ∈ tables_1, d.before a0 Z = true) (ws : List Jvm.Cond) (x : Int32) (h0 : Heap) (n0 : Nat) (Z0 : n0 ≤ h0.size) :
    CT l mN_1 method_2_code 1 (some .byte) ws ({ frames := 0, cells := 0, slots := 0, locals := 0 } : Room) #[(.int x)] Z h0 (Q1 Z x h0 n0) := by
  refine body_of (plainFor_of_name pn_1) ?_
  intro p e s m below meth c s₁ hx dB hret hlk hml hown0 hnm X0 e0 hZ
  have hown : s.vm.findClass cN_1 = some m.cls := hown0
  have N0 := Fr.nil n0
  rw [ef_1]
  show Wk p e below (FN s (Q1 Z x h0 n0) 0 0) s₁ (mkF m 0 #[.val (.int x)] [])
  have r_x := rng32 x
  refine w_iloadN X0 hx x (dB d1_0) 1 rfl rfl ?_
  refine w_iconst X0 hx (dB d1_1) 2 rfl (1 : Int32) (by decide) ?_
  obtain ⟨v138, e138⟩ : ∃ z : Int32, z = x &&& (1 : Int32) := ⟨_, rfl⟩
  have n138 : v138.toInt = x.toInt % 2 := by rw [e138]; exact maskX 1 rfl (by decide) (by decide)
  refine w_iand X0 hx (dB d1_2) 3 rfl e138 ?_
  refine w_if_eq X0 hx v138.toInt rfl (dB d1_3) 11 6 (fun c139 => ?_) (fun c139 => ?_)
  ·refine w_iloadN X0 hx x (dB d1_11) 12 rfl rfl ?_
   refine w_iconst X0 hx (dB d1_12) 13 rfl (1 : Int32) (by decide) ?_
   obtain ⟨v140, e140⟩ : ∃ z : Int32, z = x >>> ((1 : Int32) &&& 31) := ⟨_, rfl⟩
   have n140 : v140.toInt = x.toInt / 2 := by rw [e140]; exact ishrX 1 rfl (by decide)
   refine w_ishr X0 hx (dB d1_13) 14 rfl e140 ?_
   obtain ⟨v141, e141⟩ : ∃ z : Int32, z = v140.toInt8.toInt32 := ⟨_, rfl⟩
   have n141 : (v141.toInt - v140.toInt) % 256 = 0 ∧ -128 ≤ v141.toInt ∧ v141.toInt < 128 := by rw [e141]; exact i2bX rfl
   refine w_i2b X0 hx (dB d1_14) 15 rfl e141 ?_
   refine w_retN X0 hx hlk (t := .byte) hret (by simp) (dB d1_15) (by decide) (by decide) ?_
   rw [narB rfl (by omega) (by omega)]
   rw [e0]
   exact ⟨v141, rfl, by have hz : v141.toInt = v141.toInt := rfl; omega, N0, rfl⟩
  ·refine w_bipush X0 hx (dB d1_6) 8 rfl (13 : Int32) (by decide) ?_
   refine w_goto X0 hx (dB d1_8) 15 ?_
   refine w_retN X0 hx hlk (t := .byte) hret (by simp) (dB d1_15) (by decide) (by decide) ?_
   rw [e0]
   exact ⟨(13 : Int32), rfl, by have hz : (13 : Int32).toInt = 13 := (by decide); omega, N0, rfl⟩
theorem ef_7n0 (m : MethodId) (x0 : Addr) : entryFrame m #[(.ref x0)] 1 = mkF m 0 #[.val (.ref x0)] [] := by first | (simp [entryFrame, mkF, argsToLocals, Value.category]; done) | rfl
def Q7n0 (Z : State) (a : Addr) (bb : Addr) (kb : ClassId) (xg : Int32) (d0 : Int32) (d1 : Int32) (d2 : Int32) (d3 : Int32) (h0 : Heap) (n0 : Nat) (v : Option Value) (h : Heap) (L : List Loc) : Prop := ∃ y : Int32, (((0 : Int) = 1 ∧ y.toInt = -1) ∨ (¬ ((0 : Int) = 1) ∧ y.toInt = 0)) ∧ v = none ∧ Fr n0 L ∧ Keep h0 h [a] ∧ Fld Z h a cN_0 "bytes" "[B" (.ref bb) ∧ Fld Z h a cN_0 "length" "I" (.int y) ∧ Fld Z h a cN_0 "longest" "I" (.int xg)
set_option maxRecDepth 65536 in
set_option maxHeartbeats 40000000 in
theorem rm7n0 (l : Launch) (Z : State) (a0 : Array Value) (hw : ∀ d ∈ tables_1, d.before a0 Z = true) (ws : List Jvm.Cond) (a : Addr) (bb : Addr) (kb : ClassId) (xg : Int32) (d0 : Int32) (d1 : Int32) (d2 : Int32) (d3 : Int32) (h0 : Heap) (n0 : Nat) (Z0 : n0 ≤ h0.size) (E_a : Exa Z h0 a cN_0) (F_bytes_a : Fld Z h0 a cN_0 "bytes" "[B" (.ref bb)) (V_bb : Arv Z h0 bb kb .byte (256 : Int32) [(.int d0), (.int d1), (.int d2), (.int d3)] (.int (0 : Int32))) (F_length_a : Fld Z h0 a cN_0 "length" "I" (.int (0 : Int32))) (F_longest_a : Fld Z h0 a cN_0 "longest" "I" (.int xg)) (g_a : n0 ≤ a) :
    CT l mN_7 prog_51_method_5_code 1 none ws ({ frames := 0, cells := 0, slots := 0, locals := 0 } : Room) #[(.ref a)] Z h0 (Q7n0 Z a bb kb xg d0 d1 d2 d3 h0 n0) := by
  refine body_of (plainFor_of_name pn_0) ?_
  intro p e s m below meth c s₁ hx dB hret hlk hml hown0 hnm X0 e0 hZ
  have hown : s.vm.findClass cN_0 = some m.cls := hown0
  have N0 := Fr.nil n0
  rw [ef_7n0]
  show Wk p e below (FN s (Q7n0 Z a bb kb xg d0 d1 d2 d3 h0 n0) 0 0) s₁ (mkF m 0 #[.val (.ref a)] [])
  refine w_aloadN X0 hx (.ref a) (dB d7_0) 1 rfl rfl rfl ?_
  refine w_getF X0 hx hZ hown e0 (host := "") (Or.inl (tw_21 hw)) Via.refl F_length_a (dB d7_1) 4 rfl (fun T142 X142 e142 => ?_)
  refine w_if_le X142 hx 0 (by decide) (dB d7_4) 33 7 (fun c143 => ?_) (fun c143 => ?_)
  ·refine w_ret0 X142 hx hlk hret (dB d7_33) (by decide) (by decide) ?_
   rw [e142]
   exact ⟨(0 : Int32), by have hw1 : (0 : Int32).toInt = 0 := (by decide); omega, rfl, N0, (Keep.refl h0 [a]), F_bytes_a, F_length_a, F_longest_a⟩
  ·exfalso; omega
theorem ef_7n1 (m : MethodId) (x0 : Addr) : entryFrame m #[(.ref x0)] 1 = mkF m 0 #[.val (.ref x0)] [] := by first | (simp [entryFrame, mkF, argsToLocals, Value.category]; done) | rfl
def Q7n1 (Z : State) (a : Addr) (bb : Addr) (kb : ClassId) (xg : Int32) (d0 : Int32) (d1 : Int32) (d2 : Int32) (d3 : Int32) (h0 : Heap) (n0 : Nat) (v : Option Value) (h : Heap) (L : List Loc) : Prop := ∃ y : Int32, ((d0.toInt = 13 ∧ y.toInt = 0) ∨ (¬ (d0.toInt = 13) ∧ y.toInt = 1)) ∧ v = none ∧ Fr n0 L ∧ Keep h0 h [a] ∧ Fld Z h a cN_0 "bytes" "[B" (.ref bb) ∧ Fld Z h a cN_0 "length" "I" (.int y) ∧ Fld Z h a cN_0 "longest" "I" (.int xg)
set_option maxRecDepth 65536 in
set_option maxHeartbeats 40000000 in
theorem rm7n1 (l : Launch) (Z : State) (a0 : Array Value) (hw : ∀ d ∈ tables_1, d.before a0 Z = true) (ws : List Jvm.Cond) (a : Addr) (bb : Addr) (kb : ClassId) (xg : Int32) (d0 : Int32) (d1 : Int32) (d2 : Int32) (d3 : Int32) (h0 : Heap) (n0 : Nat) (Z0 : n0 ≤ h0.size) (E_a : Exa Z h0 a cN_0) (F_bytes_a : Fld Z h0 a cN_0 "bytes" "[B" (.ref bb)) (V_bb : Arv Z h0 bb kb .byte (256 : Int32) [(.int d0), (.int d1), (.int d2), (.int d3)] (.int (0 : Int32))) (F_length_a : Fld Z h0 a cN_0 "length" "I" (.int (1 : Int32))) (F_longest_a : Fld Z h0 a cN_0 "longest" "I" (.int xg)) (g_a : n0 ≤ a) :
    CT l mN_7 prog_51_method_5_code 1 none ws ({ frames := 0, cells := 0, slots := 0, locals := 0 } : Room) #[(.ref a)] Z h0 (Q7n1 Z a bb kb xg d0 d1 d2 d3 h0 n0) := by
  refine body_of (plainFor_of_name pn_0) ?_
  intro p e s m below meth c s₁ hx dB hret hlk hml hown0 hnm X0 e0 hZ
  have hown : s.vm.findClass cN_0 = some m.cls := hown0
  have N0 := Fr.nil n0
  rw [ef_7n1]
  show Wk p e below (FN s (Q7n1 Z a bb kb xg d0 d1 d2 d3 h0 n0) 0 0) s₁ (mkF m 0 #[.val (.ref a)] [])
  refine w_aloadN X0 hx (.ref a) (dB d7_0) 1 rfl rfl rfl ?_
  refine w_getF X0 hx hZ hown e0 (host := "") (Or.inl (tw_21 hw)) Via.refl F_length_a (dB d7_1) 4 rfl (fun T144 X144 e144 => ?_)
  refine w_if_le X144 hx 1 (by decide) (dB d7_4) 33 7 (fun c145 => ?_) (fun c145 => ?_)
  ·exfalso; omega
  ·refine w_aloadN X144 hx (.ref a) (dB d7_7) 8 rfl rfl rfl ?_
   refine w_getF X144 hx hZ hown e144 (host := "") (Or.inl (tw_14 hw)) Via.refl F_bytes_a (dB d7_8) 11 rfl (fun T146 X146 e146 => ?_)
   refine w_aloadN X146 hx (.ref a) (dB d7_11) 12 rfl rfl rfl ?_
   refine w_getF X146 hx hZ hown e146 (host := "") (Or.inl (tw_21 hw)) Via.refl F_length_a (dB d7_12) 15 rfl (fun T147 X147 e147 => ?_)
   refine w_iconst X147 hx (dB d7_15) 16 rfl (1 : Int32) (by decide) ?_
   refine w_isub X147 hx (dB d7_16) 17 rfl (show (0 : Int32) = (1 : Int32) - (1 : Int32) from by decide) ?_
   refine w_baload X147 hx hZ e147 V_bb ⟨by decide, by decide⟩ (v := (.int d0)) rfl (dB d7_17) 18 rfl ?_
   refine w_bipush X147 hx (dB d7_18) 20 rfl (13 : Int32) (by decide) ?_
   refine w_icmp_ne X147 hx d0.toInt 13 rfl (by decide) (dB d7_20) 33 23 (fun c148 => ?_) (fun c148 => ?_)
   ·refine w_ret0 X147 hx hlk hret (dB d7_33) (by decide) (by decide) ?_
    rw [e147]
    exact ⟨(1 : Int32), by have hw1 : (1 : Int32).toInt = 1 := (by decide); omega, rfl, N0, (Keep.refl h0 [a]), F_bytes_a, F_length_a, F_longest_a⟩
   ·refine w_aloadN X147 hx (.ref a) (dB d7_23) 24 rfl rfl rfl ?_
    refine w_dup X147 hx (dB d7_24) 25 rfl rfl ?_
    refine w_getF X147 hx hZ hown e147 (host := "") (Or.inl (tw_21 hw)) Via.refl F_length_a (dB d7_25) 28 rfl (fun T149 X149 e149 => ?_)
    refine w_iconst X149 hx (dB d7_28) 29 rfl (1 : Int32) (by decide) ?_
    refine w_isub X149 hx (dB d7_29) 30 rfl (show (0 : Int32) = (1 : Int32) - (1 : Int32) from by decide) ?_
    refine w_putF X149 hx hZ hown e149 (host := "") (Or.inl (tw_21 hw)) Via.refl F_length_a E_a (Or.inl (tw_22 hw)) (tw_6 hw) (ty := .int) (by decide) rfl rfl (dB d7_30) 33 rfl (fun T150 h150 X150 e150 W150 => ?_)
    have F151 : Exa Z h150 a cN_0 := E_a.wr W150
    have F152 : Fld Z h150 a cN_0 "bytes" "[B" (.ref bb) := F_bytes_a.other W150 (Or.inr (slot_ne (Or.inl (tw_15 hw)) (Or.inl (tw_22 hw)) (by decide) (t := (.array .byte)) (t' := .int) (by decide) (by decide)))
    have F153 : Arv Z h150 bb kb .byte (256 : Int32) [(.int d0), (.int d1), (.int d2), (.int d3)] (.int (0 : Int32)) := V_bb.other W150 (Ne.symm (ne_arv E_a (tw_6 hw) V_bb))
    have F154 : Fld Z h150 a cN_0 "length" "I" (.int (0 : Int32)) := F_length_a.same W150
    have F155 : Fld Z h150 a cN_0 "longest" "I" (.int xg) := F_longest_a.other W150 (Or.inr (slot_ne (Or.inl (tw_24 hw)) (Or.inl (tw_22 hw)) (by decide) (t := .int) (t' := .int) (by decide) (by decide)))
    have Z150 : n0 ≤ h150.size := by rw [W150.size]; exact Z0
    have K150 : Keep h0 h150 [a] := (Keep.refl h0 [a]).wr W150 (Or.inl (List.mem_of_getElem? (i := 0) rfl))
    have N150 := Fr.snoc X150 N0 g_a
    refine w_ret0 X150 hx hlk hret (dB d7_33) (by decide) (by decide) ?_
    rw [e150]
    exact ⟨(0 : Int32), by have hw1 : (0 : Int32).toInt = 0 := (by decide); omega, rfl, N150, K150, F152, F154, F155⟩
theorem ef_7n2 (m : MethodId) (x0 : Addr) : entryFrame m #[(.ref x0)] 1 = mkF m 0 #[.val (.ref x0)] [] := by first | (simp [entryFrame, mkF, argsToLocals, Value.category]; done) | rfl
def Q7n2 (Z : State) (a : Addr) (bb : Addr) (kb : ClassId) (xg : Int32) (d0 : Int32) (d1 : Int32) (d2 : Int32) (d3 : Int32) (h0 : Heap) (n0 : Nat) (v : Option Value) (h : Heap) (L : List Loc) : Prop := ∃ y : Int32, ((d1.toInt = 13 ∧ y.toInt = 1) ∨ (¬ (d1.toInt = 13) ∧ y.toInt = 2)) ∧ v = none ∧ Fr n0 L ∧ Keep h0 h [a] ∧ Fld Z h a cN_0 "bytes" "[B" (.ref bb) ∧ Fld Z h a cN_0 "length" "I" (.int y) ∧ Fld Z h a cN_0 "longest" "I" (.int xg)
set_option maxRecDepth 65536 in
set_option maxHeartbeats 40000000 in
theorem rm7n2 (l : Launch) (Z : State) (a0 : Array Value) (hw : ∀ d ∈ tables_1, d.before a0 Z = true) (ws : List Jvm.Cond) (a : Addr) (bb : Addr) (kb : ClassId) (xg : Int32) (d0 : Int32) (d1 : Int32) (d2 : Int32) (d3 : Int32) (h0 : Heap) (n0 : Nat) (Z0 : n0 ≤ h0.size) (E_a : Exa Z h0 a cN_0) (F_bytes_a : Fld Z h0 a cN_0 "bytes" "[B" (.ref bb)) (V_bb : Arv Z h0 bb kb .byte (256 : Int32) [(.int d0), (.int d1), (.int d2), (.int d3)] (.int (0 : Int32))) (F_length_a : Fld Z h0 a cN_0 "length" "I" (.int (2 : Int32))) (F_longest_a : Fld Z h0 a cN_0 "longest" "I" (.int xg)) (g_a : n0 ≤ a) :
    CT l mN_7 prog_51_method_5_code 1 none ws ({ frames := 0, cells := 0, slots := 0, locals := 0 } : Room) #[(.ref a)] Z h0 (Q7n2 Z a bb kb xg d0 d1 d2 d3 h0 n0) := by
  refine body_of (plainFor_of_name pn_0) ?_
  intro p e s m below meth c s₁ hx dB hret hlk hml hown0 hnm X0 e0 hZ
  have hown : s.vm.findClass cN_0 = some m.cls := hown0
  have N0 := Fr.nil n0
  rw [ef_7n2]
  show Wk p e below (FN s (Q7n2 Z a bb kb xg d0 d1 d2 d3 h0 n0) 0 0) s₁ (mkF m 0 #[.val (.ref a)] [])
  refine w_aloadN X0 hx (.ref a) (dB d7_0) 1 rfl rfl rfl ?_
  refine w_getF X0 hx hZ hown e0 (host := "") (Or.inl (tw_21 hw)) Via.refl F_length_a (dB d7_1) 4 rfl (fun T156 X156 e156 => ?_)
  refine w_if_le X156 hx 2 (by decide) (dB d7_4) 33 7 (fun c157 => ?_) (fun c157 => ?_)
  ·exfalso; omega
  ·refine w_aloadN X156 hx (.ref a) (dB d7_7) 8 rfl rfl rfl ?_
   refine w_getF X156 hx hZ hown e156 (host := "") (Or.inl (tw_14 hw)) Via.refl F_bytes_a (dB d7_8) 11 rfl (fun T158 X158 e158 => ?_)
   refine w_aloadN X158 hx (.ref a) (dB d7_11) 12 rfl rfl rfl ?_
   refine w_getF X158 hx hZ hown e158 (host := "") (Or.inl (tw_21 hw)) Via.refl F_length_a (dB d7_12) 15 rfl (fun T159 X159 e159 => ?_)
   refine w_iconst X159 hx (dB d7_15) 16 rfl (1 : Int32) (by decide) ?_
   refine w_isub X159 hx (dB d7_16) 17 rfl (show (1 : Int32) = (2 : Int32) - (1 : Int32) from by decide) ?_
   refine w_baload X159 hx hZ e159 V_bb ⟨by decide, by decide⟩ (v := (.int d1)) rfl (dB d7_17) 18 rfl ?_
   refine w_bipush X159 hx (dB d7_18) 20 rfl (13 : Int32) (by decide) ?_
   refine w_icmp_ne X159 hx d1.toInt 13 rfl (by decide) (dB d7_20) 33 23 (fun c160 => ?_) (fun c160 => ?_)
   ·refine w_ret0 X159 hx hlk hret (dB d7_33) (by decide) (by decide) ?_
    rw [e159]
    exact ⟨(2 : Int32), by have hw1 : (2 : Int32).toInt = 2 := (by decide); omega, rfl, N0, (Keep.refl h0 [a]), F_bytes_a, F_length_a, F_longest_a⟩
   ·refine w_aloadN X159 hx (.ref a) (dB d7_23) 24 rfl rfl rfl ?_
    refine w_dup X159 hx (dB d7_24) 25 rfl rfl ?_
    refine w_getF X159 hx hZ hown e159 (host := "") (Or.inl (tw_21 hw)) Via.refl F_length_a (dB d7_25) 28 rfl (fun T161 X161 e161 => ?_)
    refine w_iconst X161 hx (dB d7_28) 29 rfl (1 : Int32) (by decide) ?_
    refine w_isub X161 hx (dB d7_29) 30 rfl (show (1 : Int32) = (2 : Int32) - (1 : Int32) from by decide) ?_
    refine w_putF X161 hx hZ hown e161 (host := "") (Or.inl (tw_21 hw)) Via.refl F_length_a E_a (Or.inl (tw_22 hw)) (tw_6 hw) (ty := .int) (by decide) rfl rfl (dB d7_30) 33 rfl (fun T162 h162 X162 e162 W162 => ?_)
    have F163 : Exa Z h162 a cN_0 := E_a.wr W162
    have F164 : Fld Z h162 a cN_0 "bytes" "[B" (.ref bb) := F_bytes_a.other W162 (Or.inr (slot_ne (Or.inl (tw_15 hw)) (Or.inl (tw_22 hw)) (by decide) (t := (.array .byte)) (t' := .int) (by decide) (by decide)))
    have F165 : Arv Z h162 bb kb .byte (256 : Int32) [(.int d0), (.int d1), (.int d2), (.int d3)] (.int (0 : Int32)) := V_bb.other W162 (Ne.symm (ne_arv E_a (tw_6 hw) V_bb))
    have F166 : Fld Z h162 a cN_0 "length" "I" (.int (1 : Int32)) := F_length_a.same W162
    have F167 : Fld Z h162 a cN_0 "longest" "I" (.int xg) := F_longest_a.other W162 (Or.inr (slot_ne (Or.inl (tw_24 hw)) (Or.inl (tw_22 hw)) (by decide) (t := .int) (t' := .int) (by decide) (by decide)))
    have Z162 : n0 ≤ h162.size := by rw [W162.size]; exact Z0
    have K162 : Keep h0 h162 [a] := (Keep.refl h0 [a]).wr W162 (Or.inl (List.mem_of_getElem? (i := 0) rfl))
    have N162 := Fr.snoc X162 N0 g_a
    refine w_ret0 X162 hx hlk hret (dB d7_33) (by decide) (by decide) ?_
    rw [e162]
    exact ⟨(1 : Int32), by have hw1 : (1 : Int32).toInt = 1 := (by decide); omega, rfl, N162, K162, F164, F166, F167⟩
theorem ef_7n3 (m : MethodId) (x0 : Addr) : entryFrame m #[(.ref x0)] 1 = mkF m 0 #[.val (.ref x0)] [] := by first | (simp [entryFrame, mkF, argsToLocals, Value.category]; done) | rfl
def Q7n3 (Z : State) (a : Addr) (bb : Addr) (kb : ClassId) (xg : Int32) (d0 : Int32) (d1 : Int32) (d2 : Int32) (d3 : Int32) (h0 : Heap) (n0 : Nat) (v : Option Value) (h : Heap) (L : List Loc) : Prop := ∃ y : Int32, ((d2.toInt = 13 ∧ y.toInt = 2) ∨ (¬ (d2.toInt = 13) ∧ y.toInt = 3)) ∧ v = none ∧ Fr n0 L ∧ Keep h0 h [a] ∧ Fld Z h a cN_0 "bytes" "[B" (.ref bb) ∧ Fld Z h a cN_0 "length" "I" (.int y) ∧ Fld Z h a cN_0 "longest" "I" (.int xg)
set_option maxRecDepth 65536 in
set_option maxHeartbeats 40000000 in
theorem rm7n3 (l : Launch) (Z : State) (a0 : Array Value) (hw : ∀ d ∈ tables_1, d.before a0 Z = true) (ws : List Jvm.Cond) (a : Addr) (bb : Addr) (kb : ClassId) (xg : Int32) (d0 : Int32) (d1 : Int32) (d2 : Int32) (d3 : Int32) (h0 : Heap) (n0 : Nat) (Z0 : n0 ≤ h0.size) (E_a : Exa Z h0 a cN_0) (F_bytes_a : Fld Z h0 a cN_0 "bytes" "[B" (.ref bb)) (V_bb : Arv Z h0 bb kb .byte (256 : Int32) [(.int d0), (.int d1), (.int d2), (.int d3)] (.int (0 : Int32))) (F_length_a : Fld Z h0 a cN_0 "length" "I" (.int (3 : Int32))) (F_longest_a : Fld Z h0 a cN_0 "longest" "I" (.int xg)) (g_a : n0 ≤ a) :
    CT l mN_7 prog_51_method_5_code 1 none ws ({ frames := 0, cells := 0, slots := 0, locals := 0 } : Room) #[(.ref a)] Z h0 (Q7n3 Z a bb kb xg d0 d1 d2 d3 h0 n0) := by
  refine body_of (plainFor_of_name pn_0) ?_
  intro p e s m below meth c s₁ hx dB hret hlk hml hown0 hnm X0 e0 hZ
  have hown : s.vm.findClass cN_0 = some m.cls := hown0
  have N0 := Fr.nil n0
  rw [ef_7n3]
  show Wk p e below (FN s (Q7n3 Z a bb kb xg d0 d1 d2 d3 h0 n0) 0 0) s₁ (mkF m 0 #[.val (.ref a)] [])
  refine w_aloadN X0 hx (.ref a) (dB d7_0) 1 rfl rfl rfl ?_
  refine w_getF X0 hx hZ hown e0 (host := "") (Or.inl (tw_21 hw)) Via.refl F_length_a (dB d7_1) 4 rfl (fun T168 X168 e168 => ?_)
  refine w_if_le X168 hx 3 (by decide) (dB d7_4) 33 7 (fun c169 => ?_) (fun c169 => ?_)
  ·exfalso; omega
  ·refine w_aloadN X168 hx (.ref a) (dB d7_7) 8 rfl rfl rfl ?_
   refine w_getF X168 hx hZ hown e168 (host := "") (Or.inl (tw_14 hw)) Via.refl F_bytes_a (dB d7_8) 11 rfl (fun T170 X170 e170 => ?_)
   refine w_aloadN X170 hx (.ref a) (dB d7_11) 12 rfl rfl rfl ?_
   refine w_getF X170 hx hZ hown e170 (host := "") (Or.inl (tw_21 hw)) Via.refl F_length_a (dB d7_12) 15 rfl (fun T171 X171 e171 => ?_)
   refine w_iconst X171 hx (dB d7_15) 16 rfl (1 : Int32) (by decide) ?_
   refine w_isub X171 hx (dB d7_16) 17 rfl (show (2 : Int32) = (3 : Int32) - (1 : Int32) from by decide) ?_
   refine w_baload X171 hx hZ e171 V_bb ⟨by decide, by decide⟩ (v := (.int d2)) rfl (dB d7_17) 18 rfl ?_
   refine w_bipush X171 hx (dB d7_18) 20 rfl (13 : Int32) (by decide) ?_
   refine w_icmp_ne X171 hx d2.toInt 13 rfl (by decide) (dB d7_20) 33 23 (fun c172 => ?_) (fun c172 => ?_)
   ·refine w_ret0 X171 hx hlk hret (dB d7_33) (by decide) (by decide) ?_
    rw [e171]
    exact ⟨(3 : Int32), by have hw1 : (3 : Int32).toInt = 3 := (by decide); omega, rfl, N0, (Keep.refl h0 [a]), F_bytes_a, F_length_a, F_longest_a⟩
   ·refine w_aloadN X171 hx (.ref a) (dB d7_23) 24 rfl rfl rfl ?_
    refine w_dup X171 hx (dB d7_24) 25 rfl rfl ?_
    refine w_getF X171 hx hZ hown e171 (host := "") (Or.inl (tw_21 hw)) Via.refl F_length_a (dB d7_25) 28 rfl (fun T173 X173 e173 => ?_)
    refine w_iconst X173 hx (dB d7_28) 29 rfl (1 : Int32) (by decide) ?_
    refine w_isub X173 hx (dB d7_29) 30 rfl (show (2 : Int32) = (3 : Int32) - (1 : Int32) from by decide) ?_
    refine w_putF X173 hx hZ hown e173 (host := "") (Or.inl (tw_21 hw)) Via.refl F_length_a E_a (Or.inl (tw_22 hw)) (tw_6 hw) (ty := .int) (by decide) rfl rfl (dB d7_30) 33 rfl (fun T174 h174 X174 e174 W174 => ?_)
    have F175 : Exa Z h174 a cN_0 := E_a.wr W174
    have F176 : Fld Z h174 a cN_0 "bytes" "[B" (.ref bb) := F_bytes_a.other W174 (Or.inr (slot_ne (Or.inl (tw_15 hw)) (Or.inl (tw_22 hw)) (by decide) (t := (.array .byte)) (t' := .int) (by decide) (by decide)))
    have F177 : Arv Z h174 bb kb .byte (256 : Int32) [(.int d0), (.int d1), (.int d2), (.int d3)] (.int (0 : Int32)) := V_bb.other W174 (Ne.symm (ne_arv E_a (tw_6 hw) V_bb))
    have F178 : Fld Z h174 a cN_0 "length" "I" (.int (2 : Int32)) := F_length_a.same W174
    have F179 : Fld Z h174 a cN_0 "longest" "I" (.int xg) := F_longest_a.other W174 (Or.inr (slot_ne (Or.inl (tw_24 hw)) (Or.inl (tw_22 hw)) (by decide) (t := .int) (t' := .int) (by decide) (by decide)))
    have Z174 : n0 ≤ h174.size := by rw [W174.size]; exact Z0
    have K174 : Keep h0 h174 [a] := (Keep.refl h0 [a]).wr W174 (Or.inl (List.mem_of_getElem? (i := 0) rfl))
    have N174 := Fr.snoc X174 N0 g_a
    refine w_ret0 X174 hx hlk hret (dB d7_33) (by decide) (by decide) ?_
    rw [e174]
    exact ⟨(2 : Int32), by have hw1 : (2 : Int32).toInt = 2 := (by decide); omega, rfl, N174, K174, F176, F178, F179⟩
theorem ef_8 (m : MethodId) (x0 : Addr) : entryFrame m #[(.ref x0)] 1 = mkF m 0 #[.val (.ref x0)] [] := by first | (simp [entryFrame, mkF, argsToLocals, Value.category]; done) | rfl
def Q8 (Z : State) (a : Addr) (xl : Int32) (h0 : Heap) (n0 : Nat) (v : Option Value) (h : Heap) (L : List Loc) : Prop := v = some (.int xl) ∧ Fr n0 L ∧ h = h0
set_option maxRecDepth 65536 in
set_option maxHeartbeats 40000000 in
theorem rm8 (l : Launch) (Z : State) (a0 : Array Value) (hw : ∀ d ∈ tables_1, d.before a0 Z = true) (ws : List Jvm.Cond) (a : Addr) (xl : Int32) (h0 : Heap) (n0 : Nat) (Z0 : n0 ≤ h0.size) (F_length_a : Fld Z h0 a cN_0 "length" "I" (.int xl)) :
    CT l mN_8 prog_51_method_6_code 1 (some .int) ws ({ frames := 0, cells := 0, slots := 0, locals := 0 } : Room) #[(.ref a)] Z h0 (Q8 Z a xl h0 n0) := by
  refine body_of (plainFor_of_name pn_0) ?_
  intro p e s m below meth c s₁ hx dB hret hlk hml hown0 hnm X0 e0 hZ
  have hown : s.vm.findClass cN_0 = some m.cls := hown0
  have N0 := Fr.nil n0
  rw [ef_8]
  show Wk p e below (FN s (Q8 Z a xl h0 n0) 0 0) s₁ (mkF m 0 #[.val (.ref a)] [])
  refine w_aloadN X0 hx (.ref a) (dB d8_0) 1 rfl rfl rfl ?_
  refine w_getF X0 hx hZ hown e0 (host := "") (Or.inl (tw_21 hw)) Via.refl F_length_a (dB d8_1) 4 rfl (fun T180 X180 e180 => ?_)
  refine w_retI X180 hx hlk hret (dB d8_4) (by decide) (by decide) ?_
  rw [e180]
  exact ⟨rfl, N0, rfl⟩
theorem ef_9 (m : MethodId) (x0 : Addr) : entryFrame m #[(.ref x0), (.int (13 : Int32))] 3 = mkF m 0 #[.val (.ref x0), .val (.int (13 : Int32)), .unset] [] := by first | (simp [entryFrame, mkF, argsToLocals, Value.category]; done) | rfl
def Q9 (Z : State) (a : Addr) (bb : Addr) (kb : ClassId) (xl : Int32) (d0 : Int32) (d1 : Int32) (d2 : Int32) (d3 : Int32) (h0 : Heap) (n0 : Nat) (v : Option Value) (h : Heap) (L : List Loc) : Prop := ∃ z : Int32, v = some (.int z) ∧ ((z.toInt = 0 ∧ (0 < xl.toInt ∧ d0.toInt = 13)) ∨ (z.toInt = 1 ∧ (1 < xl.toInt ∧ d1.toInt = 13) ∧ ¬ (0 < xl.toInt ∧ d0.toInt = 13)) ∨ (z.toInt = 2 ∧ (2 < xl.toInt ∧ d2.toInt = 13) ∧ ¬ (0 < xl.toInt ∧ d0.toInt = 13) ∧ ¬ (1 < xl.toInt ∧ d1.toInt = 13)) ∨ (z.toInt = -1 ∧ ¬ (0 < xl.toInt ∧ d0.toInt = 13) ∧ ¬ (1 < xl.toInt ∧ d1.toInt = 13) ∧ ¬ (2 < xl.toInt ∧ d2.toInt = 13))) ∧ Fr n0 L ∧ h = h0
set_option maxRecDepth 65536 in
set_option maxHeartbeats 40000000 in
theorem rm9 (l : Launch) (Z : State) (a0 : Array Value) (hw : ∀ d ∈ tables_1, d.before a0 Z = true) (ws : List Jvm.Cond) (a : Addr) (bb : Addr) (kb : ClassId) (xl : Int32) (d0 : Int32) (d1 : Int32) (d2 : Int32) (d3 : Int32) (h0 : Heap) (n0 : Nat) (Z0 : n0 ≤ h0.size) (F_bytes_a : Fld Z h0 a cN_0 "bytes" "[B" (.ref bb)) (V_bb : Arv Z h0 bb kb .byte (256 : Int32) [(.int d0), (.int d1), (.int d2), (.int d3)] (.int (0 : Int32))) (F_length_a : Fld Z h0 a cN_0 "length" "I" (.int xl)) (p0 : 0 ≤ xl.toInt ∧ xl.toInt ≤ 3) :
    CT l mN_9 prog_51_method_8_code 3 (some .int) ws ({ frames := 0, cells := 0, slots := 0, locals := 0 } : Room) #[(.ref a), (.int (13 : Int32))] Z h0 (Q9 Z a bb kb xl d0 d1 d2 d3 h0 n0) := by
  refine body_of (plainFor_of_name pn_0) ?_
  intro p e s m below meth c s₁ hx dB hret hlk hml hown0 hnm X0 e0 hZ
  have hown : s.vm.findClass cN_0 = some m.cls := hown0
  have N0 := Fr.nil n0
  rw [ef_9]
  show Wk p e below (FN s (Q9 Z a bb kb xl d0 d1 d2 d3 h0 n0) 0 0) s₁ (mkF m 0 #[.val (.ref a), .val (.int (13 : Int32)), .unset] [])
  refine w_iconst X0 hx (dB d9_0) 1 rfl (0 : Int32) (by decide) ?_
  refine w_istoreN X0 hx (dB d9_1) 2 rfl #[.val (.ref a), .val (.int (13 : Int32)), .val (.int (0 : Int32))] rfl ?_
  refine w_iloadN X0 hx (0 : Int32) (dB d9_2) 3 rfl rfl ?_
  refine w_aloadN X0 hx (.ref a) (dB d9_3) 4 rfl rfl rfl ?_
  refine w_getF X0 hx hZ hown e0 (host := "") (Or.inl (tw_21 hw)) Via.refl F_length_a (dB d9_4) 7 rfl (fun T181 X181 e181 => ?_)
  refine w_icmp_ge X181 hx 0 xl.toInt (by decide) rfl (dB d9_7) 28 10 (fun c182 => ?_) (fun c182 => ?_)
  ·refine w_iconst X181 hx (dB d9_28) 29 rfl (-1 : Int32) (by decide) ?_
   refine w_retI X181 hx hlk hret (dB d9_29) (by decide) (by decide) ?_
   rw [e181]
   exact ⟨(-1 : Int32), rfl, by have hz : (-1 : Int32).toInt = (-1) := (by decide); omega, N0, rfl⟩
  ·refine w_aloadN X181 hx (.ref a) (dB d9_10) 11 rfl rfl rfl ?_
   refine w_getF X181 hx hZ hown e181 (host := "") (Or.inl (tw_14 hw)) Via.refl F_bytes_a (dB d9_11) 14 rfl (fun T183 X183 e183 => ?_)
   refine w_iloadN X183 hx (0 : Int32) (dB d9_14) 15 rfl rfl ?_
   refine w_baload X183 hx hZ e183 V_bb ⟨by decide, by decide⟩ (v := (.int d0)) rfl (dB d9_15) 16 rfl ?_
   refine w_iloadN X183 hx (13 : Int32) (dB d9_16) 17 rfl rfl ?_
   refine w_icmp_ne X183 hx d0.toInt 13 rfl (by decide) (dB d9_17) 22 20 (fun c184 => ?_) (fun c184 => ?_)
   ·refine w_iinc X183 hx (dB d9_22) 25 rfl rfl (1 : Int32) (by rw [(show (1 : Int32) = (0 : Int32) + (1 : Int32) from by decide)]; rfl) #[.val (.ref a), .val (.int (13 : Int32)), .val (.int (1 : Int32))] rfl ?_
    refine w_goto X183 hx (dB d9_25) 2 ?_
    refine w_iloadN X183 hx (1 : Int32) (dB d9_2) 3 rfl rfl ?_
    refine w_aloadN X183 hx (.ref a) (dB d9_3) 4 rfl rfl rfl ?_
    refine w_getF X183 hx hZ hown e183 (host := "") (Or.inl (tw_21 hw)) Via.refl F_length_a (dB d9_4) 7 rfl (fun T185 X185 e185 => ?_)
    refine w_icmp_ge X185 hx 1 xl.toInt (by decide) rfl (dB d9_7) 28 10 (fun c186 => ?_) (fun c186 => ?_)
    ·refine w_iconst X185 hx (dB d9_28) 29 rfl (-1 : Int32) (by decide) ?_
     refine w_retI X185 hx hlk hret (dB d9_29) (by decide) (by decide) ?_
     rw [e185]
     exact ⟨(-1 : Int32), rfl, by have hz : (-1 : Int32).toInt = (-1) := (by decide); omega, N0, rfl⟩
    ·refine w_aloadN X185 hx (.ref a) (dB d9_10) 11 rfl rfl rfl ?_
     refine w_getF X185 hx hZ hown e185 (host := "") (Or.inl (tw_14 hw)) Via.refl F_bytes_a (dB d9_11) 14 rfl (fun T187 X187 e187 => ?_)
     refine w_iloadN X187 hx (1 : Int32) (dB d9_14) 15 rfl rfl ?_
     refine w_baload X187 hx hZ e187 V_bb ⟨by decide, by decide⟩ (v := (.int d1)) rfl (dB d9_15) 16 rfl ?_
     refine w_iloadN X187 hx (13 : Int32) (dB d9_16) 17 rfl rfl ?_
     refine w_icmp_ne X187 hx d1.toInt 13 rfl (by decide) (dB d9_17) 22 20 (fun c188 => ?_) (fun c188 => ?_)
     ·refine w_iinc X187 hx (dB d9_22) 25 rfl rfl (2 : Int32) (by rw [(show (2 : Int32) = (1 : Int32) + (1 : Int32) from by decide)]; rfl) #[.val (.ref a), .val (.int (13 : Int32)), .val (.int (2 : Int32))] rfl ?_
      refine w_goto X187 hx (dB d9_25) 2 ?_
      refine w_iloadN X187 hx (2 : Int32) (dB d9_2) 3 rfl rfl ?_
      refine w_aloadN X187 hx (.ref a) (dB d9_3) 4 rfl rfl rfl ?_
      refine w_getF X187 hx hZ hown e187 (host := "") (Or.inl (tw_21 hw)) Via.refl F_length_a (dB d9_4) 7 rfl (fun T189 X189 e189 => ?_)
      refine w_icmp_ge X189 hx 2 xl.toInt (by decide) rfl (dB d9_7) 28 10 (fun c190 => ?_) (fun c190 => ?_)
      ·refine w_iconst X189 hx (dB d9_28) 29 rfl (-1 : Int32) (by decide) ?_
       refine w_retI X189 hx hlk hret (dB d9_29) (by decide) (by decide) ?_
       rw [e189]
       exact ⟨(-1 : Int32), rfl, by have hz : (-1 : Int32).toInt = (-1) := (by decide); omega, N0, rfl⟩
      ·refine w_aloadN X189 hx (.ref a) (dB d9_10) 11 rfl rfl rfl ?_
       refine w_getF X189 hx hZ hown e189 (host := "") (Or.inl (tw_14 hw)) Via.refl F_bytes_a (dB d9_11) 14 rfl (fun T191 X191 e191 => ?_)
       refine w_iloadN X191 hx (2 : Int32) (dB d9_14) 15 rfl rfl ?_
       refine w_baload X191 hx hZ e191 V_bb ⟨by decide, by decide⟩ (v := (.int d2)) rfl (dB d9_15) 16 rfl ?_
       refine w_iloadN X191 hx (13 : Int32) (dB d9_16) 17 rfl rfl ?_
       refine w_icmp_ne X191 hx d2.toInt 13 rfl (by decide) (dB d9_17) 22 20 (fun c192 => ?_) (fun c192 => ?_)
       ·refine w_iinc X191 hx (dB d9_22) 25 rfl rfl (3 : Int32) (by rw [(show (3 : Int32) = (2 : Int32) + (1 : Int32) from by decide)]; rfl) #[.val (.ref a), .val (.int (13 : Int32)), .val (.int (3 : Int32))] rfl ?_
        refine w_goto X191 hx (dB d9_25) 2 ?_
        refine w_iloadN X191 hx (3 : Int32) (dB d9_2) 3 rfl rfl ?_
        refine w_aloadN X191 hx (.ref a) (dB d9_3) 4 rfl rfl rfl ?_
        refine w_getF X191 hx hZ hown e191 (host := "") (Or.inl (tw_21 hw)) Via.refl F_length_a (dB d9_4) 7 rfl (fun T193 X193 e193 => ?_)
        refine w_icmp_ge X193 hx 3 xl.toInt (by decide) rfl (dB d9_7) 28 10 (fun c194 => ?_) (fun c194 => ?_)
        ·refine w_iconst X193 hx (dB d9_28) 29 rfl (-1 : Int32) (by decide) ?_
         refine w_retI X193 hx hlk hret (dB d9_29) (by decide) (by decide) ?_
         rw [e193]
         exact ⟨(-1 : Int32), rfl, by have hz : (-1 : Int32).toInt = (-1) := (by decide); omega, N0, rfl⟩
        ·exfalso; omega
       ·refine w_iloadN X191 hx (2 : Int32) (dB d9_20) 21 rfl rfl ?_
        refine w_retI X191 hx hlk hret (dB d9_21) (by decide) (by decide) ?_
        rw [e191]
        exact ⟨(2 : Int32), rfl, by have hz : (2 : Int32).toInt = 2 := (by decide); omega, N0, rfl⟩
     ·refine w_iloadN X187 hx (1 : Int32) (dB d9_20) 21 rfl rfl ?_
      refine w_retI X187 hx hlk hret (dB d9_21) (by decide) (by decide) ?_
      rw [e187]
      exact ⟨(1 : Int32), rfl, by have hz : (1 : Int32).toInt = 1 := (by decide); omega, N0, rfl⟩
   ·refine w_iloadN X183 hx (0 : Int32) (dB d9_20) 21 rfl rfl ?_
    refine w_retI X183 hx hlk hret (dB d9_21) (by decide) (by decide) ?_
    rw [e183]
    exact ⟨(0 : Int32), rfl, by have hz : (0 : Int32).toInt = 0 := (by decide); omega, N0, rfl⟩
theorem ef_0 (m : MethodId) (x0 : Int32) (x1 : Int32) (x2 : Int32) (x3 : Int32) : entryFrame m #[(.int x0), (.int x1), (.int x2), (.int x3)] maxLocals = mkF m 0 #[.val (.int x0), .val (.int x1), .val (.int x2), .val (.int x3), .unset, .unset, .unset, .unset, .unset, .unset] [] := by first | (simp [entryFrame, mkF, argsToLocals, Value.category, maxLocals]; done) | rfl
def Q0 (Z : State) (sz : Int32) (x0 : Int32) (x1 : Int32) (x2 : Int32) (h0 : Heap) (n0 : Nat) (v : Option Value) (h : Heap) (L : List Loc) : Prop := v = some (.int 1) ∧ Fr n0 L
set_option maxRecDepth 65536 in
set_option maxHeartbeats 40000000 in
theorem rm0 (l : Launch) (Z : State) (a0 : Array Value) (hw : ∀ d ∈ tables_1, d.before a0 Z = true) (ws : List Jvm.Cond) (sz : Int32) (x0 : Int32) (x1 : Int32) (x2 : Int32) (h0 : Heap) (n0 : Nat) (Z0 : n0 ≤ h0.size) :
    MetFree l x (head1 (Jvm.Cond.code x code maxLocals ret :: ws) room_1) (fun as_ U => as_ = #[(.int sz), (.int x0), (.int x1), (.int x2)] ∧ Z.Warmed39 U.vm ∧ U.heap = h0) (fun _ _ _ _ _ => True) (fun _ U o U' => ∃ v L, o = .returned v ∧ Q0 Z sz x0 x1 x2 h0 n0 v U'.heap L ∧ FrameEnd U o U' L 4 266) := by
  refine body_of (plainFor_of_name pn_1) ?_
  intro p e s m below meth c s₁ hx dB hret hlk hml hown0 hnm X0 e0 hZ
  have hown : s.vm.findClass cN_1 = some m.cls := hown0
  have N0 := Fr.nil n0
  rw [ef_0]
  show Wk p e below (FN s (Q0 Z sz x0 x1 x2 h0 n0) 4 266) s₁ (mkF m 0 #[.val (.int sz), .val (.int x0), .val (.int x1), .val (.int x2), .unset, .unset, .unset, .unset, .unset, .unset] [])
  have r_sz := rng32 sz
  have r_x0 := rng32 x0
  have r_x1 := rng32 x1
  have r_x2 := rng32 x2
  refine w_iloadN X0 hx sz (dB at_0) 1 rfl rfl ?_
  refine w_iconst X0 hx (dB at_1) 2 rfl (3 : Int32) (by decide) ?_
  obtain ⟨v195, e195⟩ : ∃ z : Int32, z = sz &&& (3 : Int32) := ⟨_, rfl⟩
  have n195 : v195.toInt = sz.toInt % 4 := by rw [e195]; exact maskX 2 rfl (by decide) (by decide)
  refine w_iand X0 hx (dB at_2) 3 rfl e195 ?_
  refine w_istore X0 hx (dB at_3) 5 rfl #[.val (.int sz), .val (.int x0), .val (.int x1), .val (.int x2), .val (.int v195), .unset, .unset, .unset, .unset, .unset] rfl ?_
  refine w_iconst X0 hx (dB at_5) 6 rfl (3 : Int32) (by decide) ?_
  refine w_newP X0 hx hZ e0 (aty := .byte) (tw_0 hw) (by decide) 3 (by decide) (by decide) (by decide) (by decide) (dB at_6) 8 rfl (fun T196 h196 a196 k196 X196 e196 g196 E196 A196 => ?_)
  have g_a196 : n0 ≤ a196 := Nat.le_trans Z0 (Nat.le_of_eq g196.symm)
  have s_a196 : h0.size ≤ a196 := Nat.le_trans (Keep.refl h0 []).1 (Nat.le_of_eq g196.symm)
  have Z196 : n0 ≤ h196.size := Nat.le_trans Z0 E196.1
  have K196 : Keep h0 h196 [] := (Keep.refl h0 []).ext E196
  have V196 : Arv Z h196 a196 k196 .byte (3 : Int32) [(.int (0 : Int32)), (.int (0 : Int32)), (.int (0 : Int32))] (.int (0 : Int32)) := A196.pad (pad_rep [] (.int (0 : Int32)) 3)
  refine w_dup X196 hx (dB at_8) 9 rfl rfl ?_
  refine w_iconst X196 hx (dB at_9) 10 rfl (0 : Int32) (by decide) ?_
  refine w_iloadN X196 hx x0 (dB at_10) 11 rfl rfl ?_
  refine w_callS X196 hx hZ hown e196 (rm1 l Z a0 hw [] x0 h196 n0 Z196 ) (tw_1 hw) (tw_2 hw) (tw_3 hw) (tw_4 hw) (by decide) (by rw [hml]; rfl) [(.int x0)] [(.int (0 : Int32)), (.ref a196), (.ref a196)] (lenOf pd_1 rfl) rfl rfl (by decide) 3 rfl (by decide) (by decide) (by decide) (dB at_11) 14 rfl (fun r197 T197 L197 X197 q197 => ?_)
  obtain ⟨z197, rfl, f197, Nq197, eq197⟩ := q197
  have N197 := Fr.app N0 Nq197
  dsimp only [Option.toList_some, Option.toList_none, List.cons_append, List.nil_append]
  refine w_bastore X197 hx hZ eq197 V196 ⟨by decide, by decide⟩ 0 (by decide) (show 0 < 3 from (by decide)) (dB at_14) 15 rfl (fun T198 h198 X198 e198 W198 V198 => ?_)
  have b198 : z197.toInt8.toInt32 = z197 := eqI (byteE rfl (by omega) (by omega))
  rw [b198] at W198 V198
  have F199 : Arv Z h198 a196 k196 .byte (3 : Int32) [(.int z197), (.int (0 : Int32)), (.int (0 : Int32))] (.int (0 : Int32)) := V198
  have Z198 : n0 ≤ h198.size := by rw [W198.size]; exact Z196
  have K198 : Keep h0 h198 [] := K196.wr W198 (Or.inr s_a196)
  have N198 := Fr.snoc X198 N197 g_a196
  refine w_dup X198 hx (dB at_15) 16 rfl rfl ?_
  refine w_iconst X198 hx (dB at_16) 17 rfl (1 : Int32) (by decide) ?_
  refine w_iloadN X198 hx x1 (dB at_17) 18 rfl rfl ?_
  refine w_callS X198 hx hZ hown e198 (rm1 l Z a0 hw [] x1 h198 n0 Z198 ) (tw_1 hw) (tw_2 hw) (tw_3 hw) (tw_4 hw) (by decide) (by rw [hml]; rfl) [(.int x1)] [(.int (1 : Int32)), (.ref a196), (.ref a196)] (lenOf pd_1 rfl) rfl rfl (by decide) 3 rfl (by decide) (by decide) (by decide) (dB at_18) 21 rfl (fun r200 T200 L200 X200 q200 => ?_)
  obtain ⟨z200, rfl, f200, Nq200, eq200⟩ := q200
  have N200 := Fr.app N198 Nq200
  dsimp only [Option.toList_some, Option.toList_none, List.cons_append, List.nil_append]
  refine w_bastore X200 hx hZ eq200 F199 ⟨by decide, by decide⟩ 1 (by decide) (show 1 < 3 from (by decide)) (dB at_21) 22 rfl (fun T201 h201 X201 e201 W201 V201 => ?_)
  have b201 : z200.toInt8.toInt32 = z200 := eqI (byteE rfl (by omega) (by omega))
  rw [b201] at W201 V201
  have F202 : Arv Z h201 a196 k196 .byte (3 : Int32) [(.int z197), (.int z200), (.int (0 : Int32))] (.int (0 : Int32)) := V201
  have Z201 : n0 ≤ h201.size := by rw [W201.size]; exact Z198
  have K201 : Keep h0 h201 [] := K198.wr W201 (Or.inr s_a196)
  have N201 := Fr.snoc X201 N200 g_a196
  refine w_dup X201 hx (dB at_22) 23 rfl rfl ?_
  refine w_iconst X201 hx (dB at_23) 24 rfl (2 : Int32) (by decide) ?_
  refine w_iloadN X201 hx x2 (dB at_24) 25 rfl rfl ?_
  refine w_callS X201 hx hZ hown e201 (rm1 l Z a0 hw [] x2 h201 n0 Z201 ) (tw_1 hw) (tw_2 hw) (tw_3 hw) (tw_4 hw) (by decide) (by rw [hml]; rfl) [(.int x2)] [(.int (2 : Int32)), (.ref a196), (.ref a196)] (lenOf pd_1 rfl) rfl rfl (by decide) 3 rfl (by decide) (by decide) (by decide) (dB at_25) 28 rfl (fun r203 T203 L203 X203 q203 => ?_)
  obtain ⟨z203, rfl, f203, Nq203, eq203⟩ := q203
  have N203 := Fr.app N201 Nq203
  dsimp only [Option.toList_some, Option.toList_none, List.cons_append, List.nil_append]
  refine w_bastore X203 hx hZ eq203 F202 ⟨by decide, by decide⟩ 2 (by decide) (show 2 < 3 from (by decide)) (dB at_28) 29 rfl (fun T204 h204 X204 e204 W204 V204 => ?_)
  have b204 : z203.toInt8.toInt32 = z203 := eqI (byteE rfl (by omega) (by omega))
  rw [b204] at W204 V204
  have F205 : Arv Z h204 a196 k196 .byte (3 : Int32) [(.int z197), (.int z200), (.int z203)] (.int (0 : Int32)) := V204
  have Z204 : n0 ≤ h204.size := by rw [W204.size]; exact Z201
  have K204 : Keep h0 h204 [] := K201.wr W204 (Or.inr s_a196)
  have N204 := Fr.snoc X204 N203 g_a196
  refine w_astore X204 hx (dB at_29) 31 rfl rfl #[.val (.int sz), .val (.int x0), .val (.int x1), .val (.int x2), .val (.int v195), .val (.ref a196), .unset, .unset, .unset, .unset] rfl ?_
  refine w_iconst X204 hx (dB at_31) 32 rfl (4 : Int32) (by decide) ?_
  refine w_newP X204 hx hZ e204 (aty := .byte) (tw_0 hw) (by decide) 4 (by decide) (by decide) (by decide) (by decide) (dB at_32) 34 rfl (fun T206 h206 a206 k206 X206 e206 g206 E206 A206 => ?_)
  have ne_a196_a206 : a196 ≠ a206 := Nat.ne_of_lt (Nat.lt_of_lt_of_le F205.lt (Nat.le_of_eq g206.symm))
  have g_a206 : n0 ≤ a206 := Nat.le_trans Z204 (Nat.le_of_eq g206.symm)
  have s_a206 : h0.size ≤ a206 := Nat.le_trans K204.1 (Nat.le_of_eq g206.symm)
  have F207 : Arv Z h206 a196 k196 .byte (3 : Int32) [(.int z197), (.int z200), (.int z203)] (.int (0 : Int32)) := F205.ext E206
  have Z206 : n0 ≤ h206.size := Nat.le_trans Z204 E206.1
  have K206 : Keep h0 h206 [] := K204.ext E206
  have V206 : Arv Z h206 a206 k206 .byte (4 : Int32) [(.int (0 : Int32)), (.int (0 : Int32)), (.int (0 : Int32)), (.int (0 : Int32))] (.int (0 : Int32)) := A206.pad (pad_rep [] (.int (0 : Int32)) 4)
  refine w_dup X206 hx (dB at_34) 35 rfl rfl ?_
  refine w_iconst X206 hx (dB at_35) 36 rfl (0 : Int32) (by decide) ?_
  refine w_bipush X206 hx (dB at_36) 38 rfl (13 : Int32) (by decide) ?_
  refine w_bastore X206 hx hZ e206 V206 ⟨by decide, by decide⟩ 0 (by decide) (show 0 < 4 from (by decide)) (dB at_38) 39 rfl (fun T208 h208 X208 e208 W208 V208 => ?_)
  have b208 : (13 : Int32).toInt8.toInt32 = (13 : Int32) := by decide
  rw [b208] at W208 V208
  have F209 : Arv Z h208 a196 k196 .byte (3 : Int32) [(.int z197), (.int z200), (.int z203)] (.int (0 : Int32)) := F207.other W208 ne_a196_a206
  have F210 : Arv Z h208 a206 k206 .byte (4 : Int32) [(.int (13 : Int32)), (.int (0 : Int32)), (.int (0 : Int32)), (.int (0 : Int32))] (.int (0 : Int32)) := V208
  have Z208 : n0 ≤ h208.size := by rw [W208.size]; exact Z206
  have K208 : Keep h0 h208 [] := K206.wr W208 (Or.inr s_a206)
  have N208 := Fr.snoc X208 N204 g_a206
  refine w_dup X208 hx (dB at_39) 40 rfl rfl ?_
  refine w_iconst X208 hx (dB at_40) 41 rfl (1 : Int32) (by decide) ?_
  refine w_bipush X208 hx (dB at_41) 43 rfl (13 : Int32) (by decide) ?_
  refine w_bastore X208 hx hZ e208 F210 ⟨by decide, by decide⟩ 1 (by decide) (show 1 < 4 from (by decide)) (dB at_43) 44 rfl (fun T211 h211 X211 e211 W211 V211 => ?_)
  have b211 : (13 : Int32).toInt8.toInt32 = (13 : Int32) := by decide
  rw [b211] at W211 V211
  have F212 : Arv Z h211 a196 k196 .byte (3 : Int32) [(.int z197), (.int z200), (.int z203)] (.int (0 : Int32)) := F209.other W211 ne_a196_a206
  have F213 : Arv Z h211 a206 k206 .byte (4 : Int32) [(.int (13 : Int32)), (.int (13 : Int32)), (.int (0 : Int32)), (.int (0 : Int32))] (.int (0 : Int32)) := V211
  have Z211 : n0 ≤ h211.size := by rw [W211.size]; exact Z208
  have K211 : Keep h0 h211 [] := K208.wr W211 (Or.inr s_a206)
  have N211 := Fr.snoc X211 N208 g_a206
  refine w_dup X211 hx (dB at_44) 45 rfl rfl ?_
  refine w_iconst X211 hx (dB at_45) 46 rfl (2 : Int32) (by decide) ?_
  refine w_bipush X211 hx (dB at_46) 48 rfl (13 : Int32) (by decide) ?_
  refine w_bastore X211 hx hZ e211 F213 ⟨by decide, by decide⟩ 2 (by decide) (show 2 < 4 from (by decide)) (dB at_48) 49 rfl (fun T214 h214 X214 e214 W214 V214 => ?_)
  have b214 : (13 : Int32).toInt8.toInt32 = (13 : Int32) := by decide
  rw [b214] at W214 V214
  have F215 : Arv Z h214 a196 k196 .byte (3 : Int32) [(.int z197), (.int z200), (.int z203)] (.int (0 : Int32)) := F212.other W214 ne_a196_a206
  have F216 : Arv Z h214 a206 k206 .byte (4 : Int32) [(.int (13 : Int32)), (.int (13 : Int32)), (.int (13 : Int32)), (.int (0 : Int32))] (.int (0 : Int32)) := V214
  have Z214 : n0 ≤ h214.size := by rw [W214.size]; exact Z211
  have K214 : Keep h0 h214 [] := K211.wr W214 (Or.inr s_a206)
  have N214 := Fr.snoc X214 N211 g_a206
  refine w_dup X214 hx (dB at_49) 50 rfl rfl ?_
  refine w_iconst X214 hx (dB at_50) 51 rfl (3 : Int32) (by decide) ?_
  refine w_bipush X214 hx (dB at_51) 53 rfl (13 : Int32) (by decide) ?_
  refine w_bastore X214 hx hZ e214 F216 ⟨by decide, by decide⟩ 3 (by decide) (show 3 < 4 from (by decide)) (dB at_53) 54 rfl (fun T217 h217 X217 e217 W217 V217 => ?_)
  have b217 : (13 : Int32).toInt8.toInt32 = (13 : Int32) := by decide
  rw [b217] at W217 V217
  have F218 : Arv Z h217 a196 k196 .byte (3 : Int32) [(.int z197), (.int z200), (.int z203)] (.int (0 : Int32)) := F215.other W217 ne_a196_a206
  have F219 : Arv Z h217 a206 k206 .byte (4 : Int32) [(.int (13 : Int32)), (.int (13 : Int32)), (.int (13 : Int32)), (.int (13 : Int32))] (.int (0 : Int32)) := V217
  have Z217 : n0 ≤ h217.size := by rw [W217.size]; exact Z214
  have K217 : Keep h0 h217 [] := K214.wr W217 (Or.inr s_a206)
  have N217 := Fr.snoc X217 N214 g_a206
  refine w_astore X217 hx (dB at_54) 56 rfl rfl #[.val (.int sz), .val (.int x0), .val (.int x1), .val (.int x2), .val (.int v195), .val (.ref a196), .val (.ref a206), .unset, .unset, .unset] rfl ?_
  refine w_new X217 hx hZ hown e217 (tw_5 hw) (tw_6 hw) (tw_7 hw) (by decide) (by decide) (dB at_56) 59 rfl (fun T220 h220 a220 X220 e220 g220 E220 A220 D220 => ?_)
  have ne_a196_a220 : a196 ≠ a220 := Nat.ne_of_lt (Nat.lt_of_lt_of_le F218.lt (Nat.le_of_eq g220.symm))
  have ne_a206_a220 : a206 ≠ a220 := Nat.ne_of_lt (Nat.lt_of_lt_of_le F219.lt (Nat.le_of_eq g220.symm))
  have g_a220 : n0 ≤ a220 := Nat.le_trans Z217 (Nat.le_of_eq g220.symm)
  have s_a220 : h0.size ≤ a220 := Nat.le_trans K217.1 (Nat.le_of_eq g220.symm)
  have F221 : Arv Z h220 a196 k196 .byte (3 : Int32) [(.int z197), (.int z200), (.int z203)] (.int (0 : Int32)) := F218.ext E220
  have F222 : Arv Z h220 a206 k206 .byte (4 : Int32) [(.int (13 : Int32)), (.int (13 : Int32)), (.int (13 : Int32)), (.int (13 : Int32))] (.int (0 : Int32)) := F219.ext E220
  have Z220 : n0 ≤ h220.size := Nat.le_trans Z217 E220.1
  have K220 : Keep h0 h220 [] := K217.ext E220
  have F223 : Fld Z h220 a220 cN_0 "bytes" "[B" .null := D220 (Or.inl (tw_15 hw)) (ty := (.array .byte)) (by decide)
  have F224 : Fld Z h220 a220 cN_0 "length" "I" (.int (0 : Int32)) := D220 (Or.inl (tw_22 hw)) (ty := .int) (by decide)
  have F225 : Fld Z h220 a220 cN_0 "longest" "I" (.int (0 : Int32)) := D220 (Or.inl (tw_24 hw)) (ty := .int) (by decide)
  refine w_dup X220 hx (dB at_59) 60 rfl rfl ?_
  refine w_init X220 hx hZ rfl hown e220 (rm2 l Z a0 hw [] a220 h220 n0 Z220 A220 F223 F224 F225 g_a220) (tw_8 hw) (tw_9 hw) (tw_7 hw) (tw_10 hw) (by decide) (by rw [hml]; rfl) a220 [] [(.ref a220)] (lenOf pd_2 rfl) rfl rfl (by decide) 1 rfl (by decide) (by decide) (by decide) (dB at_60) 63 rfl (fun r226 T226 L226 X226 q226 => ?_)
  obtain ⟨bb226, kb226, rfl, Nq226, Kq226, sq226_0, G226_0, G226_1, G226_2, G226_3⟩ := q226
  have N226 := Fr.app N217 Nq226
  have ne_a196_bb226 : a196 ≠ bb226 := Nat.ne_of_lt (Nat.lt_of_lt_of_le F221.lt sq226_0)
  have ne_a206_bb226 : a206 ≠ bb226 := Nat.ne_of_lt (Nat.lt_of_lt_of_le F222.lt sq226_0)
  have ne_a220_bb226 : a220 ≠ bb226 := Nat.ne_of_lt (Nat.lt_of_lt_of_le A220.lt sq226_0)
  have g_bb226 : n0 ≤ bb226 := Nat.le_trans Z220 sq226_0
  have s_bb226 : h0.size ≤ bb226 := Nat.le_trans K220.1 sq226_0
  have F227 : Arv Z T226.heap a196 k196 .byte (3 : Int32) [(.int z197), (.int z200), (.int z203)] (.int (0 : Int32)) := F221.keep Kq226 (ninS ne_a196_a220 nin0)
  have F228 : Arv Z T226.heap a206 k206 .byte (4 : Int32) [(.int (13 : Int32)), (.int (13 : Int32)), (.int (13 : Int32)), (.int (13 : Int32))] (.int (0 : Int32)) := F222.keep Kq226 (ninS ne_a206_a220 nin0)
  have F229 : Exa Z T226.heap a220 cN_0 := A220.keep Kq226
  have Z226 : n0 ≤ T226.heap.size := Nat.le_trans Z220 Kq226.1
  have K226 : Keep h0 T226.heap [] := K220.trans Kq226 (allS (Or.inr s_a220) all0)
  dsimp only [Option.toList_some, Option.toList_none, List.cons_append, List.nil_append]
  refine w_astore X226 hx (dB at_63) 65 rfl rfl #[.val (.int sz), .val (.int x0), .val (.int x1), .val (.int x2), .val (.int v195), .val (.ref a196), .val (.ref a206), .val (.ref a220), .unset, .unset] rfl ?_
  refine w_aload X226 hx (.ref a220) (dB at_65) 67 rfl rfl rfl ?_
  refine w_bipush X226 hx (dB at_67) 69 rfl (16 : Int32) (by decide) ?_
  refine w_virt X226 hx hZ hown rfl (rm4 l Z a0 hw [] a220 bb226 (0 : Int32) (0 : Int32) T226.heap n0 Z226 F229 G226_0 G226_1 G226_2 g_a220) (tw_16 hw) (tw_17 hw) (notFace_of_selects (args := #[]) (mvT hZ (tw_19 hw))) (tw_19 hw) (tw_18 hw) (tw_7 hw) (tw_20 hw) (by decide) a220 F229 (by rw [hml]; rfl) [(.int (16 : Int32))] [] (lenOf pd_0 rfl) rfl rfl (by decide) 0 rfl (by decide) (by decide) (by decide) (dB at_69) 72 rfl (fun r230 T230 L230 X230 q230 => ?_)
  obtain ⟨rfl, Nq230, Kq230, G230_0, G230_1, G230_2⟩ := q230
  have N230 := Fr.app N226 Nq230
  have F231 : Arv Z T230.heap a196 k196 .byte (3 : Int32) [(.int z197), (.int z200), (.int z203)] (.int (0 : Int32)) := F227.keep Kq230 (ninS ne_a196_a220 nin0)
  have F232 : Arv Z T230.heap a206 k206 .byte (4 : Int32) [(.int (13 : Int32)), (.int (13 : Int32)), (.int (13 : Int32)), (.int (13 : Int32))] (.int (0 : Int32)) := F228.keep Kq230 (ninS ne_a206_a220 nin0)
  have F233 : Exa Z T230.heap a220 cN_0 := F229.keep Kq230
  have F234 : Arv Z T230.heap bb226 kb226 .byte (256 : Int32) [(.int (0 : Int32)), (.int (0 : Int32)), (.int (0 : Int32)), (.int (0 : Int32))] (.int (0 : Int32)) := G226_3.keep Kq230 (ninS (Ne.symm ne_a220_bb226) nin0)
  have Z230 : n0 ≤ T230.heap.size := Nat.le_trans Z226 Kq230.1
  have K230 : Keep h0 T230.heap [] := K226.trans Kq230 (allS (Or.inr s_a220) all0)
  dsimp only [Option.toList_some, Option.toList_none, List.cons_append, List.nil_append]
  refine w_aload X230 hx (.ref a220) (dB at_72) 74 rfl rfl rfl ?_
  refine w_aload X230 hx (.ref a206) (dB at_74) 76 rfl rfl rfl ?_
  refine w_iconst X230 hx (dB at_76) 77 rfl (0 : Int32) (by decide) ?_
  refine w_iconst X230 hx (dB at_77) 78 rfl (4 : Int32) (by decide) ?_
  refine w_virt X230 hx hZ hown rfl (rm5n4 l Z a0 hw [] a220 a206 bb226 kb226 k206 (0 : Int32) (0 : Int32) (0 : Int32) (0 : Int32) (13 : Int32) (13 : Int32) (13 : Int32) (13 : Int32) T230.heap n0 Z230 F233 G230_0 G230_1 G230_2 F234 F232 g_a220 g_bb226 (by exact ne_a206_bb226)) (tw_25 hw) (tw_26 hw) (notFace_of_selects (args := #[]) (mvT hZ (tw_28 hw))) (tw_28 hw) (tw_27 hw) (tw_7 hw) (tw_29 hw) (by decide) a220 F233 (by rw [hml]; rfl) [(.ref a206), (.int (0 : Int32)), (.int (4 : Int32))] [] (lenOf pd_3 rfl) rfl rfl (by decide) 0 rfl (by decide) (by decide) (by decide) (dB at_78) 81 rfl (fun r235 T235 L235 X235 q235 => ?_)
  obtain ⟨rfl, Nq235, Kq235, G235_0, G235_1, G235_2, G235_3⟩ := q235
  have N235 := Fr.app N230 Nq235
  have F236 : Arv Z T235.heap a196 k196 .byte (3 : Int32) [(.int z197), (.int z200), (.int z203)] (.int (0 : Int32)) := F231.keep Kq235 (ninS ne_a196_a220 (ninS ne_a196_bb226 nin0))
  have F237 : Arv Z T235.heap a206 k206 .byte (4 : Int32) [(.int (13 : Int32)), (.int (13 : Int32)), (.int (13 : Int32)), (.int (13 : Int32))] (.int (0 : Int32)) := F232.keep Kq235 (ninS ne_a206_a220 (ninS ne_a206_bb226 nin0))
  have F238 : Exa Z T235.heap a220 cN_0 := F233.keep Kq235
  have Z235 : n0 ≤ T235.heap.size := Nat.le_trans Z230 Kq235.1
  have K235 : Keep h0 T235.heap [] := K230.trans Kq235 (allS (Or.inr s_a220) (allS (Or.inr s_bb226) all0))
  dsimp only [Option.toList_some, Option.toList_none, List.cons_append, List.nil_append]
  refine w_aload X235 hx (.ref a220) (dB at_81) 83 rfl rfl rfl ?_
  refine w_bipush X235 hx (dB at_83) 85 rfl (16 : Int32) (by decide) ?_
  refine w_virt X235 hx hZ hown rfl (rm4 l Z a0 hw [] a220 bb226 (4 : Int32) (16 : Int32) T235.heap n0 Z235 F238 G235_0 G235_1 G235_2 g_a220) (tw_16 hw) (tw_17 hw) (notFace_of_selects (args := #[]) (mvT hZ (tw_19 hw))) (tw_19 hw) (tw_18 hw) (tw_7 hw) (tw_20 hw) (by decide) a220 F238 (by rw [hml]; rfl) [(.int (16 : Int32))] [] (lenOf pd_0 rfl) rfl rfl (by decide) 0 rfl (by decide) (by decide) (by decide) (dB at_85) 88 rfl (fun r239 T239 L239 X239 q239 => ?_)
  obtain ⟨rfl, Nq239, Kq239, G239_0, G239_1, G239_2⟩ := q239
  have N239 := Fr.app N235 Nq239
  have F240 : Arv Z T239.heap a196 k196 .byte (3 : Int32) [(.int z197), (.int z200), (.int z203)] (.int (0 : Int32)) := F236.keep Kq239 (ninS ne_a196_a220 nin0)
  have F241 : Arv Z T239.heap a206 k206 .byte (4 : Int32) [(.int (13 : Int32)), (.int (13 : Int32)), (.int (13 : Int32)), (.int (13 : Int32))] (.int (0 : Int32)) := F237.keep Kq239 (ninS ne_a206_a220 nin0)
  have F242 : Exa Z T239.heap a220 cN_0 := F238.keep Kq239
  have F243 : Arv Z T239.heap bb226 kb226 .byte (256 : Int32) [(.int (13 : Int32)), (.int (13 : Int32)), (.int (13 : Int32)), (.int (13 : Int32))] (.int (0 : Int32)) := G235_3.keep Kq239 (ninS (Ne.symm ne_a220_bb226) nin0)
  have Z239 : n0 ≤ T239.heap.size := Nat.le_trans Z235 Kq239.1
  have K239 : Keep h0 T239.heap [] := K235.trans Kq239 (allS (Or.inr s_a220) all0)
  dsimp only [Option.toList_some, Option.toList_none, List.cons_append, List.nil_append]
  have s244 : v195.toInt = 0 ∨ v195.toInt = 1 ∨ v195.toInt = 2 ∨ v195.toInt = 3 := by omega
  rcases s244 with s244 | s244 | s244 | s244
  ·obtain rfl : v195 = (0 : Int32) := eqI (s244.trans (by decide))
   have z244 : (0 : Int32).toInt = 0 := by decide
   refine w_aload X239 hx (.ref a220) (dB at_88) 90 rfl rfl rfl ?_
   refine w_aload X239 hx (.ref a196) (dB at_90) 92 rfl rfl rfl ?_
   refine w_iconst X239 hx (dB at_92) 93 rfl (0 : Int32) (by decide) ?_
   refine w_iload X239 hx (0 : Int32) (dB at_93) 95 rfl rfl ?_
   refine w_virt X239 hx hZ hown rfl (rm5m0 l Z a0 hw [] a220 a196 bb226 kb226 k196 (13 : Int32) (13 : Int32) (13 : Int32) (13 : Int32) z197 z200 z203 T239.heap n0 Z239 F242 G239_0 G239_1 G239_2 F243 F240 g_a220 g_bb226 (by exact ne_a196_bb226)) (tw_25 hw) (tw_26 hw) (notFace_of_selects (args := #[]) (mvT hZ (tw_28 hw))) (tw_28 hw) (tw_27 hw) (tw_7 hw) (tw_29 hw) (by decide) a220 F242 (by rw [hml]; rfl) [(.ref a196), (.int (0 : Int32)), (.int (0 : Int32))] [] (lenOf pd_3 rfl) rfl rfl (by decide) 0 rfl (by decide) (by decide) (by decide) (dB at_95) 98 rfl (fun r245 T245 L245 X245 q245 => ?_)
   obtain ⟨rfl, Nq245, Kq245, G245_0, G245_1, G245_2, G245_3⟩ := q245
   have N245 := Fr.app N239 Nq245
   have F246 : Arv Z T245.heap a196 k196 .byte (3 : Int32) [(.int z197), (.int z200), (.int z203)] (.int (0 : Int32)) := F240.keep Kq245 (ninS ne_a196_a220 (ninS ne_a196_bb226 nin0))
   have F247 : Arv Z T245.heap a206 k206 .byte (4 : Int32) [(.int (13 : Int32)), (.int (13 : Int32)), (.int (13 : Int32)), (.int (13 : Int32))] (.int (0 : Int32)) := F241.keep Kq245 (ninS ne_a206_a220 (ninS ne_a206_bb226 nin0))
   have F248 : Exa Z T245.heap a220 cN_0 := F242.keep Kq245
   have Z245 : n0 ≤ T245.heap.size := Nat.le_trans Z239 Kq245.1
   have K245 : Keep h0 T245.heap [] := K239.trans Kq245 (allS (Or.inr s_a220) (allS (Or.inr s_bb226) all0))
   dsimp only [Option.toList_some, Option.toList_none, List.cons_append, List.nil_append]
   refine w_aload X245 hx (.ref a220) (dB at_98) 100 rfl rfl rfl ?_
   refine w_virt X245 hx hZ hown rfl (rm7n0 l Z a0 hw [] a220 bb226 kb226 (16 : Int32) (13 : Int32) (13 : Int32) (13 : Int32) (13 : Int32) T245.heap n0 Z245 F248 G245_0 G245_3 G245_1 G245_2 g_a220) (tw_38 hw) (tw_39 hw) (notFace_of_selects (args := #[]) (mvT hZ (tw_41 hw))) (tw_41 hw) (tw_40 hw) (tw_7 hw) (tw_42 hw) (by decide) a220 F248 (by rw [hml]; rfl) [] [] (lenOf pd_2 rfl) rfl rfl (by decide) 0 rfl (by decide) (by decide) (by decide) (dB at_100) 103 rfl (fun r249 T249 L249 X249 q249 => ?_)
   obtain ⟨y249, fx249, q249⟩ := q249
   try simp only [show ((13 : Int32)).toInt = 13 from by decide] at fx249
   try simp only [show ((16 : Int32)).toInt = 16 from by decide] at fx249
   obtain ⟨rfl, Nq249, Kq249, G249_0, G249_1, G249_2⟩ := q249
   have N249 := Fr.app N245 Nq249
   have F250 : Arv Z T249.heap a196 k196 .byte (3 : Int32) [(.int z197), (.int z200), (.int z203)] (.int (0 : Int32)) := F246.keep Kq249 (ninS ne_a196_a220 nin0)
   have F251 : Arv Z T249.heap a206 k206 .byte (4 : Int32) [(.int (13 : Int32)), (.int (13 : Int32)), (.int (13 : Int32)), (.int (13 : Int32))] (.int (0 : Int32)) := F247.keep Kq249 (ninS ne_a206_a220 nin0)
   have F252 : Exa Z T249.heap a220 cN_0 := F248.keep Kq249
   have F253 : Arv Z T249.heap bb226 kb226 .byte (256 : Int32) [(.int (13 : Int32)), (.int (13 : Int32)), (.int (13 : Int32)), (.int (13 : Int32))] (.int (0 : Int32)) := G245_3.keep Kq249 (ninS (Ne.symm ne_a220_bb226) nin0)
   have Z249 : n0 ≤ T249.heap.size := Nat.le_trans Z245 Kq249.1
   have K249 : Keep h0 T249.heap [] := K245.trans Kq249 (allS (Or.inr s_a220) all0)
   dsimp only [Option.toList_some, Option.toList_none, List.cons_append, List.nil_append]
   refine w_iload X249 hx (0 : Int32) (dB at_103) 105 rfl rfl ?_
   refine w_if_le X249 hx 0 (by decide) (dB at_105) 127 108 (fun c254 => ?_) (fun c254 => ?_)
   ·refine w_iload X249 hx (0 : Int32) (dB at_127) 129 rfl rfl ?_
    refine w_istore X249 hx (dB at_129) 131 rfl #[.val (.int sz), .val (.int x0), .val (.int x1), .val (.int x2), .val (.int (0 : Int32)), .val (.ref a196), .val (.ref a206), .val (.ref a220), .val (.int (0 : Int32)), .unset] rfl ?_
    refine w_iconst X249 hx (dB at_131) 132 rfl (-1 : Int32) (by decide) ?_
    refine w_istore X249 hx (dB at_132) 134 rfl #[.val (.int sz), .val (.int x0), .val (.int x1), .val (.int x2), .val (.int (0 : Int32)), .val (.ref a196), .val (.ref a206), .val (.ref a220), .val (.int (0 : Int32)), .val (.int (-1 : Int32))] rfl ?_
    refine w_iload X249 hx (0 : Int32) (dB at_134) 136 rfl rfl ?_
    refine w_iconst X249 hx (dB at_136) 137 rfl (2 : Int32) (by decide) ?_
    refine w_icmp_le X249 hx 0 2 (by decide) (by decide) (dB at_137) 152 140 (fun c255 => ?_) (fun c255 => ?_)
    ·refine w_iload X249 hx (0 : Int32) (dB at_152) 154 rfl rfl ?_
     refine w_iconst X249 hx (dB at_154) 155 rfl (1 : Int32) (by decide) ?_
     refine w_icmp_le X249 hx 0 1 (by decide) (by decide) (dB at_155) 170 158 (fun c256 => ?_) (fun c256 => ?_)
     ·refine w_iload X249 hx (0 : Int32) (dB at_170) 172 rfl rfl ?_
      refine w_if_le X249 hx 0 (by decide) (dB at_172) 187 175 (fun c257 => ?_) (fun c257 => ?_)
      ·refine w_aload X249 hx (.ref a220) (dB at_187) 189 rfl rfl rfl ?_
       refine w_virt X249 hx hZ hown rfl (rm8 l Z a0 hw [] a220 y249 T249.heap n0 Z249 G249_1) (tw_43 hw) (tw_44 hw) (notFace_of_selects (args := #[]) (mvT hZ (tw_46 hw))) (tw_46 hw) (tw_45 hw) (tw_7 hw) (tw_47 hw) (by decide) a220 F252 (by rw [hml]; rfl) [] [] (lenOf pd_4 rfl) rfl rfl (by decide) 0 rfl (by decide) (by decide) (by decide) (dB at_189) 192 rfl (fun r258 T258 L258 X258 q258 => ?_)
       obtain ⟨rfl, Nq258, eq258⟩ := q258
       have N258 := Fr.app N249 Nq258
       dsimp only [Option.toList_some, Option.toList_none, List.cons_append, List.nil_append]
       refine w_iload X258 hx (0 : Int32) (dB at_192) 194 rfl rfl ?_
       refine w_icmp_ne X258 hx y249.toInt 0 rfl (by decide) (dB at_194) 213 197 (fun c259 => ?_) (fun c259 => ?_)
       ·exfalso; omega
       ·refine w_aload X258 hx (.ref a220) (dB at_197) 199 rfl rfl rfl ?_
        refine w_bipush X258 hx (dB at_199) 201 rfl (13 : Int32) (by decide) ?_
        refine w_virt X258 hx hZ hown eq258 (rm9 l Z a0 hw [] a220 bb226 kb226 y249 (13 : Int32) (13 : Int32) (13 : Int32) (13 : Int32) T249.heap n0 Z249 G249_0 F253 G249_1 (by have hl_0 : (13 : Int32).toInt = 13 := (by decide); omega)) (tw_48 hw) (tw_49 hw) (notFace_of_selects (args := #[]) (mvT hZ (tw_51 hw))) (tw_51 hw) (tw_50 hw) (tw_7 hw) (tw_52 hw) (by decide) a220 F252 (by rw [hml]; rfl) [(.int (13 : Int32))] [] (lenOf pd_5 rfl) rfl rfl (by decide) 0 rfl (by decide) (by decide) (by decide) (dB at_201) 204 rfl (fun r260 T260 L260 X260 q260 => ?_)
        obtain ⟨z260, rfl, f260, Nq260, eq260⟩ := q260
        have N260 := Fr.app N258 Nq260
        try simp only [show ((13 : Int32)).toInt = 13 from by decide] at f260
        dsimp only [Option.toList_some, Option.toList_none, List.cons_append, List.nil_append]
        refine w_iload X260 hx (-1 : Int32) (dB at_204) 206 rfl rfl ?_
        refine w_icmp_ne X260 hx z260.toInt (-1) rfl (by decide) (dB at_206) 213 209 (fun c261 => ?_) (fun c261 => ?_)
        ·exfalso; omega
        ·refine w_iconst X260 hx (dB at_209) 210 rfl (1 : Int32) (by decide) ?_
         refine w_goto X260 hx (dB at_210) 214 ?_
         refine w_retN X260 hx hlk (t := .boolean) hret (by simp) (dB at_214) (by decide) (by decide) ?_
         rw [eq260]
         exact ⟨rfl, N260⟩
      ·exfalso; omega
     ·exfalso; omega
    ·exfalso; omega
   ·exfalso; omega
  ·obtain rfl : v195 = (1 : Int32) := eqI (s244.trans (by decide))
   have z244 : (1 : Int32).toInt = 1 := by decide
   refine w_aload X239 hx (.ref a220) (dB at_88) 90 rfl rfl rfl ?_
   refine w_aload X239 hx (.ref a196) (dB at_90) 92 rfl rfl rfl ?_
   refine w_iconst X239 hx (dB at_92) 93 rfl (0 : Int32) (by decide) ?_
   refine w_iload X239 hx (1 : Int32) (dB at_93) 95 rfl rfl ?_
   refine w_virt X239 hx hZ hown rfl (rm5m1 l Z a0 hw [] a220 a196 bb226 kb226 k196 (13 : Int32) (13 : Int32) (13 : Int32) (13 : Int32) z197 z200 z203 T239.heap n0 Z239 F242 G239_0 G239_1 G239_2 F243 F240 g_a220 g_bb226 (by exact ne_a196_bb226)) (tw_25 hw) (tw_26 hw) (notFace_of_selects (args := #[]) (mvT hZ (tw_28 hw))) (tw_28 hw) (tw_27 hw) (tw_7 hw) (tw_29 hw) (by decide) a220 F242 (by rw [hml]; rfl) [(.ref a196), (.int (0 : Int32)), (.int (1 : Int32))] [] (lenOf pd_3 rfl) rfl rfl (by decide) 0 rfl (by decide) (by decide) (by decide) (dB at_95) 98 rfl (fun r262 T262 L262 X262 q262 => ?_)
   obtain ⟨rfl, Nq262, Kq262, G262_0, G262_1, G262_2, G262_3⟩ := q262
   have N262 := Fr.app N239 Nq262
   have F263 : Arv Z T262.heap a196 k196 .byte (3 : Int32) [(.int z197), (.int z200), (.int z203)] (.int (0 : Int32)) := F240.keep Kq262 (ninS ne_a196_a220 (ninS ne_a196_bb226 nin0))
   have F264 : Arv Z T262.heap a206 k206 .byte (4 : Int32) [(.int (13 : Int32)), (.int (13 : Int32)), (.int (13 : Int32)), (.int (13 : Int32))] (.int (0 : Int32)) := F241.keep Kq262 (ninS ne_a206_a220 (ninS ne_a206_bb226 nin0))
   have F265 : Exa Z T262.heap a220 cN_0 := F242.keep Kq262
   have Z262 : n0 ≤ T262.heap.size := Nat.le_trans Z239 Kq262.1
   have K262 : Keep h0 T262.heap [] := K239.trans Kq262 (allS (Or.inr s_a220) (allS (Or.inr s_bb226) all0))
   dsimp only [Option.toList_some, Option.toList_none, List.cons_append, List.nil_append]
   refine w_aload X262 hx (.ref a220) (dB at_98) 100 rfl rfl rfl ?_
   refine w_virt X262 hx hZ hown rfl (rm7n1 l Z a0 hw [] a220 bb226 kb226 (16 : Int32) z197 (13 : Int32) (13 : Int32) (13 : Int32) T262.heap n0 Z262 F265 G262_0 G262_3 G262_1 G262_2 g_a220) (tw_38 hw) (tw_39 hw) (notFace_of_selects (args := #[]) (mvT hZ (tw_41 hw))) (tw_41 hw) (tw_40 hw) (tw_7 hw) (tw_42 hw) (by decide) a220 F265 (by rw [hml]; rfl) [] [] (lenOf pd_2 rfl) rfl rfl (by decide) 0 rfl (by decide) (by decide) (by decide) (dB at_100) 103 rfl (fun r266 T266 L266 X266 q266 => ?_)
   obtain ⟨y266, fx266, q266⟩ := q266
   try simp only [show ((13 : Int32)).toInt = 13 from by decide] at fx266
   try simp only [show ((16 : Int32)).toInt = 16 from by decide] at fx266
   obtain ⟨rfl, Nq266, Kq266, G266_0, G266_1, G266_2⟩ := q266
   have N266 := Fr.app N262 Nq266
   have F267 : Arv Z T266.heap a196 k196 .byte (3 : Int32) [(.int z197), (.int z200), (.int z203)] (.int (0 : Int32)) := F263.keep Kq266 (ninS ne_a196_a220 nin0)
   have F268 : Arv Z T266.heap a206 k206 .byte (4 : Int32) [(.int (13 : Int32)), (.int (13 : Int32)), (.int (13 : Int32)), (.int (13 : Int32))] (.int (0 : Int32)) := F264.keep Kq266 (ninS ne_a206_a220 nin0)
   have F269 : Exa Z T266.heap a220 cN_0 := F265.keep Kq266
   have F270 : Arv Z T266.heap bb226 kb226 .byte (256 : Int32) [(.int z197), (.int (13 : Int32)), (.int (13 : Int32)), (.int (13 : Int32))] (.int (0 : Int32)) := G262_3.keep Kq266 (ninS (Ne.symm ne_a220_bb226) nin0)
   have Z266 : n0 ≤ T266.heap.size := Nat.le_trans Z262 Kq266.1
   have K266 : Keep h0 T266.heap [] := K262.trans Kq266 (allS (Or.inr s_a220) all0)
   dsimp only [Option.toList_some, Option.toList_none, List.cons_append, List.nil_append]
   refine w_iload X266 hx (1 : Int32) (dB at_103) 105 rfl rfl ?_
   refine w_if_le X266 hx 1 (by decide) (dB at_105) 127 108 (fun c271 => ?_) (fun c271 => ?_)
   ·exfalso; omega
   ·refine w_aload X266 hx (.ref a196) (dB at_108) 110 rfl rfl rfl ?_
    refine w_iload X266 hx (1 : Int32) (dB at_110) 112 rfl rfl ?_
    refine w_iconst X266 hx (dB at_112) 113 rfl (1 : Int32) (by decide) ?_
    refine w_isub X266 hx (dB at_113) 114 rfl (show (0 : Int32) = (1 : Int32) - (1 : Int32) from by decide) ?_
    refine w_baload X266 hx hZ rfl F267 ⟨by decide, by decide⟩ (v := (.int z197)) rfl (dB at_114) 115 rfl ?_
    refine w_bipush X266 hx (dB at_115) 117 rfl (13 : Int32) (by decide) ?_
    refine w_icmp_ne X266 hx z197.toInt 13 rfl (by decide) (dB at_117) 127 120 (fun c272 => ?_) (fun c272 => ?_)
    ·refine w_iload X266 hx (1 : Int32) (dB at_127) 129 rfl rfl ?_
     refine w_istore X266 hx (dB at_129) 131 rfl #[.val (.int sz), .val (.int x0), .val (.int x1), .val (.int x2), .val (.int (1 : Int32)), .val (.ref a196), .val (.ref a206), .val (.ref a220), .val (.int (1 : Int32)), .unset] rfl ?_
     refine w_iconst X266 hx (dB at_131) 132 rfl (-1 : Int32) (by decide) ?_
     refine w_istore X266 hx (dB at_132) 134 rfl #[.val (.int sz), .val (.int x0), .val (.int x1), .val (.int x2), .val (.int (1 : Int32)), .val (.ref a196), .val (.ref a206), .val (.ref a220), .val (.int (1 : Int32)), .val (.int (-1 : Int32))] rfl ?_
     refine w_iload X266 hx (1 : Int32) (dB at_134) 136 rfl rfl ?_
     refine w_iconst X266 hx (dB at_136) 137 rfl (2 : Int32) (by decide) ?_
     refine w_icmp_le X266 hx 1 2 (by decide) (by decide) (dB at_137) 152 140 (fun c273 => ?_) (fun c273 => ?_)
     ·refine w_iload X266 hx (1 : Int32) (dB at_152) 154 rfl rfl ?_
      refine w_iconst X266 hx (dB at_154) 155 rfl (1 : Int32) (by decide) ?_
      refine w_icmp_le X266 hx 1 1 (by decide) (by decide) (dB at_155) 170 158 (fun c274 => ?_) (fun c274 => ?_)
      ·refine w_iload X266 hx (1 : Int32) (dB at_170) 172 rfl rfl ?_
       refine w_if_le X266 hx 1 (by decide) (dB at_172) 187 175 (fun c275 => ?_) (fun c275 => ?_)
       ·exfalso; omega
       ·refine w_aload X266 hx (.ref a196) (dB at_175) 177 rfl rfl rfl ?_
        refine w_iconst X266 hx (dB at_177) 178 rfl (0 : Int32) (by decide) ?_
        refine w_baload X266 hx hZ rfl F267 ⟨by decide, by decide⟩ (v := (.int z197)) rfl (dB at_178) 179 rfl ?_
        refine w_bipush X266 hx (dB at_179) 181 rfl (13 : Int32) (by decide) ?_
        refine w_icmp_ne X266 hx z197.toInt 13 rfl (by decide) (dB at_181) 187 184 (fun c276 => ?_) (fun c276 => ?_)
        ·refine w_aload X266 hx (.ref a220) (dB at_187) 189 rfl rfl rfl ?_
         refine w_virt X266 hx hZ hown rfl (rm8 l Z a0 hw [] a220 y266 T266.heap n0 Z266 G266_1) (tw_43 hw) (tw_44 hw) (notFace_of_selects (args := #[]) (mvT hZ (tw_46 hw))) (tw_46 hw) (tw_45 hw) (tw_7 hw) (tw_47 hw) (by decide) a220 F269 (by rw [hml]; rfl) [] [] (lenOf pd_4 rfl) rfl rfl (by decide) 0 rfl (by decide) (by decide) (by decide) (dB at_189) 192 rfl (fun r277 T277 L277 X277 q277 => ?_)
         obtain ⟨rfl, Nq277, eq277⟩ := q277
         have N277 := Fr.app N266 Nq277
         dsimp only [Option.toList_some, Option.toList_none, List.cons_append, List.nil_append]
         refine w_iload X277 hx (1 : Int32) (dB at_192) 194 rfl rfl ?_
         refine w_icmp_ne X277 hx y266.toInt 1 rfl (by decide) (dB at_194) 213 197 (fun c278 => ?_) (fun c278 => ?_)
         ·exfalso; omega
         ·refine w_aload X277 hx (.ref a220) (dB at_197) 199 rfl rfl rfl ?_
          refine w_bipush X277 hx (dB at_199) 201 rfl (13 : Int32) (by decide) ?_
          refine w_virt X277 hx hZ hown eq277 (rm9 l Z a0 hw [] a220 bb226 kb226 y266 z197 (13 : Int32) (13 : Int32) (13 : Int32) T266.heap n0 Z266 G266_0 F270 G266_1 (by have hl_0 : (13 : Int32).toInt = 13 := (by decide); omega)) (tw_48 hw) (tw_49 hw) (notFace_of_selects (args := #[]) (mvT hZ (tw_51 hw))) (tw_51 hw) (tw_50 hw) (tw_7 hw) (tw_52 hw) (by decide) a220 F269 (by rw [hml]; rfl) [(.int (13 : Int32))] [] (lenOf pd_5 rfl) rfl rfl (by decide) 0 rfl (by decide) (by decide) (by decide) (dB at_201) 204 rfl (fun r279 T279 L279 X279 q279 => ?_)
          obtain ⟨z279, rfl, f279, Nq279, eq279⟩ := q279
          have N279 := Fr.app N277 Nq279
          try simp only [show ((13 : Int32)).toInt = 13 from by decide] at f279
          dsimp only [Option.toList_some, Option.toList_none, List.cons_append, List.nil_append]
          refine w_iload X279 hx (-1 : Int32) (dB at_204) 206 rfl rfl ?_
          refine w_icmp_ne X279 hx z279.toInt (-1) rfl (by decide) (dB at_206) 213 209 (fun c280 => ?_) (fun c280 => ?_)
          ·exfalso; omega
          ·refine w_iconst X279 hx (dB at_209) 210 rfl (1 : Int32) (by decide) ?_
           refine w_goto X279 hx (dB at_210) 214 ?_
           refine w_retN X279 hx hlk (t := .boolean) hret (by simp) (dB at_214) (by decide) (by decide) ?_
           rw [eq279]
           exact ⟨rfl, N279⟩
        ·refine w_iconst X266 hx (dB at_184) 185 rfl (0 : Int32) (by decide) ?_
         refine w_istore X266 hx (dB at_185) 187 rfl #[.val (.int sz), .val (.int x0), .val (.int x1), .val (.int x2), .val (.int (1 : Int32)), .val (.ref a196), .val (.ref a206), .val (.ref a220), .val (.int (1 : Int32)), .val (.int (0 : Int32))] rfl ?_
         refine w_aload X266 hx (.ref a220) (dB at_187) 189 rfl rfl rfl ?_
         refine w_virt X266 hx hZ hown rfl (rm8 l Z a0 hw [] a220 y266 T266.heap n0 Z266 G266_1) (tw_43 hw) (tw_44 hw) (notFace_of_selects (args := #[]) (mvT hZ (tw_46 hw))) (tw_46 hw) (tw_45 hw) (tw_7 hw) (tw_47 hw) (by decide) a220 F269 (by rw [hml]; rfl) [] [] (lenOf pd_4 rfl) rfl rfl (by decide) 0 rfl (by decide) (by decide) (by decide) (dB at_189) 192 rfl (fun r281 T281 L281 X281 q281 => ?_)
         obtain ⟨rfl, Nq281, eq281⟩ := q281
         have N281 := Fr.app N266 Nq281
         dsimp only [Option.toList_some, Option.toList_none, List.cons_append, List.nil_append]
         refine w_iload X281 hx (1 : Int32) (dB at_192) 194 rfl rfl ?_
         refine w_icmp_ne X281 hx y266.toInt 1 rfl (by decide) (dB at_194) 213 197 (fun c282 => ?_) (fun c282 => ?_)
         ·exfalso; omega
         ·refine w_aload X281 hx (.ref a220) (dB at_197) 199 rfl rfl rfl ?_
          refine w_bipush X281 hx (dB at_199) 201 rfl (13 : Int32) (by decide) ?_
          refine w_virt X281 hx hZ hown eq281 (rm9 l Z a0 hw [] a220 bb226 kb226 y266 z197 (13 : Int32) (13 : Int32) (13 : Int32) T266.heap n0 Z266 G266_0 F270 G266_1 (by have hl_0 : (13 : Int32).toInt = 13 := (by decide); omega)) (tw_48 hw) (tw_49 hw) (notFace_of_selects (args := #[]) (mvT hZ (tw_51 hw))) (tw_51 hw) (tw_50 hw) (tw_7 hw) (tw_52 hw) (by decide) a220 F269 (by rw [hml]; rfl) [(.int (13 : Int32))] [] (lenOf pd_5 rfl) rfl rfl (by decide) 0 rfl (by decide) (by decide) (by decide) (dB at_201) 204 rfl (fun r283 T283 L283 X283 q283 => ?_)
          obtain ⟨z283, rfl, f283, Nq283, eq283⟩ := q283
          have N283 := Fr.app N281 Nq283
          try simp only [show ((13 : Int32)).toInt = 13 from by decide] at f283
          dsimp only [Option.toList_some, Option.toList_none, List.cons_append, List.nil_append]
          refine w_iload X283 hx (0 : Int32) (dB at_204) 206 rfl rfl ?_
          refine w_icmp_ne X283 hx z283.toInt 0 rfl (by decide) (dB at_206) 213 209 (fun c284 => ?_) (fun c284 => ?_)
          ·exfalso; omega
          ·refine w_iconst X283 hx (dB at_209) 210 rfl (1 : Int32) (by decide) ?_
           refine w_goto X283 hx (dB at_210) 214 ?_
           refine w_retN X283 hx hlk (t := .boolean) hret (by simp) (dB at_214) (by decide) (by decide) ?_
           rw [eq283]
           exact ⟨rfl, N283⟩
      ·exfalso; omega
     ·exfalso; omega
    ·refine w_iload X266 hx (1 : Int32) (dB at_120) 122 rfl rfl ?_
     refine w_iconst X266 hx (dB at_122) 123 rfl (1 : Int32) (by decide) ?_
     refine w_isub X266 hx (dB at_123) 124 rfl (show (0 : Int32) = (1 : Int32) - (1 : Int32) from by decide) ?_
     refine w_goto X266 hx (dB at_124) 129 ?_
     refine w_istore X266 hx (dB at_129) 131 rfl #[.val (.int sz), .val (.int x0), .val (.int x1), .val (.int x2), .val (.int (1 : Int32)), .val (.ref a196), .val (.ref a206), .val (.ref a220), .val (.int (0 : Int32)), .unset] rfl ?_
     refine w_iconst X266 hx (dB at_131) 132 rfl (-1 : Int32) (by decide) ?_
     refine w_istore X266 hx (dB at_132) 134 rfl #[.val (.int sz), .val (.int x0), .val (.int x1), .val (.int x2), .val (.int (1 : Int32)), .val (.ref a196), .val (.ref a206), .val (.ref a220), .val (.int (0 : Int32)), .val (.int (-1 : Int32))] rfl ?_
     refine w_iload X266 hx (0 : Int32) (dB at_134) 136 rfl rfl ?_
     refine w_iconst X266 hx (dB at_136) 137 rfl (2 : Int32) (by decide) ?_
     refine w_icmp_le X266 hx 0 2 (by decide) (by decide) (dB at_137) 152 140 (fun c285 => ?_) (fun c285 => ?_)
     ·refine w_iload X266 hx (0 : Int32) (dB at_152) 154 rfl rfl ?_
      refine w_iconst X266 hx (dB at_154) 155 rfl (1 : Int32) (by decide) ?_
      refine w_icmp_le X266 hx 0 1 (by decide) (by decide) (dB at_155) 170 158 (fun c286 => ?_) (fun c286 => ?_)
      ·refine w_iload X266 hx (0 : Int32) (dB at_170) 172 rfl rfl ?_
       refine w_if_le X266 hx 0 (by decide) (dB at_172) 187 175 (fun c287 => ?_) (fun c287 => ?_)
       ·refine w_aload X266 hx (.ref a220) (dB at_187) 189 rfl rfl rfl ?_
        refine w_virt X266 hx hZ hown rfl (rm8 l Z a0 hw [] a220 y266 T266.heap n0 Z266 G266_1) (tw_43 hw) (tw_44 hw) (notFace_of_selects (args := #[]) (mvT hZ (tw_46 hw))) (tw_46 hw) (tw_45 hw) (tw_7 hw) (tw_47 hw) (by decide) a220 F269 (by rw [hml]; rfl) [] [] (lenOf pd_4 rfl) rfl rfl (by decide) 0 rfl (by decide) (by decide) (by decide) (dB at_189) 192 rfl (fun r288 T288 L288 X288 q288 => ?_)
        obtain ⟨rfl, Nq288, eq288⟩ := q288
        have N288 := Fr.app N266 Nq288
        dsimp only [Option.toList_some, Option.toList_none, List.cons_append, List.nil_append]
        refine w_iload X288 hx (0 : Int32) (dB at_192) 194 rfl rfl ?_
        refine w_icmp_ne X288 hx y266.toInt 0 rfl (by decide) (dB at_194) 213 197 (fun c289 => ?_) (fun c289 => ?_)
        ·exfalso; omega
        ·refine w_aload X288 hx (.ref a220) (dB at_197) 199 rfl rfl rfl ?_
         refine w_bipush X288 hx (dB at_199) 201 rfl (13 : Int32) (by decide) ?_
         refine w_virt X288 hx hZ hown eq288 (rm9 l Z a0 hw [] a220 bb226 kb226 y266 z197 (13 : Int32) (13 : Int32) (13 : Int32) T266.heap n0 Z266 G266_0 F270 G266_1 (by have hl_0 : (13 : Int32).toInt = 13 := (by decide); omega)) (tw_48 hw) (tw_49 hw) (notFace_of_selects (args := #[]) (mvT hZ (tw_51 hw))) (tw_51 hw) (tw_50 hw) (tw_7 hw) (tw_52 hw) (by decide) a220 F269 (by rw [hml]; rfl) [(.int (13 : Int32))] [] (lenOf pd_5 rfl) rfl rfl (by decide) 0 rfl (by decide) (by decide) (by decide) (dB at_201) 204 rfl (fun r290 T290 L290 X290 q290 => ?_)
         obtain ⟨z290, rfl, f290, Nq290, eq290⟩ := q290
         have N290 := Fr.app N288 Nq290
         try simp only [show ((13 : Int32)).toInt = 13 from by decide] at f290
         dsimp only [Option.toList_some, Option.toList_none, List.cons_append, List.nil_append]
         refine w_iload X290 hx (-1 : Int32) (dB at_204) 206 rfl rfl ?_
         refine w_icmp_ne X290 hx z290.toInt (-1) rfl (by decide) (dB at_206) 213 209 (fun c291 => ?_) (fun c291 => ?_)
         ·exfalso; omega
         ·refine w_iconst X290 hx (dB at_209) 210 rfl (1 : Int32) (by decide) ?_
          refine w_goto X290 hx (dB at_210) 214 ?_
          refine w_retN X290 hx hlk (t := .boolean) hret (by simp) (dB at_214) (by decide) (by decide) ?_
          rw [eq290]
          exact ⟨rfl, N290⟩
       ·exfalso; omega
      ·exfalso; omega
     ·exfalso; omega
  ·obtain rfl : v195 = (2 : Int32) := eqI (s244.trans (by decide))
   have z244 : (2 : Int32).toInt = 2 := by decide
   refine w_aload X239 hx (.ref a220) (dB at_88) 90 rfl rfl rfl ?_
   refine w_aload X239 hx (.ref a196) (dB at_90) 92 rfl rfl rfl ?_
   refine w_iconst X239 hx (dB at_92) 93 rfl (0 : Int32) (by decide) ?_
   refine w_iload X239 hx (2 : Int32) (dB at_93) 95 rfl rfl ?_
   refine w_virt X239 hx hZ hown rfl (rm5m2 l Z a0 hw [] a220 a196 bb226 kb226 k196 (13 : Int32) (13 : Int32) (13 : Int32) (13 : Int32) z197 z200 z203 T239.heap n0 Z239 F242 G239_0 G239_1 G239_2 F243 F240 g_a220 g_bb226 (by exact ne_a196_bb226)) (tw_25 hw) (tw_26 hw) (notFace_of_selects (args := #[]) (mvT hZ (tw_28 hw))) (tw_28 hw) (tw_27 hw) (tw_7 hw) (tw_29 hw) (by decide) a220 F242 (by rw [hml]; rfl) [(.ref a196), (.int (0 : Int32)), (.int (2 : Int32))] [] (lenOf pd_3 rfl) rfl rfl (by decide) 0 rfl (by decide) (by decide) (by decide) (dB at_95) 98 rfl (fun r292 T292 L292 X292 q292 => ?_)
   obtain ⟨rfl, Nq292, Kq292, G292_0, G292_1, G292_2, G292_3⟩ := q292
   have N292 := Fr.app N239 Nq292
   have F293 : Arv Z T292.heap a196 k196 .byte (3 : Int32) [(.int z197), (.int z200), (.int z203)] (.int (0 : Int32)) := F240.keep Kq292 (ninS ne_a196_a220 (ninS ne_a196_bb226 nin0))
   have F294 : Arv Z T292.heap a206 k206 .byte (4 : Int32) [(.int (13 : Int32)), (.int (13 : Int32)), (.int (13 : Int32)), (.int (13 : Int32))] (.int (0 : Int32)) := F241.keep Kq292 (ninS ne_a206_a220 (ninS ne_a206_bb226 nin0))
   have F295 : Exa Z T292.heap a220 cN_0 := F242.keep Kq292
   have Z292 : n0 ≤ T292.heap.size := Nat.le_trans Z239 Kq292.1
   have K292 : Keep h0 T292.heap [] := K239.trans Kq292 (allS (Or.inr s_a220) (allS (Or.inr s_bb226) all0))
   dsimp only [Option.toList_some, Option.toList_none, List.cons_append, List.nil_append]
   refine w_aload X292 hx (.ref a220) (dB at_98) 100 rfl rfl rfl ?_
   refine w_virt X292 hx hZ hown rfl (rm7n2 l Z a0 hw [] a220 bb226 kb226 (16 : Int32) z197 z200 (13 : Int32) (13 : Int32) T292.heap n0 Z292 F295 G292_0 G292_3 G292_1 G292_2 g_a220) (tw_38 hw) (tw_39 hw) (notFace_of_selects (args := #[]) (mvT hZ (tw_41 hw))) (tw_41 hw) (tw_40 hw) (tw_7 hw) (tw_42 hw) (by decide) a220 F295 (by rw [hml]; rfl) [] [] (lenOf pd_2 rfl) rfl rfl (by decide) 0 rfl (by decide) (by decide) (by decide) (dB at_100) 103 rfl (fun r296 T296 L296 X296 q296 => ?_)
   obtain ⟨y296, fx296, q296⟩ := q296
   try simp only [show ((13 : Int32)).toInt = 13 from by decide] at fx296
   try simp only [show ((16 : Int32)).toInt = 16 from by decide] at fx296
   obtain ⟨rfl, Nq296, Kq296, G296_0, G296_1, G296_2⟩ := q296
   have N296 := Fr.app N292 Nq296
   have F297 : Arv Z T296.heap a196 k196 .byte (3 : Int32) [(.int z197), (.int z200), (.int z203)] (.int (0 : Int32)) := F293.keep Kq296 (ninS ne_a196_a220 nin0)
   have F298 : Arv Z T296.heap a206 k206 .byte (4 : Int32) [(.int (13 : Int32)), (.int (13 : Int32)), (.int (13 : Int32)), (.int (13 : Int32))] (.int (0 : Int32)) := F294.keep Kq296 (ninS ne_a206_a220 nin0)
   have F299 : Exa Z T296.heap a220 cN_0 := F295.keep Kq296
   have F300 : Arv Z T296.heap bb226 kb226 .byte (256 : Int32) [(.int z197), (.int z200), (.int (13 : Int32)), (.int (13 : Int32))] (.int (0 : Int32)) := G292_3.keep Kq296 (ninS (Ne.symm ne_a220_bb226) nin0)
   have Z296 : n0 ≤ T296.heap.size := Nat.le_trans Z292 Kq296.1
   have K296 : Keep h0 T296.heap [] := K292.trans Kq296 (allS (Or.inr s_a220) all0)
   dsimp only [Option.toList_some, Option.toList_none, List.cons_append, List.nil_append]
   refine w_iload X296 hx (2 : Int32) (dB at_103) 105 rfl rfl ?_
   refine w_if_le X296 hx 2 (by decide) (dB at_105) 127 108 (fun c301 => ?_) (fun c301 => ?_)
   ·exfalso; omega
   ·refine w_aload X296 hx (.ref a196) (dB at_108) 110 rfl rfl rfl ?_
    refine w_iload X296 hx (2 : Int32) (dB at_110) 112 rfl rfl ?_
    refine w_iconst X296 hx (dB at_112) 113 rfl (1 : Int32) (by decide) ?_
    refine w_isub X296 hx (dB at_113) 114 rfl (show (1 : Int32) = (2 : Int32) - (1 : Int32) from by decide) ?_
    refine w_baload X296 hx hZ rfl F297 ⟨by decide, by decide⟩ (v := (.int z200)) rfl (dB at_114) 115 rfl ?_
    refine w_bipush X296 hx (dB at_115) 117 rfl (13 : Int32) (by decide) ?_
    refine w_icmp_ne X296 hx z200.toInt 13 rfl (by decide) (dB at_117) 127 120 (fun c302 => ?_) (fun c302 => ?_)
    ·refine w_iload X296 hx (2 : Int32) (dB at_127) 129 rfl rfl ?_
     refine w_istore X296 hx (dB at_129) 131 rfl #[.val (.int sz), .val (.int x0), .val (.int x1), .val (.int x2), .val (.int (2 : Int32)), .val (.ref a196), .val (.ref a206), .val (.ref a220), .val (.int (2 : Int32)), .unset] rfl ?_
     refine w_iconst X296 hx (dB at_131) 132 rfl (-1 : Int32) (by decide) ?_
     refine w_istore X296 hx (dB at_132) 134 rfl #[.val (.int sz), .val (.int x0), .val (.int x1), .val (.int x2), .val (.int (2 : Int32)), .val (.ref a196), .val (.ref a206), .val (.ref a220), .val (.int (2 : Int32)), .val (.int (-1 : Int32))] rfl ?_
     refine w_iload X296 hx (2 : Int32) (dB at_134) 136 rfl rfl ?_
     refine w_iconst X296 hx (dB at_136) 137 rfl (2 : Int32) (by decide) ?_
     refine w_icmp_le X296 hx 2 2 (by decide) (by decide) (dB at_137) 152 140 (fun c303 => ?_) (fun c303 => ?_)
     ·refine w_iload X296 hx (2 : Int32) (dB at_152) 154 rfl rfl ?_
      refine w_iconst X296 hx (dB at_154) 155 rfl (1 : Int32) (by decide) ?_
      refine w_icmp_le X296 hx 2 1 (by decide) (by decide) (dB at_155) 170 158 (fun c304 => ?_) (fun c304 => ?_)
      ·exfalso; omega
      ·refine w_aload X296 hx (.ref a196) (dB at_158) 160 rfl rfl rfl ?_
       refine w_iconst X296 hx (dB at_160) 161 rfl (1 : Int32) (by decide) ?_
       refine w_baload X296 hx hZ rfl F297 ⟨by decide, by decide⟩ (v := (.int z200)) rfl (dB at_161) 162 rfl ?_
       refine w_bipush X296 hx (dB at_162) 164 rfl (13 : Int32) (by decide) ?_
       refine w_icmp_ne X296 hx z200.toInt 13 rfl (by decide) (dB at_164) 170 167 (fun c305 => ?_) (fun c305 => ?_)
       ·refine w_iload X296 hx (2 : Int32) (dB at_170) 172 rfl rfl ?_
        refine w_if_le X296 hx 2 (by decide) (dB at_172) 187 175 (fun c306 => ?_) (fun c306 => ?_)
        ·exfalso; omega
        ·refine w_aload X296 hx (.ref a196) (dB at_175) 177 rfl rfl rfl ?_
         refine w_iconst X296 hx (dB at_177) 178 rfl (0 : Int32) (by decide) ?_
         refine w_baload X296 hx hZ rfl F297 ⟨by decide, by decide⟩ (v := (.int z197)) rfl (dB at_178) 179 rfl ?_
         refine w_bipush X296 hx (dB at_179) 181 rfl (13 : Int32) (by decide) ?_
         refine w_icmp_ne X296 hx z197.toInt 13 rfl (by decide) (dB at_181) 187 184 (fun c307 => ?_) (fun c307 => ?_)
         ·refine w_aload X296 hx (.ref a220) (dB at_187) 189 rfl rfl rfl ?_
          refine w_virt X296 hx hZ hown rfl (rm8 l Z a0 hw [] a220 y296 T296.heap n0 Z296 G296_1) (tw_43 hw) (tw_44 hw) (notFace_of_selects (args := #[]) (mvT hZ (tw_46 hw))) (tw_46 hw) (tw_45 hw) (tw_7 hw) (tw_47 hw) (by decide) a220 F299 (by rw [hml]; rfl) [] [] (lenOf pd_4 rfl) rfl rfl (by decide) 0 rfl (by decide) (by decide) (by decide) (dB at_189) 192 rfl (fun r308 T308 L308 X308 q308 => ?_)
          obtain ⟨rfl, Nq308, eq308⟩ := q308
          have N308 := Fr.app N296 Nq308
          dsimp only [Option.toList_some, Option.toList_none, List.cons_append, List.nil_append]
          refine w_iload X308 hx (2 : Int32) (dB at_192) 194 rfl rfl ?_
          refine w_icmp_ne X308 hx y296.toInt 2 rfl (by decide) (dB at_194) 213 197 (fun c309 => ?_) (fun c309 => ?_)
          ·exfalso; omega
          ·refine w_aload X308 hx (.ref a220) (dB at_197) 199 rfl rfl rfl ?_
           refine w_bipush X308 hx (dB at_199) 201 rfl (13 : Int32) (by decide) ?_
           refine w_virt X308 hx hZ hown eq308 (rm9 l Z a0 hw [] a220 bb226 kb226 y296 z197 z200 (13 : Int32) (13 : Int32) T296.heap n0 Z296 G296_0 F300 G296_1 (by have hl_0 : (13 : Int32).toInt = 13 := (by decide); omega)) (tw_48 hw) (tw_49 hw) (notFace_of_selects (args := #[]) (mvT hZ (tw_51 hw))) (tw_51 hw) (tw_50 hw) (tw_7 hw) (tw_52 hw) (by decide) a220 F299 (by rw [hml]; rfl) [(.int (13 : Int32))] [] (lenOf pd_5 rfl) rfl rfl (by decide) 0 rfl (by decide) (by decide) (by decide) (dB at_201) 204 rfl (fun r310 T310 L310 X310 q310 => ?_)
           obtain ⟨z310, rfl, f310, Nq310, eq310⟩ := q310
           have N310 := Fr.app N308 Nq310
           try simp only [show ((13 : Int32)).toInt = 13 from by decide] at f310
           dsimp only [Option.toList_some, Option.toList_none, List.cons_append, List.nil_append]
           refine w_iload X310 hx (-1 : Int32) (dB at_204) 206 rfl rfl ?_
           refine w_icmp_ne X310 hx z310.toInt (-1) rfl (by decide) (dB at_206) 213 209 (fun c311 => ?_) (fun c311 => ?_)
           ·exfalso; omega
           ·refine w_iconst X310 hx (dB at_209) 210 rfl (1 : Int32) (by decide) ?_
            refine w_goto X310 hx (dB at_210) 214 ?_
            refine w_retN X310 hx hlk (t := .boolean) hret (by simp) (dB at_214) (by decide) (by decide) ?_
            rw [eq310]
            exact ⟨rfl, N310⟩
         ·refine w_iconst X296 hx (dB at_184) 185 rfl (0 : Int32) (by decide) ?_
          refine w_istore X296 hx (dB at_185) 187 rfl #[.val (.int sz), .val (.int x0), .val (.int x1), .val (.int x2), .val (.int (2 : Int32)), .val (.ref a196), .val (.ref a206), .val (.ref a220), .val (.int (2 : Int32)), .val (.int (0 : Int32))] rfl ?_
          refine w_aload X296 hx (.ref a220) (dB at_187) 189 rfl rfl rfl ?_
          refine w_virt X296 hx hZ hown rfl (rm8 l Z a0 hw [] a220 y296 T296.heap n0 Z296 G296_1) (tw_43 hw) (tw_44 hw) (notFace_of_selects (args := #[]) (mvT hZ (tw_46 hw))) (tw_46 hw) (tw_45 hw) (tw_7 hw) (tw_47 hw) (by decide) a220 F299 (by rw [hml]; rfl) [] [] (lenOf pd_4 rfl) rfl rfl (by decide) 0 rfl (by decide) (by decide) (by decide) (dB at_189) 192 rfl (fun r312 T312 L312 X312 q312 => ?_)
          obtain ⟨rfl, Nq312, eq312⟩ := q312
          have N312 := Fr.app N296 Nq312
          dsimp only [Option.toList_some, Option.toList_none, List.cons_append, List.nil_append]
          refine w_iload X312 hx (2 : Int32) (dB at_192) 194 rfl rfl ?_
          refine w_icmp_ne X312 hx y296.toInt 2 rfl (by decide) (dB at_194) 213 197 (fun c313 => ?_) (fun c313 => ?_)
          ·exfalso; omega
          ·refine w_aload X312 hx (.ref a220) (dB at_197) 199 rfl rfl rfl ?_
           refine w_bipush X312 hx (dB at_199) 201 rfl (13 : Int32) (by decide) ?_
           refine w_virt X312 hx hZ hown eq312 (rm9 l Z a0 hw [] a220 bb226 kb226 y296 z197 z200 (13 : Int32) (13 : Int32) T296.heap n0 Z296 G296_0 F300 G296_1 (by have hl_0 : (13 : Int32).toInt = 13 := (by decide); omega)) (tw_48 hw) (tw_49 hw) (notFace_of_selects (args := #[]) (mvT hZ (tw_51 hw))) (tw_51 hw) (tw_50 hw) (tw_7 hw) (tw_52 hw) (by decide) a220 F299 (by rw [hml]; rfl) [(.int (13 : Int32))] [] (lenOf pd_5 rfl) rfl rfl (by decide) 0 rfl (by decide) (by decide) (by decide) (dB at_201) 204 rfl (fun r314 T314 L314 X314 q314 => ?_)
           obtain ⟨z314, rfl, f314, Nq314, eq314⟩ := q314
           have N314 := Fr.app N312 Nq314
           try simp only [show ((13 : Int32)).toInt = 13 from by decide] at f314
           dsimp only [Option.toList_some, Option.toList_none, List.cons_append, List.nil_append]
           refine w_iload X314 hx (0 : Int32) (dB at_204) 206 rfl rfl ?_
           refine w_icmp_ne X314 hx z314.toInt 0 rfl (by decide) (dB at_206) 213 209 (fun c315 => ?_) (fun c315 => ?_)
           ·exfalso; omega
           ·refine w_iconst X314 hx (dB at_209) 210 rfl (1 : Int32) (by decide) ?_
            refine w_goto X314 hx (dB at_210) 214 ?_
            refine w_retN X314 hx hlk (t := .boolean) hret (by simp) (dB at_214) (by decide) (by decide) ?_
            rw [eq314]
            exact ⟨rfl, N314⟩
       ·refine w_iconst X296 hx (dB at_167) 168 rfl (1 : Int32) (by decide) ?_
        refine w_istore X296 hx (dB at_168) 170 rfl #[.val (.int sz), .val (.int x0), .val (.int x1), .val (.int x2), .val (.int (2 : Int32)), .val (.ref a196), .val (.ref a206), .val (.ref a220), .val (.int (2 : Int32)), .val (.int (1 : Int32))] rfl ?_
        refine w_iload X296 hx (2 : Int32) (dB at_170) 172 rfl rfl ?_
        refine w_if_le X296 hx 2 (by decide) (dB at_172) 187 175 (fun c316 => ?_) (fun c316 => ?_)
        ·exfalso; omega
        ·refine w_aload X296 hx (.ref a196) (dB at_175) 177 rfl rfl rfl ?_
         refine w_iconst X296 hx (dB at_177) 178 rfl (0 : Int32) (by decide) ?_
         refine w_baload X296 hx hZ rfl F297 ⟨by decide, by decide⟩ (v := (.int z197)) rfl (dB at_178) 179 rfl ?_
         refine w_bipush X296 hx (dB at_179) 181 rfl (13 : Int32) (by decide) ?_
         refine w_icmp_ne X296 hx z197.toInt 13 rfl (by decide) (dB at_181) 187 184 (fun c317 => ?_) (fun c317 => ?_)
         ·refine w_aload X296 hx (.ref a220) (dB at_187) 189 rfl rfl rfl ?_
          refine w_virt X296 hx hZ hown rfl (rm8 l Z a0 hw [] a220 y296 T296.heap n0 Z296 G296_1) (tw_43 hw) (tw_44 hw) (notFace_of_selects (args := #[]) (mvT hZ (tw_46 hw))) (tw_46 hw) (tw_45 hw) (tw_7 hw) (tw_47 hw) (by decide) a220 F299 (by rw [hml]; rfl) [] [] (lenOf pd_4 rfl) rfl rfl (by decide) 0 rfl (by decide) (by decide) (by decide) (dB at_189) 192 rfl (fun r318 T318 L318 X318 q318 => ?_)
          obtain ⟨rfl, Nq318, eq318⟩ := q318
          have N318 := Fr.app N296 Nq318
          dsimp only [Option.toList_some, Option.toList_none, List.cons_append, List.nil_append]
          refine w_iload X318 hx (2 : Int32) (dB at_192) 194 rfl rfl ?_
          refine w_icmp_ne X318 hx y296.toInt 2 rfl (by decide) (dB at_194) 213 197 (fun c319 => ?_) (fun c319 => ?_)
          ·exfalso; omega
          ·refine w_aload X318 hx (.ref a220) (dB at_197) 199 rfl rfl rfl ?_
           refine w_bipush X318 hx (dB at_199) 201 rfl (13 : Int32) (by decide) ?_
           refine w_virt X318 hx hZ hown eq318 (rm9 l Z a0 hw [] a220 bb226 kb226 y296 z197 z200 (13 : Int32) (13 : Int32) T296.heap n0 Z296 G296_0 F300 G296_1 (by have hl_0 : (13 : Int32).toInt = 13 := (by decide); omega)) (tw_48 hw) (tw_49 hw) (notFace_of_selects (args := #[]) (mvT hZ (tw_51 hw))) (tw_51 hw) (tw_50 hw) (tw_7 hw) (tw_52 hw) (by decide) a220 F299 (by rw [hml]; rfl) [(.int (13 : Int32))] [] (lenOf pd_5 rfl) rfl rfl (by decide) 0 rfl (by decide) (by decide) (by decide) (dB at_201) 204 rfl (fun r320 T320 L320 X320 q320 => ?_)
           obtain ⟨z320, rfl, f320, Nq320, eq320⟩ := q320
           have N320 := Fr.app N318 Nq320
           try simp only [show ((13 : Int32)).toInt = 13 from by decide] at f320
           dsimp only [Option.toList_some, Option.toList_none, List.cons_append, List.nil_append]
           refine w_iload X320 hx (1 : Int32) (dB at_204) 206 rfl rfl ?_
           refine w_icmp_ne X320 hx z320.toInt 1 rfl (by decide) (dB at_206) 213 209 (fun c321 => ?_) (fun c321 => ?_)
           ·exfalso; omega
           ·refine w_iconst X320 hx (dB at_209) 210 rfl (1 : Int32) (by decide) ?_
            refine w_goto X320 hx (dB at_210) 214 ?_
            refine w_retN X320 hx hlk (t := .boolean) hret (by simp) (dB at_214) (by decide) (by decide) ?_
            rw [eq320]
            exact ⟨rfl, N320⟩
         ·refine w_iconst X296 hx (dB at_184) 185 rfl (0 : Int32) (by decide) ?_
          refine w_istore X296 hx (dB at_185) 187 rfl #[.val (.int sz), .val (.int x0), .val (.int x1), .val (.int x2), .val (.int (2 : Int32)), .val (.ref a196), .val (.ref a206), .val (.ref a220), .val (.int (2 : Int32)), .val (.int (0 : Int32))] rfl ?_
          refine w_aload X296 hx (.ref a220) (dB at_187) 189 rfl rfl rfl ?_
          refine w_virt X296 hx hZ hown rfl (rm8 l Z a0 hw [] a220 y296 T296.heap n0 Z296 G296_1) (tw_43 hw) (tw_44 hw) (notFace_of_selects (args := #[]) (mvT hZ (tw_46 hw))) (tw_46 hw) (tw_45 hw) (tw_7 hw) (tw_47 hw) (by decide) a220 F299 (by rw [hml]; rfl) [] [] (lenOf pd_4 rfl) rfl rfl (by decide) 0 rfl (by decide) (by decide) (by decide) (dB at_189) 192 rfl (fun r322 T322 L322 X322 q322 => ?_)
          obtain ⟨rfl, Nq322, eq322⟩ := q322
          have N322 := Fr.app N296 Nq322
          dsimp only [Option.toList_some, Option.toList_none, List.cons_append, List.nil_append]
          refine w_iload X322 hx (2 : Int32) (dB at_192) 194 rfl rfl ?_
          refine w_icmp_ne X322 hx y296.toInt 2 rfl (by decide) (dB at_194) 213 197 (fun c323 => ?_) (fun c323 => ?_)
          ·exfalso; omega
          ·refine w_aload X322 hx (.ref a220) (dB at_197) 199 rfl rfl rfl ?_
           refine w_bipush X322 hx (dB at_199) 201 rfl (13 : Int32) (by decide) ?_
           refine w_virt X322 hx hZ hown eq322 (rm9 l Z a0 hw [] a220 bb226 kb226 y296 z197 z200 (13 : Int32) (13 : Int32) T296.heap n0 Z296 G296_0 F300 G296_1 (by have hl_0 : (13 : Int32).toInt = 13 := (by decide); omega)) (tw_48 hw) (tw_49 hw) (notFace_of_selects (args := #[]) (mvT hZ (tw_51 hw))) (tw_51 hw) (tw_50 hw) (tw_7 hw) (tw_52 hw) (by decide) a220 F299 (by rw [hml]; rfl) [(.int (13 : Int32))] [] (lenOf pd_5 rfl) rfl rfl (by decide) 0 rfl (by decide) (by decide) (by decide) (dB at_201) 204 rfl (fun r324 T324 L324 X324 q324 => ?_)
           obtain ⟨z324, rfl, f324, Nq324, eq324⟩ := q324
           have N324 := Fr.app N322 Nq324
           try simp only [show ((13 : Int32)).toInt = 13 from by decide] at f324
           dsimp only [Option.toList_some, Option.toList_none, List.cons_append, List.nil_append]
           refine w_iload X324 hx (0 : Int32) (dB at_204) 206 rfl rfl ?_
           refine w_icmp_ne X324 hx z324.toInt 0 rfl (by decide) (dB at_206) 213 209 (fun c325 => ?_) (fun c325 => ?_)
           ·exfalso; omega
           ·refine w_iconst X324 hx (dB at_209) 210 rfl (1 : Int32) (by decide) ?_
            refine w_goto X324 hx (dB at_210) 214 ?_
            refine w_retN X324 hx hlk (t := .boolean) hret (by simp) (dB at_214) (by decide) (by decide) ?_
            rw [eq324]
            exact ⟨rfl, N324⟩
     ·exfalso; omega
    ·refine w_iload X296 hx (2 : Int32) (dB at_120) 122 rfl rfl ?_
     refine w_iconst X296 hx (dB at_122) 123 rfl (1 : Int32) (by decide) ?_
     refine w_isub X296 hx (dB at_123) 124 rfl (show (1 : Int32) = (2 : Int32) - (1 : Int32) from by decide) ?_
     refine w_goto X296 hx (dB at_124) 129 ?_
     refine w_istore X296 hx (dB at_129) 131 rfl #[.val (.int sz), .val (.int x0), .val (.int x1), .val (.int x2), .val (.int (2 : Int32)), .val (.ref a196), .val (.ref a206), .val (.ref a220), .val (.int (1 : Int32)), .unset] rfl ?_
     refine w_iconst X296 hx (dB at_131) 132 rfl (-1 : Int32) (by decide) ?_
     refine w_istore X296 hx (dB at_132) 134 rfl #[.val (.int sz), .val (.int x0), .val (.int x1), .val (.int x2), .val (.int (2 : Int32)), .val (.ref a196), .val (.ref a206), .val (.ref a220), .val (.int (1 : Int32)), .val (.int (-1 : Int32))] rfl ?_
     refine w_iload X296 hx (1 : Int32) (dB at_134) 136 rfl rfl ?_
     refine w_iconst X296 hx (dB at_136) 137 rfl (2 : Int32) (by decide) ?_
     refine w_icmp_le X296 hx 1 2 (by decide) (by decide) (dB at_137) 152 140 (fun c326 => ?_) (fun c326 => ?_)
     ·refine w_iload X296 hx (1 : Int32) (dB at_152) 154 rfl rfl ?_
      refine w_iconst X296 hx (dB at_154) 155 rfl (1 : Int32) (by decide) ?_
      refine w_icmp_le X296 hx 1 1 (by decide) (by decide) (dB at_155) 170 158 (fun c327 => ?_) (fun c327 => ?_)
      ·refine w_iload X296 hx (1 : Int32) (dB at_170) 172 rfl rfl ?_
       refine w_if_le X296 hx 1 (by decide) (dB at_172) 187 175 (fun c328 => ?_) (fun c328 => ?_)
       ·exfalso; omega
       ·refine w_aload X296 hx (.ref a196) (dB at_175) 177 rfl rfl rfl ?_
        refine w_iconst X296 hx (dB at_177) 178 rfl (0 : Int32) (by decide) ?_
        refine w_baload X296 hx hZ rfl F297 ⟨by decide, by decide⟩ (v := (.int z197)) rfl (dB at_178) 179 rfl ?_
        refine w_bipush X296 hx (dB at_179) 181 rfl (13 : Int32) (by decide) ?_
        refine w_icmp_ne X296 hx z197.toInt 13 rfl (by decide) (dB at_181) 187 184 (fun c329 => ?_) (fun c329 => ?_)
        ·refine w_aload X296 hx (.ref a220) (dB at_187) 189 rfl rfl rfl ?_
         refine w_virt X296 hx hZ hown rfl (rm8 l Z a0 hw [] a220 y296 T296.heap n0 Z296 G296_1) (tw_43 hw) (tw_44 hw) (notFace_of_selects (args := #[]) (mvT hZ (tw_46 hw))) (tw_46 hw) (tw_45 hw) (tw_7 hw) (tw_47 hw) (by decide) a220 F299 (by rw [hml]; rfl) [] [] (lenOf pd_4 rfl) rfl rfl (by decide) 0 rfl (by decide) (by decide) (by decide) (dB at_189) 192 rfl (fun r330 T330 L330 X330 q330 => ?_)
         obtain ⟨rfl, Nq330, eq330⟩ := q330
         have N330 := Fr.app N296 Nq330
         dsimp only [Option.toList_some, Option.toList_none, List.cons_append, List.nil_append]
         refine w_iload X330 hx (1 : Int32) (dB at_192) 194 rfl rfl ?_
         refine w_icmp_ne X330 hx y296.toInt 1 rfl (by decide) (dB at_194) 213 197 (fun c331 => ?_) (fun c331 => ?_)
         ·exfalso; omega
         ·refine w_aload X330 hx (.ref a220) (dB at_197) 199 rfl rfl rfl ?_
          refine w_bipush X330 hx (dB at_199) 201 rfl (13 : Int32) (by decide) ?_
          refine w_virt X330 hx hZ hown eq330 (rm9 l Z a0 hw [] a220 bb226 kb226 y296 z197 z200 (13 : Int32) (13 : Int32) T296.heap n0 Z296 G296_0 F300 G296_1 (by have hl_0 : (13 : Int32).toInt = 13 := (by decide); omega)) (tw_48 hw) (tw_49 hw) (notFace_of_selects (args := #[]) (mvT hZ (tw_51 hw))) (tw_51 hw) (tw_50 hw) (tw_7 hw) (tw_52 hw) (by decide) a220 F299 (by rw [hml]; rfl) [(.int (13 : Int32))] [] (lenOf pd_5 rfl) rfl rfl (by decide) 0 rfl (by decide) (by decide) (by decide) (dB at_201) 204 rfl (fun r332 T332 L332 X332 q332 => ?_)
          obtain ⟨z332, rfl, f332, Nq332, eq332⟩ := q332
          have N332 := Fr.app N330 Nq332
          try simp only [show ((13 : Int32)).toInt = 13 from by decide] at f332
          dsimp only [Option.toList_some, Option.toList_none, List.cons_append, List.nil_append]
          refine w_iload X332 hx (-1 : Int32) (dB at_204) 206 rfl rfl ?_
          refine w_icmp_ne X332 hx z332.toInt (-1) rfl (by decide) (dB at_206) 213 209 (fun c333 => ?_) (fun c333 => ?_)
          ·exfalso; omega
          ·refine w_iconst X332 hx (dB at_209) 210 rfl (1 : Int32) (by decide) ?_
           refine w_goto X332 hx (dB at_210) 214 ?_
           refine w_retN X332 hx hlk (t := .boolean) hret (by simp) (dB at_214) (by decide) (by decide) ?_
           rw [eq332]
           exact ⟨rfl, N332⟩
        ·refine w_iconst X296 hx (dB at_184) 185 rfl (0 : Int32) (by decide) ?_
         refine w_istore X296 hx (dB at_185) 187 rfl #[.val (.int sz), .val (.int x0), .val (.int x1), .val (.int x2), .val (.int (2 : Int32)), .val (.ref a196), .val (.ref a206), .val (.ref a220), .val (.int (1 : Int32)), .val (.int (0 : Int32))] rfl ?_
         refine w_aload X296 hx (.ref a220) (dB at_187) 189 rfl rfl rfl ?_
         refine w_virt X296 hx hZ hown rfl (rm8 l Z a0 hw [] a220 y296 T296.heap n0 Z296 G296_1) (tw_43 hw) (tw_44 hw) (notFace_of_selects (args := #[]) (mvT hZ (tw_46 hw))) (tw_46 hw) (tw_45 hw) (tw_7 hw) (tw_47 hw) (by decide) a220 F299 (by rw [hml]; rfl) [] [] (lenOf pd_4 rfl) rfl rfl (by decide) 0 rfl (by decide) (by decide) (by decide) (dB at_189) 192 rfl (fun r334 T334 L334 X334 q334 => ?_)
         obtain ⟨rfl, Nq334, eq334⟩ := q334
         have N334 := Fr.app N296 Nq334
         dsimp only [Option.toList_some, Option.toList_none, List.cons_append, List.nil_append]
         refine w_iload X334 hx (1 : Int32) (dB at_192) 194 rfl rfl ?_
         refine w_icmp_ne X334 hx y296.toInt 1 rfl (by decide) (dB at_194) 213 197 (fun c335 => ?_) (fun c335 => ?_)
         ·exfalso; omega
         ·refine w_aload X334 hx (.ref a220) (dB at_197) 199 rfl rfl rfl ?_
          refine w_bipush X334 hx (dB at_199) 201 rfl (13 : Int32) (by decide) ?_
          refine w_virt X334 hx hZ hown eq334 (rm9 l Z a0 hw [] a220 bb226 kb226 y296 z197 z200 (13 : Int32) (13 : Int32) T296.heap n0 Z296 G296_0 F300 G296_1 (by have hl_0 : (13 : Int32).toInt = 13 := (by decide); omega)) (tw_48 hw) (tw_49 hw) (notFace_of_selects (args := #[]) (mvT hZ (tw_51 hw))) (tw_51 hw) (tw_50 hw) (tw_7 hw) (tw_52 hw) (by decide) a220 F299 (by rw [hml]; rfl) [(.int (13 : Int32))] [] (lenOf pd_5 rfl) rfl rfl (by decide) 0 rfl (by decide) (by decide) (by decide) (dB at_201) 204 rfl (fun r336 T336 L336 X336 q336 => ?_)
          obtain ⟨z336, rfl, f336, Nq336, eq336⟩ := q336
          have N336 := Fr.app N334 Nq336
          try simp only [show ((13 : Int32)).toInt = 13 from by decide] at f336
          dsimp only [Option.toList_some, Option.toList_none, List.cons_append, List.nil_append]
          refine w_iload X336 hx (0 : Int32) (dB at_204) 206 rfl rfl ?_
          refine w_icmp_ne X336 hx z336.toInt 0 rfl (by decide) (dB at_206) 213 209 (fun c337 => ?_) (fun c337 => ?_)
          ·exfalso; omega
          ·refine w_iconst X336 hx (dB at_209) 210 rfl (1 : Int32) (by decide) ?_
           refine w_goto X336 hx (dB at_210) 214 ?_
           refine w_retN X336 hx hlk (t := .boolean) hret (by simp) (dB at_214) (by decide) (by decide) ?_
           rw [eq336]
           exact ⟨rfl, N336⟩
      ·exfalso; omega
     ·exfalso; omega
  ·obtain rfl : v195 = (3 : Int32) := eqI (s244.trans (by decide))
   have z244 : (3 : Int32).toInt = 3 := by decide
   refine w_aload X239 hx (.ref a220) (dB at_88) 90 rfl rfl rfl ?_
   refine w_aload X239 hx (.ref a196) (dB at_90) 92 rfl rfl rfl ?_
   refine w_iconst X239 hx (dB at_92) 93 rfl (0 : Int32) (by decide) ?_
   refine w_iload X239 hx (3 : Int32) (dB at_93) 95 rfl rfl ?_
   refine w_virt X239 hx hZ hown rfl (rm5m3 l Z a0 hw [] a220 a196 bb226 kb226 k196 (13 : Int32) (13 : Int32) (13 : Int32) (13 : Int32) z197 z200 z203 T239.heap n0 Z239 F242 G239_0 G239_1 G239_2 F243 F240 g_a220 g_bb226 (by exact ne_a196_bb226)) (tw_25 hw) (tw_26 hw) (notFace_of_selects (args := #[]) (mvT hZ (tw_28 hw))) (tw_28 hw) (tw_27 hw) (tw_7 hw) (tw_29 hw) (by decide) a220 F242 (by rw [hml]; rfl) [(.ref a196), (.int (0 : Int32)), (.int (3 : Int32))] [] (lenOf pd_3 rfl) rfl rfl (by decide) 0 rfl (by decide) (by decide) (by decide) (dB at_95) 98 rfl (fun r338 T338 L338 X338 q338 => ?_)
   obtain ⟨rfl, Nq338, Kq338, G338_0, G338_1, G338_2, G338_3⟩ := q338
   have N338 := Fr.app N239 Nq338
   have F339 : Arv Z T338.heap a196 k196 .byte (3 : Int32) [(.int z197), (.int z200), (.int z203)] (.int (0 : Int32)) := F240.keep Kq338 (ninS ne_a196_a220 (ninS ne_a196_bb226 nin0))
   have F340 : Arv Z T338.heap a206 k206 .byte (4 : Int32) [(.int (13 : Int32)), (.int (13 : Int32)), (.int (13 : Int32)), (.int (13 : Int32))] (.int (0 : Int32)) := F241.keep Kq338 (ninS ne_a206_a220 (ninS ne_a206_bb226 nin0))
   have F341 : Exa Z T338.heap a220 cN_0 := F242.keep Kq338
   have Z338 : n0 ≤ T338.heap.size := Nat.le_trans Z239 Kq338.1
   have K338 : Keep h0 T338.heap [] := K239.trans Kq338 (allS (Or.inr s_a220) (allS (Or.inr s_bb226) all0))
   dsimp only [Option.toList_some, Option.toList_none, List.cons_append, List.nil_append]
   refine w_aload X338 hx (.ref a220) (dB at_98) 100 rfl rfl rfl ?_
   refine w_virt X338 hx hZ hown rfl (rm7n3 l Z a0 hw [] a220 bb226 kb226 (16 : Int32) z197 z200 z203 (13 : Int32) T338.heap n0 Z338 F341 G338_0 G338_3 G338_1 G338_2 g_a220) (tw_38 hw) (tw_39 hw) (notFace_of_selects (args := #[]) (mvT hZ (tw_41 hw))) (tw_41 hw) (tw_40 hw) (tw_7 hw) (tw_42 hw) (by decide) a220 F341 (by rw [hml]; rfl) [] [] (lenOf pd_2 rfl) rfl rfl (by decide) 0 rfl (by decide) (by decide) (by decide) (dB at_100) 103 rfl (fun r342 T342 L342 X342 q342 => ?_)
   obtain ⟨y342, fx342, q342⟩ := q342
   try simp only [show ((13 : Int32)).toInt = 13 from by decide] at fx342
   try simp only [show ((16 : Int32)).toInt = 16 from by decide] at fx342
   obtain ⟨rfl, Nq342, Kq342, G342_0, G342_1, G342_2⟩ := q342
   have N342 := Fr.app N338 Nq342
   have F343 : Arv Z T342.heap a196 k196 .byte (3 : Int32) [(.int z197), (.int z200), (.int z203)] (.int (0 : Int32)) := F339.keep Kq342 (ninS ne_a196_a220 nin0)
   have F344 : Arv Z T342.heap a206 k206 .byte (4 : Int32) [(.int (13 : Int32)), (.int (13 : Int32)), (.int (13 : Int32)), (.int (13 : Int32))] (.int (0 : Int32)) := F340.keep Kq342 (ninS ne_a206_a220 nin0)
   have F345 : Exa Z T342.heap a220 cN_0 := F341.keep Kq342
   have F346 : Arv Z T342.heap bb226 kb226 .byte (256 : Int32) [(.int z197), (.int z200), (.int z203), (.int (13 : Int32))] (.int (0 : Int32)) := G338_3.keep Kq342 (ninS (Ne.symm ne_a220_bb226) nin0)
   have Z342 : n0 ≤ T342.heap.size := Nat.le_trans Z338 Kq342.1
   have K342 : Keep h0 T342.heap [] := K338.trans Kq342 (allS (Or.inr s_a220) all0)
   dsimp only [Option.toList_some, Option.toList_none, List.cons_append, List.nil_append]
   refine w_iload X342 hx (3 : Int32) (dB at_103) 105 rfl rfl ?_
   refine w_if_le X342 hx 3 (by decide) (dB at_105) 127 108 (fun c347 => ?_) (fun c347 => ?_)
   ·exfalso; omega
   ·refine w_aload X342 hx (.ref a196) (dB at_108) 110 rfl rfl rfl ?_
    refine w_iload X342 hx (3 : Int32) (dB at_110) 112 rfl rfl ?_
    refine w_iconst X342 hx (dB at_112) 113 rfl (1 : Int32) (by decide) ?_
    refine w_isub X342 hx (dB at_113) 114 rfl (show (2 : Int32) = (3 : Int32) - (1 : Int32) from by decide) ?_
    refine w_baload X342 hx hZ rfl F343 ⟨by decide, by decide⟩ (v := (.int z203)) rfl (dB at_114) 115 rfl ?_
    refine w_bipush X342 hx (dB at_115) 117 rfl (13 : Int32) (by decide) ?_
    refine w_icmp_ne X342 hx z203.toInt 13 rfl (by decide) (dB at_117) 127 120 (fun c348 => ?_) (fun c348 => ?_)
    ·refine w_iload X342 hx (3 : Int32) (dB at_127) 129 rfl rfl ?_
     refine w_istore X342 hx (dB at_129) 131 rfl #[.val (.int sz), .val (.int x0), .val (.int x1), .val (.int x2), .val (.int (3 : Int32)), .val (.ref a196), .val (.ref a206), .val (.ref a220), .val (.int (3 : Int32)), .unset] rfl ?_
     refine w_iconst X342 hx (dB at_131) 132 rfl (-1 : Int32) (by decide) ?_
     refine w_istore X342 hx (dB at_132) 134 rfl #[.val (.int sz), .val (.int x0), .val (.int x1), .val (.int x2), .val (.int (3 : Int32)), .val (.ref a196), .val (.ref a206), .val (.ref a220), .val (.int (3 : Int32)), .val (.int (-1 : Int32))] rfl ?_
     refine w_iload X342 hx (3 : Int32) (dB at_134) 136 rfl rfl ?_
     refine w_iconst X342 hx (dB at_136) 137 rfl (2 : Int32) (by decide) ?_
     refine w_icmp_le X342 hx 3 2 (by decide) (by decide) (dB at_137) 152 140 (fun c349 => ?_) (fun c349 => ?_)
     ·exfalso; omega
     ·refine w_aload X342 hx (.ref a196) (dB at_140) 142 rfl rfl rfl ?_
      refine w_iconst X342 hx (dB at_142) 143 rfl (2 : Int32) (by decide) ?_
      refine w_baload X342 hx hZ rfl F343 ⟨by decide, by decide⟩ (v := (.int z203)) rfl (dB at_143) 144 rfl ?_
      refine w_bipush X342 hx (dB at_144) 146 rfl (13 : Int32) (by decide) ?_
      refine w_icmp_ne X342 hx z203.toInt 13 rfl (by decide) (dB at_146) 152 149 (fun c350 => ?_) (fun c350 => ?_)
      ·refine w_iload X342 hx (3 : Int32) (dB at_152) 154 rfl rfl ?_
       refine w_iconst X342 hx (dB at_154) 155 rfl (1 : Int32) (by decide) ?_
       refine w_icmp_le X342 hx 3 1 (by decide) (by decide) (dB at_155) 170 158 (fun c351 => ?_) (fun c351 => ?_)
       ·exfalso; omega
       ·refine w_aload X342 hx (.ref a196) (dB at_158) 160 rfl rfl rfl ?_
        refine w_iconst X342 hx (dB at_160) 161 rfl (1 : Int32) (by decide) ?_
        refine w_baload X342 hx hZ rfl F343 ⟨by decide, by decide⟩ (v := (.int z200)) rfl (dB at_161) 162 rfl ?_
        refine w_bipush X342 hx (dB at_162) 164 rfl (13 : Int32) (by decide) ?_
        refine w_icmp_ne X342 hx z200.toInt 13 rfl (by decide) (dB at_164) 170 167 (fun c352 => ?_) (fun c352 => ?_)
        ·refine w_iload X342 hx (3 : Int32) (dB at_170) 172 rfl rfl ?_
         refine w_if_le X342 hx 3 (by decide) (dB at_172) 187 175 (fun c353 => ?_) (fun c353 => ?_)
         ·exfalso; omega
         ·refine w_aload X342 hx (.ref a196) (dB at_175) 177 rfl rfl rfl ?_
          refine w_iconst X342 hx (dB at_177) 178 rfl (0 : Int32) (by decide) ?_
          refine w_baload X342 hx hZ rfl F343 ⟨by decide, by decide⟩ (v := (.int z197)) rfl (dB at_178) 179 rfl ?_
          refine w_bipush X342 hx (dB at_179) 181 rfl (13 : Int32) (by decide) ?_
          refine w_icmp_ne X342 hx z197.toInt 13 rfl (by decide) (dB at_181) 187 184 (fun c354 => ?_) (fun c354 => ?_)
          ·refine w_aload X342 hx (.ref a220) (dB at_187) 189 rfl rfl rfl ?_
           refine w_virt X342 hx hZ hown rfl (rm8 l Z a0 hw [] a220 y342 T342.heap n0 Z342 G342_1) (tw_43 hw) (tw_44 hw) (notFace_of_selects (args := #[]) (mvT hZ (tw_46 hw))) (tw_46 hw) (tw_45 hw) (tw_7 hw) (tw_47 hw) (by decide) a220 F345 (by rw [hml]; rfl) [] [] (lenOf pd_4 rfl) rfl rfl (by decide) 0 rfl (by decide) (by decide) (by decide) (dB at_189) 192 rfl (fun r355 T355 L355 X355 q355 => ?_)
           obtain ⟨rfl, Nq355, eq355⟩ := q355
           have N355 := Fr.app N342 Nq355
           dsimp only [Option.toList_some, Option.toList_none, List.cons_append, List.nil_append]
           refine w_iload X355 hx (3 : Int32) (dB at_192) 194 rfl rfl ?_
           refine w_icmp_ne X355 hx y342.toInt 3 rfl (by decide) (dB at_194) 213 197 (fun c356 => ?_) (fun c356 => ?_)
           ·exfalso; omega
           ·refine w_aload X355 hx (.ref a220) (dB at_197) 199 rfl rfl rfl ?_
            refine w_bipush X355 hx (dB at_199) 201 rfl (13 : Int32) (by decide) ?_
            refine w_virt X355 hx hZ hown eq355 (rm9 l Z a0 hw [] a220 bb226 kb226 y342 z197 z200 z203 (13 : Int32) T342.heap n0 Z342 G342_0 F346 G342_1 (by have hl_0 : (13 : Int32).toInt = 13 := (by decide); omega)) (tw_48 hw) (tw_49 hw) (notFace_of_selects (args := #[]) (mvT hZ (tw_51 hw))) (tw_51 hw) (tw_50 hw) (tw_7 hw) (tw_52 hw) (by decide) a220 F345 (by rw [hml]; rfl) [(.int (13 : Int32))] [] (lenOf pd_5 rfl) rfl rfl (by decide) 0 rfl (by decide) (by decide) (by decide) (dB at_201) 204 rfl (fun r357 T357 L357 X357 q357 => ?_)
            obtain ⟨z357, rfl, f357, Nq357, eq357⟩ := q357
            have N357 := Fr.app N355 Nq357
            try simp only [show ((13 : Int32)).toInt = 13 from by decide] at f357
            dsimp only [Option.toList_some, Option.toList_none, List.cons_append, List.nil_append]
            refine w_iload X357 hx (-1 : Int32) (dB at_204) 206 rfl rfl ?_
            refine w_icmp_ne X357 hx z357.toInt (-1) rfl (by decide) (dB at_206) 213 209 (fun c358 => ?_) (fun c358 => ?_)
            ·exfalso; omega
            ·refine w_iconst X357 hx (dB at_209) 210 rfl (1 : Int32) (by decide) ?_
             refine w_goto X357 hx (dB at_210) 214 ?_
             refine w_retN X357 hx hlk (t := .boolean) hret (by simp) (dB at_214) (by decide) (by decide) ?_
             rw [eq357]
             exact ⟨rfl, N357⟩
          ·refine w_iconst X342 hx (dB at_184) 185 rfl (0 : Int32) (by decide) ?_
           refine w_istore X342 hx (dB at_185) 187 rfl #[.val (.int sz), .val (.int x0), .val (.int x1), .val (.int x2), .val (.int (3 : Int32)), .val (.ref a196), .val (.ref a206), .val (.ref a220), .val (.int (3 : Int32)), .val (.int (0 : Int32))] rfl ?_
           refine w_aload X342 hx (.ref a220) (dB at_187) 189 rfl rfl rfl ?_
           refine w_virt X342 hx hZ hown rfl (rm8 l Z a0 hw [] a220 y342 T342.heap n0 Z342 G342_1) (tw_43 hw) (tw_44 hw) (notFace_of_selects (args := #[]) (mvT hZ (tw_46 hw))) (tw_46 hw) (tw_45 hw) (tw_7 hw) (tw_47 hw) (by decide) a220 F345 (by rw [hml]; rfl) [] [] (lenOf pd_4 rfl) rfl rfl (by decide) 0 rfl (by decide) (by decide) (by decide) (dB at_189) 192 rfl (fun r359 T359 L359 X359 q359 => ?_)
           obtain ⟨rfl, Nq359, eq359⟩ := q359
           have N359 := Fr.app N342 Nq359
           dsimp only [Option.toList_some, Option.toList_none, List.cons_append, List.nil_append]
           refine w_iload X359 hx (3 : Int32) (dB at_192) 194 rfl rfl ?_
           refine w_icmp_ne X359 hx y342.toInt 3 rfl (by decide) (dB at_194) 213 197 (fun c360 => ?_) (fun c360 => ?_)
           ·exfalso; omega
           ·refine w_aload X359 hx (.ref a220) (dB at_197) 199 rfl rfl rfl ?_
            refine w_bipush X359 hx (dB at_199) 201 rfl (13 : Int32) (by decide) ?_
            refine w_virt X359 hx hZ hown eq359 (rm9 l Z a0 hw [] a220 bb226 kb226 y342 z197 z200 z203 (13 : Int32) T342.heap n0 Z342 G342_0 F346 G342_1 (by have hl_0 : (13 : Int32).toInt = 13 := (by decide); omega)) (tw_48 hw) (tw_49 hw) (notFace_of_selects (args := #[]) (mvT hZ (tw_51 hw))) (tw_51 hw) (tw_50 hw) (tw_7 hw) (tw_52 hw) (by decide) a220 F345 (by rw [hml]; rfl) [(.int (13 : Int32))] [] (lenOf pd_5 rfl) rfl rfl (by decide) 0 rfl (by decide) (by decide) (by decide) (dB at_201) 204 rfl (fun r361 T361 L361 X361 q361 => ?_)
            obtain ⟨z361, rfl, f361, Nq361, eq361⟩ := q361
            have N361 := Fr.app N359 Nq361
            try simp only [show ((13 : Int32)).toInt = 13 from by decide] at f361
            dsimp only [Option.toList_some, Option.toList_none, List.cons_append, List.nil_append]
            refine w_iload X361 hx (0 : Int32) (dB at_204) 206 rfl rfl ?_
            refine w_icmp_ne X361 hx z361.toInt 0 rfl (by decide) (dB at_206) 213 209 (fun c362 => ?_) (fun c362 => ?_)
            ·exfalso; omega
            ·refine w_iconst X361 hx (dB at_209) 210 rfl (1 : Int32) (by decide) ?_
             refine w_goto X361 hx (dB at_210) 214 ?_
             refine w_retN X361 hx hlk (t := .boolean) hret (by simp) (dB at_214) (by decide) (by decide) ?_
             rw [eq361]
             exact ⟨rfl, N361⟩
        ·refine w_iconst X342 hx (dB at_167) 168 rfl (1 : Int32) (by decide) ?_
         refine w_istore X342 hx (dB at_168) 170 rfl #[.val (.int sz), .val (.int x0), .val (.int x1), .val (.int x2), .val (.int (3 : Int32)), .val (.ref a196), .val (.ref a206), .val (.ref a220), .val (.int (3 : Int32)), .val (.int (1 : Int32))] rfl ?_
         refine w_iload X342 hx (3 : Int32) (dB at_170) 172 rfl rfl ?_
         refine w_if_le X342 hx 3 (by decide) (dB at_172) 187 175 (fun c363 => ?_) (fun c363 => ?_)
         ·exfalso; omega
         ·refine w_aload X342 hx (.ref a196) (dB at_175) 177 rfl rfl rfl ?_
          refine w_iconst X342 hx (dB at_177) 178 rfl (0 : Int32) (by decide) ?_
          refine w_baload X342 hx hZ rfl F343 ⟨by decide, by decide⟩ (v := (.int z197)) rfl (dB at_178) 179 rfl ?_
          refine w_bipush X342 hx (dB at_179) 181 rfl (13 : Int32) (by decide) ?_
          refine w_icmp_ne X342 hx z197.toInt 13 rfl (by decide) (dB at_181) 187 184 (fun c364 => ?_) (fun c364 => ?_)
          ·refine w_aload X342 hx (.ref a220) (dB at_187) 189 rfl rfl rfl ?_
           refine w_virt X342 hx hZ hown rfl (rm8 l Z a0 hw [] a220 y342 T342.heap n0 Z342 G342_1) (tw_43 hw) (tw_44 hw) (notFace_of_selects (args := #[]) (mvT hZ (tw_46 hw))) (tw_46 hw) (tw_45 hw) (tw_7 hw) (tw_47 hw) (by decide) a220 F345 (by rw [hml]; rfl) [] [] (lenOf pd_4 rfl) rfl rfl (by decide) 0 rfl (by decide) (by decide) (by decide) (dB at_189) 192 rfl (fun r365 T365 L365 X365 q365 => ?_)
           obtain ⟨rfl, Nq365, eq365⟩ := q365
           have N365 := Fr.app N342 Nq365
           dsimp only [Option.toList_some, Option.toList_none, List.cons_append, List.nil_append]
           refine w_iload X365 hx (3 : Int32) (dB at_192) 194 rfl rfl ?_
           refine w_icmp_ne X365 hx y342.toInt 3 rfl (by decide) (dB at_194) 213 197 (fun c366 => ?_) (fun c366 => ?_)
           ·exfalso; omega
           ·refine w_aload X365 hx (.ref a220) (dB at_197) 199 rfl rfl rfl ?_
            refine w_bipush X365 hx (dB at_199) 201 rfl (13 : Int32) (by decide) ?_
            refine w_virt X365 hx hZ hown eq365 (rm9 l Z a0 hw [] a220 bb226 kb226 y342 z197 z200 z203 (13 : Int32) T342.heap n0 Z342 G342_0 F346 G342_1 (by have hl_0 : (13 : Int32).toInt = 13 := (by decide); omega)) (tw_48 hw) (tw_49 hw) (notFace_of_selects (args := #[]) (mvT hZ (tw_51 hw))) (tw_51 hw) (tw_50 hw) (tw_7 hw) (tw_52 hw) (by decide) a220 F345 (by rw [hml]; rfl) [(.int (13 : Int32))] [] (lenOf pd_5 rfl) rfl rfl (by decide) 0 rfl (by decide) (by decide) (by decide) (dB at_201) 204 rfl (fun r367 T367 L367 X367 q367 => ?_)
            obtain ⟨z367, rfl, f367, Nq367, eq367⟩ := q367
            have N367 := Fr.app N365 Nq367
            try simp only [show ((13 : Int32)).toInt = 13 from by decide] at f367
            dsimp only [Option.toList_some, Option.toList_none, List.cons_append, List.nil_append]
            refine w_iload X367 hx (1 : Int32) (dB at_204) 206 rfl rfl ?_
            refine w_icmp_ne X367 hx z367.toInt 1 rfl (by decide) (dB at_206) 213 209 (fun c368 => ?_) (fun c368 => ?_)
            ·exfalso; omega
            ·refine w_iconst X367 hx (dB at_209) 210 rfl (1 : Int32) (by decide) ?_
             refine w_goto X367 hx (dB at_210) 214 ?_
             refine w_retN X367 hx hlk (t := .boolean) hret (by simp) (dB at_214) (by decide) (by decide) ?_
             rw [eq367]
             exact ⟨rfl, N367⟩
          ·refine w_iconst X342 hx (dB at_184) 185 rfl (0 : Int32) (by decide) ?_
           refine w_istore X342 hx (dB at_185) 187 rfl #[.val (.int sz), .val (.int x0), .val (.int x1), .val (.int x2), .val (.int (3 : Int32)), .val (.ref a196), .val (.ref a206), .val (.ref a220), .val (.int (3 : Int32)), .val (.int (0 : Int32))] rfl ?_
           refine w_aload X342 hx (.ref a220) (dB at_187) 189 rfl rfl rfl ?_
           refine w_virt X342 hx hZ hown rfl (rm8 l Z a0 hw [] a220 y342 T342.heap n0 Z342 G342_1) (tw_43 hw) (tw_44 hw) (notFace_of_selects (args := #[]) (mvT hZ (tw_46 hw))) (tw_46 hw) (tw_45 hw) (tw_7 hw) (tw_47 hw) (by decide) a220 F345 (by rw [hml]; rfl) [] [] (lenOf pd_4 rfl) rfl rfl (by decide) 0 rfl (by decide) (by decide) (by decide) (dB at_189) 192 rfl (fun r369 T369 L369 X369 q369 => ?_)
           obtain ⟨rfl, Nq369, eq369⟩ := q369
           have N369 := Fr.app N342 Nq369
           dsimp only [Option.toList_some, Option.toList_none, List.cons_append, List.nil_append]
           refine w_iload X369 hx (3 : Int32) (dB at_192) 194 rfl rfl ?_
           refine w_icmp_ne X369 hx y342.toInt 3 rfl (by decide) (dB at_194) 213 197 (fun c370 => ?_) (fun c370 => ?_)
           ·exfalso; omega
           ·refine w_aload X369 hx (.ref a220) (dB at_197) 199 rfl rfl rfl ?_
            refine w_bipush X369 hx (dB at_199) 201 rfl (13 : Int32) (by decide) ?_
            refine w_virt X369 hx hZ hown eq369 (rm9 l Z a0 hw [] a220 bb226 kb226 y342 z197 z200 z203 (13 : Int32) T342.heap n0 Z342 G342_0 F346 G342_1 (by have hl_0 : (13 : Int32).toInt = 13 := (by decide); omega)) (tw_48 hw) (tw_49 hw) (notFace_of_selects (args := #[]) (mvT hZ (tw_51 hw))) (tw_51 hw) (tw_50 hw) (tw_7 hw) (tw_52 hw) (by decide) a220 F345 (by rw [hml]; rfl) [(.int (13 : Int32))] [] (lenOf pd_5 rfl) rfl rfl (by decide) 0 rfl (by decide) (by decide) (by decide) (dB at_201) 204 rfl (fun r371 T371 L371 X371 q371 => ?_)
            obtain ⟨z371, rfl, f371, Nq371, eq371⟩ := q371
            have N371 := Fr.app N369 Nq371
            try simp only [show ((13 : Int32)).toInt = 13 from by decide] at f371
            dsimp only [Option.toList_some, Option.toList_none, List.cons_append, List.nil_append]
            refine w_iload X371 hx (0 : Int32) (dB at_204) 206 rfl rfl ?_
            refine w_icmp_ne X371 hx z371.toInt 0 rfl (by decide) (dB at_206) 213 209 (fun c372 => ?_) (fun c372 => ?_)
            ·exfalso; omega
            ·refine w_iconst X371 hx (dB at_209) 210 rfl (1 : Int32) (by decide) ?_
             refine w_goto X371 hx (dB at_210) 214 ?_
             refine w_retN X371 hx hlk (t := .boolean) hret (by simp) (dB at_214) (by decide) (by decide) ?_
             rw [eq371]
             exact ⟨rfl, N371⟩
      ·refine w_iconst X342 hx (dB at_149) 150 rfl (2 : Int32) (by decide) ?_
       refine w_istore X342 hx (dB at_150) 152 rfl #[.val (.int sz), .val (.int x0), .val (.int x1), .val (.int x2), .val (.int (3 : Int32)), .val (.ref a196), .val (.ref a206), .val (.ref a220), .val (.int (3 : Int32)), .val (.int (2 : Int32))] rfl ?_
       refine w_iload X342 hx (3 : Int32) (dB at_152) 154 rfl rfl ?_
       refine w_iconst X342 hx (dB at_154) 155 rfl (1 : Int32) (by decide) ?_
       refine w_icmp_le X342 hx 3 1 (by decide) (by decide) (dB at_155) 170 158 (fun c373 => ?_) (fun c373 => ?_)
       ·exfalso; omega
       ·refine w_aload X342 hx (.ref a196) (dB at_158) 160 rfl rfl rfl ?_
        refine w_iconst X342 hx (dB at_160) 161 rfl (1 : Int32) (by decide) ?_
        refine w_baload X342 hx hZ rfl F343 ⟨by decide, by decide⟩ (v := (.int z200)) rfl (dB at_161) 162 rfl ?_
        refine w_bipush X342 hx (dB at_162) 164 rfl (13 : Int32) (by decide) ?_
        refine w_icmp_ne X342 hx z200.toInt 13 rfl (by decide) (dB at_164) 170 167 (fun c374 => ?_) (fun c374 => ?_)
        ·refine w_iload X342 hx (3 : Int32) (dB at_170) 172 rfl rfl ?_
         refine w_if_le X342 hx 3 (by decide) (dB at_172) 187 175 (fun c375 => ?_) (fun c375 => ?_)
         ·exfalso; omega
         ·refine w_aload X342 hx (.ref a196) (dB at_175) 177 rfl rfl rfl ?_
          refine w_iconst X342 hx (dB at_177) 178 rfl (0 : Int32) (by decide) ?_
          refine w_baload X342 hx hZ rfl F343 ⟨by decide, by decide⟩ (v := (.int z197)) rfl (dB at_178) 179 rfl ?_
          refine w_bipush X342 hx (dB at_179) 181 rfl (13 : Int32) (by decide) ?_
          refine w_icmp_ne X342 hx z197.toInt 13 rfl (by decide) (dB at_181) 187 184 (fun c376 => ?_) (fun c376 => ?_)
          ·refine w_aload X342 hx (.ref a220) (dB at_187) 189 rfl rfl rfl ?_
           refine w_virt X342 hx hZ hown rfl (rm8 l Z a0 hw [] a220 y342 T342.heap n0 Z342 G342_1) (tw_43 hw) (tw_44 hw) (notFace_of_selects (args := #[]) (mvT hZ (tw_46 hw))) (tw_46 hw) (tw_45 hw) (tw_7 hw) (tw_47 hw) (by decide) a220 F345 (by rw [hml]; rfl) [] [] (lenOf pd_4 rfl) rfl rfl (by decide) 0 rfl (by decide) (by decide) (by decide) (dB at_189) 192 rfl (fun r377 T377 L377 X377 q377 => ?_)
           obtain ⟨rfl, Nq377, eq377⟩ := q377
           have N377 := Fr.app N342 Nq377
           dsimp only [Option.toList_some, Option.toList_none, List.cons_append, List.nil_append]
           refine w_iload X377 hx (3 : Int32) (dB at_192) 194 rfl rfl ?_
           refine w_icmp_ne X377 hx y342.toInt 3 rfl (by decide) (dB at_194) 213 197 (fun c378 => ?_) (fun c378 => ?_)
           ·exfalso; omega
           ·refine w_aload X377 hx (.ref a220) (dB at_197) 199 rfl rfl rfl ?_
            refine w_bipush X377 hx (dB at_199) 201 rfl (13 : Int32) (by decide) ?_
            refine w_virt X377 hx hZ hown eq377 (rm9 l Z a0 hw [] a220 bb226 kb226 y342 z197 z200 z203 (13 : Int32) T342.heap n0 Z342 G342_0 F346 G342_1 (by have hl_0 : (13 : Int32).toInt = 13 := (by decide); omega)) (tw_48 hw) (tw_49 hw) (notFace_of_selects (args := #[]) (mvT hZ (tw_51 hw))) (tw_51 hw) (tw_50 hw) (tw_7 hw) (tw_52 hw) (by decide) a220 F345 (by rw [hml]; rfl) [(.int (13 : Int32))] [] (lenOf pd_5 rfl) rfl rfl (by decide) 0 rfl (by decide) (by decide) (by decide) (dB at_201) 204 rfl (fun r379 T379 L379 X379 q379 => ?_)
            obtain ⟨z379, rfl, f379, Nq379, eq379⟩ := q379
            have N379 := Fr.app N377 Nq379
            try simp only [show ((13 : Int32)).toInt = 13 from by decide] at f379
            dsimp only [Option.toList_some, Option.toList_none, List.cons_append, List.nil_append]
            refine w_iload X379 hx (2 : Int32) (dB at_204) 206 rfl rfl ?_
            refine w_icmp_ne X379 hx z379.toInt 2 rfl (by decide) (dB at_206) 213 209 (fun c380 => ?_) (fun c380 => ?_)
            ·exfalso; omega
            ·refine w_iconst X379 hx (dB at_209) 210 rfl (1 : Int32) (by decide) ?_
             refine w_goto X379 hx (dB at_210) 214 ?_
             refine w_retN X379 hx hlk (t := .boolean) hret (by simp) (dB at_214) (by decide) (by decide) ?_
             rw [eq379]
             exact ⟨rfl, N379⟩
          ·refine w_iconst X342 hx (dB at_184) 185 rfl (0 : Int32) (by decide) ?_
           refine w_istore X342 hx (dB at_185) 187 rfl #[.val (.int sz), .val (.int x0), .val (.int x1), .val (.int x2), .val (.int (3 : Int32)), .val (.ref a196), .val (.ref a206), .val (.ref a220), .val (.int (3 : Int32)), .val (.int (0 : Int32))] rfl ?_
           refine w_aload X342 hx (.ref a220) (dB at_187) 189 rfl rfl rfl ?_
           refine w_virt X342 hx hZ hown rfl (rm8 l Z a0 hw [] a220 y342 T342.heap n0 Z342 G342_1) (tw_43 hw) (tw_44 hw) (notFace_of_selects (args := #[]) (mvT hZ (tw_46 hw))) (tw_46 hw) (tw_45 hw) (tw_7 hw) (tw_47 hw) (by decide) a220 F345 (by rw [hml]; rfl) [] [] (lenOf pd_4 rfl) rfl rfl (by decide) 0 rfl (by decide) (by decide) (by decide) (dB at_189) 192 rfl (fun r381 T381 L381 X381 q381 => ?_)
           obtain ⟨rfl, Nq381, eq381⟩ := q381
           have N381 := Fr.app N342 Nq381
           dsimp only [Option.toList_some, Option.toList_none, List.cons_append, List.nil_append]
           refine w_iload X381 hx (3 : Int32) (dB at_192) 194 rfl rfl ?_
           refine w_icmp_ne X381 hx y342.toInt 3 rfl (by decide) (dB at_194) 213 197 (fun c382 => ?_) (fun c382 => ?_)
           ·exfalso; omega
           ·refine w_aload X381 hx (.ref a220) (dB at_197) 199 rfl rfl rfl ?_
            refine w_bipush X381 hx (dB at_199) 201 rfl (13 : Int32) (by decide) ?_
            refine w_virt X381 hx hZ hown eq381 (rm9 l Z a0 hw [] a220 bb226 kb226 y342 z197 z200 z203 (13 : Int32) T342.heap n0 Z342 G342_0 F346 G342_1 (by have hl_0 : (13 : Int32).toInt = 13 := (by decide); omega)) (tw_48 hw) (tw_49 hw) (notFace_of_selects (args := #[]) (mvT hZ (tw_51 hw))) (tw_51 hw) (tw_50 hw) (tw_7 hw) (tw_52 hw) (by decide) a220 F345 (by rw [hml]; rfl) [(.int (13 : Int32))] [] (lenOf pd_5 rfl) rfl rfl (by decide) 0 rfl (by decide) (by decide) (by decide) (dB at_201) 204 rfl (fun r383 T383 L383 X383 q383 => ?_)
            obtain ⟨z383, rfl, f383, Nq383, eq383⟩ := q383
            have N383 := Fr.app N381 Nq383
            try simp only [show ((13 : Int32)).toInt = 13 from by decide] at f383
            dsimp only [Option.toList_some, Option.toList_none, List.cons_append, List.nil_append]
            refine w_iload X383 hx (0 : Int32) (dB at_204) 206 rfl rfl ?_
            refine w_icmp_ne X383 hx z383.toInt 0 rfl (by decide) (dB at_206) 213 209 (fun c384 => ?_) (fun c384 => ?_)
            ·exfalso; omega
            ·refine w_iconst X383 hx (dB at_209) 210 rfl (1 : Int32) (by decide) ?_
             refine w_goto X383 hx (dB at_210) 214 ?_
             refine w_retN X383 hx hlk (t := .boolean) hret (by simp) (dB at_214) (by decide) (by decide) ?_
             rw [eq383]
             exact ⟨rfl, N383⟩
        ·refine w_iconst X342 hx (dB at_167) 168 rfl (1 : Int32) (by decide) ?_
         refine w_istore X342 hx (dB at_168) 170 rfl #[.val (.int sz), .val (.int x0), .val (.int x1), .val (.int x2), .val (.int (3 : Int32)), .val (.ref a196), .val (.ref a206), .val (.ref a220), .val (.int (3 : Int32)), .val (.int (1 : Int32))] rfl ?_
         refine w_iload X342 hx (3 : Int32) (dB at_170) 172 rfl rfl ?_
         refine w_if_le X342 hx 3 (by decide) (dB at_172) 187 175 (fun c385 => ?_) (fun c385 => ?_)
         ·exfalso; omega
         ·refine w_aload X342 hx (.ref a196) (dB at_175) 177 rfl rfl rfl ?_
          refine w_iconst X342 hx (dB at_177) 178 rfl (0 : Int32) (by decide) ?_
          refine w_baload X342 hx hZ rfl F343 ⟨by decide, by decide⟩ (v := (.int z197)) rfl (dB at_178) 179 rfl ?_
          refine w_bipush X342 hx (dB at_179) 181 rfl (13 : Int32) (by decide) ?_
          refine w_icmp_ne X342 hx z197.toInt 13 rfl (by decide) (dB at_181) 187 184 (fun c386 => ?_) (fun c386 => ?_)
          ·refine w_aload X342 hx (.ref a220) (dB at_187) 189 rfl rfl rfl ?_
           refine w_virt X342 hx hZ hown rfl (rm8 l Z a0 hw [] a220 y342 T342.heap n0 Z342 G342_1) (tw_43 hw) (tw_44 hw) (notFace_of_selects (args := #[]) (mvT hZ (tw_46 hw))) (tw_46 hw) (tw_45 hw) (tw_7 hw) (tw_47 hw) (by decide) a220 F345 (by rw [hml]; rfl) [] [] (lenOf pd_4 rfl) rfl rfl (by decide) 0 rfl (by decide) (by decide) (by decide) (dB at_189) 192 rfl (fun r387 T387 L387 X387 q387 => ?_)
           obtain ⟨rfl, Nq387, eq387⟩ := q387
           have N387 := Fr.app N342 Nq387
           dsimp only [Option.toList_some, Option.toList_none, List.cons_append, List.nil_append]
           refine w_iload X387 hx (3 : Int32) (dB at_192) 194 rfl rfl ?_
           refine w_icmp_ne X387 hx y342.toInt 3 rfl (by decide) (dB at_194) 213 197 (fun c388 => ?_) (fun c388 => ?_)
           ·exfalso; omega
           ·refine w_aload X387 hx (.ref a220) (dB at_197) 199 rfl rfl rfl ?_
            refine w_bipush X387 hx (dB at_199) 201 rfl (13 : Int32) (by decide) ?_
            refine w_virt X387 hx hZ hown eq387 (rm9 l Z a0 hw [] a220 bb226 kb226 y342 z197 z200 z203 (13 : Int32) T342.heap n0 Z342 G342_0 F346 G342_1 (by have hl_0 : (13 : Int32).toInt = 13 := (by decide); omega)) (tw_48 hw) (tw_49 hw) (notFace_of_selects (args := #[]) (mvT hZ (tw_51 hw))) (tw_51 hw) (tw_50 hw) (tw_7 hw) (tw_52 hw) (by decide) a220 F345 (by rw [hml]; rfl) [(.int (13 : Int32))] [] (lenOf pd_5 rfl) rfl rfl (by decide) 0 rfl (by decide) (by decide) (by decide) (dB at_201) 204 rfl (fun r389 T389 L389 X389 q389 => ?_)
            obtain ⟨z389, rfl, f389, Nq389, eq389⟩ := q389
            have N389 := Fr.app N387 Nq389
            try simp only [show ((13 : Int32)).toInt = 13 from by decide] at f389
            dsimp only [Option.toList_some, Option.toList_none, List.cons_append, List.nil_append]
            refine w_iload X389 hx (1 : Int32) (dB at_204) 206 rfl rfl ?_
            refine w_icmp_ne X389 hx z389.toInt 1 rfl (by decide) (dB at_206) 213 209 (fun c390 => ?_) (fun c390 => ?_)
            ·exfalso; omega
            ·refine w_iconst X389 hx (dB at_209) 210 rfl (1 : Int32) (by decide) ?_
             refine w_goto X389 hx (dB at_210) 214 ?_
             refine w_retN X389 hx hlk (t := .boolean) hret (by simp) (dB at_214) (by decide) (by decide) ?_
             rw [eq389]
             exact ⟨rfl, N389⟩
          ·refine w_iconst X342 hx (dB at_184) 185 rfl (0 : Int32) (by decide) ?_
           refine w_istore X342 hx (dB at_185) 187 rfl #[.val (.int sz), .val (.int x0), .val (.int x1), .val (.int x2), .val (.int (3 : Int32)), .val (.ref a196), .val (.ref a206), .val (.ref a220), .val (.int (3 : Int32)), .val (.int (0 : Int32))] rfl ?_
           refine w_aload X342 hx (.ref a220) (dB at_187) 189 rfl rfl rfl ?_
           refine w_virt X342 hx hZ hown rfl (rm8 l Z a0 hw [] a220 y342 T342.heap n0 Z342 G342_1) (tw_43 hw) (tw_44 hw) (notFace_of_selects (args := #[]) (mvT hZ (tw_46 hw))) (tw_46 hw) (tw_45 hw) (tw_7 hw) (tw_47 hw) (by decide) a220 F345 (by rw [hml]; rfl) [] [] (lenOf pd_4 rfl) rfl rfl (by decide) 0 rfl (by decide) (by decide) (by decide) (dB at_189) 192 rfl (fun r391 T391 L391 X391 q391 => ?_)
           obtain ⟨rfl, Nq391, eq391⟩ := q391
           have N391 := Fr.app N342 Nq391
           dsimp only [Option.toList_some, Option.toList_none, List.cons_append, List.nil_append]
           refine w_iload X391 hx (3 : Int32) (dB at_192) 194 rfl rfl ?_
           refine w_icmp_ne X391 hx y342.toInt 3 rfl (by decide) (dB at_194) 213 197 (fun c392 => ?_) (fun c392 => ?_)
           ·exfalso; omega
           ·refine w_aload X391 hx (.ref a220) (dB at_197) 199 rfl rfl rfl ?_
            refine w_bipush X391 hx (dB at_199) 201 rfl (13 : Int32) (by decide) ?_
            refine w_virt X391 hx hZ hown eq391 (rm9 l Z a0 hw [] a220 bb226 kb226 y342 z197 z200 z203 (13 : Int32) T342.heap n0 Z342 G342_0 F346 G342_1 (by have hl_0 : (13 : Int32).toInt = 13 := (by decide); omega)) (tw_48 hw) (tw_49 hw) (notFace_of_selects (args := #[]) (mvT hZ (tw_51 hw))) (tw_51 hw) (tw_50 hw) (tw_7 hw) (tw_52 hw) (by decide) a220 F345 (by rw [hml]; rfl) [(.int (13 : Int32))] [] (lenOf pd_5 rfl) rfl rfl (by decide) 0 rfl (by decide) (by decide) (by decide) (dB at_201) 204 rfl (fun r393 T393 L393 X393 q393 => ?_)
            obtain ⟨z393, rfl, f393, Nq393, eq393⟩ := q393
            have N393 := Fr.app N391 Nq393
            try simp only [show ((13 : Int32)).toInt = 13 from by decide] at f393
            dsimp only [Option.toList_some, Option.toList_none, List.cons_append, List.nil_append]
            refine w_iload X393 hx (0 : Int32) (dB at_204) 206 rfl rfl ?_
            refine w_icmp_ne X393 hx z393.toInt 0 rfl (by decide) (dB at_206) 213 209 (fun c394 => ?_) (fun c394 => ?_)
            ·exfalso; omega
            ·refine w_iconst X393 hx (dB at_209) 210 rfl (1 : Int32) (by decide) ?_
             refine w_goto X393 hx (dB at_210) 214 ?_
             refine w_retN X393 hx hlk (t := .boolean) hret (by simp) (dB at_214) (by decide) (by decide) ?_
             rw [eq393]
             exact ⟨rfl, N393⟩
    ·refine w_iload X342 hx (3 : Int32) (dB at_120) 122 rfl rfl ?_
     refine w_iconst X342 hx (dB at_122) 123 rfl (1 : Int32) (by decide) ?_
     refine w_isub X342 hx (dB at_123) 124 rfl (show (2 : Int32) = (3 : Int32) - (1 : Int32) from by decide) ?_
     refine w_goto X342 hx (dB at_124) 129 ?_
     refine w_istore X342 hx (dB at_129) 131 rfl #[.val (.int sz), .val (.int x0), .val (.int x1), .val (.int x2), .val (.int (3 : Int32)), .val (.ref a196), .val (.ref a206), .val (.ref a220), .val (.int (2 : Int32)), .unset] rfl ?_
     refine w_iconst X342 hx (dB at_131) 132 rfl (-1 : Int32) (by decide) ?_
     refine w_istore X342 hx (dB at_132) 134 rfl #[.val (.int sz), .val (.int x0), .val (.int x1), .val (.int x2), .val (.int (3 : Int32)), .val (.ref a196), .val (.ref a206), .val (.ref a220), .val (.int (2 : Int32)), .val (.int (-1 : Int32))] rfl ?_
     refine w_iload X342 hx (2 : Int32) (dB at_134) 136 rfl rfl ?_
     refine w_iconst X342 hx (dB at_136) 137 rfl (2 : Int32) (by decide) ?_
     refine w_icmp_le X342 hx 2 2 (by decide) (by decide) (dB at_137) 152 140 (fun c395 => ?_) (fun c395 => ?_)
     ·refine w_iload X342 hx (2 : Int32) (dB at_152) 154 rfl rfl ?_
      refine w_iconst X342 hx (dB at_154) 155 rfl (1 : Int32) (by decide) ?_
      refine w_icmp_le X342 hx 2 1 (by decide) (by decide) (dB at_155) 170 158 (fun c396 => ?_) (fun c396 => ?_)
      ·exfalso; omega
      ·refine w_aload X342 hx (.ref a196) (dB at_158) 160 rfl rfl rfl ?_
       refine w_iconst X342 hx (dB at_160) 161 rfl (1 : Int32) (by decide) ?_
       refine w_baload X342 hx hZ rfl F343 ⟨by decide, by decide⟩ (v := (.int z200)) rfl (dB at_161) 162 rfl ?_
       refine w_bipush X342 hx (dB at_162) 164 rfl (13 : Int32) (by decide) ?_
       refine w_icmp_ne X342 hx z200.toInt 13 rfl (by decide) (dB at_164) 170 167 (fun c397 => ?_) (fun c397 => ?_)
       ·refine w_iload X342 hx (2 : Int32) (dB at_170) 172 rfl rfl ?_
        refine w_if_le X342 hx 2 (by decide) (dB at_172) 187 175 (fun c398 => ?_) (fun c398 => ?_)
        ·exfalso; omega
        ·refine w_aload X342 hx (.ref a196) (dB at_175) 177 rfl rfl rfl ?_
         refine w_iconst X342 hx (dB at_177) 178 rfl (0 : Int32) (by decide) ?_
         refine w_baload X342 hx hZ rfl F343 ⟨by decide, by decide⟩ (v := (.int z197)) rfl (dB at_178) 179 rfl ?_
         refine w_bipush X342 hx (dB at_179) 181 rfl (13 : Int32) (by decide) ?_
         refine w_icmp_ne X342 hx z197.toInt 13 rfl (by decide) (dB at_181) 187 184 (fun c399 => ?_) (fun c399 => ?_)
         ·refine w_aload X342 hx (.ref a220) (dB at_187) 189 rfl rfl rfl ?_
          refine w_virt X342 hx hZ hown rfl (rm8 l Z a0 hw [] a220 y342 T342.heap n0 Z342 G342_1) (tw_43 hw) (tw_44 hw) (notFace_of_selects (args := #[]) (mvT hZ (tw_46 hw))) (tw_46 hw) (tw_45 hw) (tw_7 hw) (tw_47 hw) (by decide) a220 F345 (by rw [hml]; rfl) [] [] (lenOf pd_4 rfl) rfl rfl (by decide) 0 rfl (by decide) (by decide) (by decide) (dB at_189) 192 rfl (fun r400 T400 L400 X400 q400 => ?_)
          obtain ⟨rfl, Nq400, eq400⟩ := q400
          have N400 := Fr.app N342 Nq400
          dsimp only [Option.toList_some, Option.toList_none, List.cons_append, List.nil_append]
          refine w_iload X400 hx (2 : Int32) (dB at_192) 194 rfl rfl ?_
          refine w_icmp_ne X400 hx y342.toInt 2 rfl (by decide) (dB at_194) 213 197 (fun c401 => ?_) (fun c401 => ?_)
          ·exfalso; omega
          ·refine w_aload X400 hx (.ref a220) (dB at_197) 199 rfl rfl rfl ?_
           refine w_bipush X400 hx (dB at_199) 201 rfl (13 : Int32) (by decide) ?_
           refine w_virt X400 hx hZ hown eq400 (rm9 l Z a0 hw [] a220 bb226 kb226 y342 z197 z200 z203 (13 : Int32) T342.heap n0 Z342 G342_0 F346 G342_1 (by have hl_0 : (13 : Int32).toInt = 13 := (by decide); omega)) (tw_48 hw) (tw_49 hw) (notFace_of_selects (args := #[]) (mvT hZ (tw_51 hw))) (tw_51 hw) (tw_50 hw) (tw_7 hw) (tw_52 hw) (by decide) a220 F345 (by rw [hml]; rfl) [(.int (13 : Int32))] [] (lenOf pd_5 rfl) rfl rfl (by decide) 0 rfl (by decide) (by decide) (by decide) (dB at_201) 204 rfl (fun r402 T402 L402 X402 q402 => ?_)
           obtain ⟨z402, rfl, f402, Nq402, eq402⟩ := q402
           have N402 := Fr.app N400 Nq402
           try simp only [show ((13 : Int32)).toInt = 13 from by decide] at f402
           dsimp only [Option.toList_some, Option.toList_none, List.cons_append, List.nil_append]
           refine w_iload X402 hx (-1 : Int32) (dB at_204) 206 rfl rfl ?_
           refine w_icmp_ne X402 hx z402.toInt (-1) rfl (by decide) (dB at_206) 213 209 (fun c403 => ?_) (fun c403 => ?_)
           ·exfalso; omega
           ·refine w_iconst X402 hx (dB at_209) 210 rfl (1 : Int32) (by decide) ?_
            refine w_goto X402 hx (dB at_210) 214 ?_
            refine w_retN X402 hx hlk (t := .boolean) hret (by simp) (dB at_214) (by decide) (by decide) ?_
            rw [eq402]
            exact ⟨rfl, N402⟩
         ·refine w_iconst X342 hx (dB at_184) 185 rfl (0 : Int32) (by decide) ?_
          refine w_istore X342 hx (dB at_185) 187 rfl #[.val (.int sz), .val (.int x0), .val (.int x1), .val (.int x2), .val (.int (3 : Int32)), .val (.ref a196), .val (.ref a206), .val (.ref a220), .val (.int (2 : Int32)), .val (.int (0 : Int32))] rfl ?_
          refine w_aload X342 hx (.ref a220) (dB at_187) 189 rfl rfl rfl ?_
          refine w_virt X342 hx hZ hown rfl (rm8 l Z a0 hw [] a220 y342 T342.heap n0 Z342 G342_1) (tw_43 hw) (tw_44 hw) (notFace_of_selects (args := #[]) (mvT hZ (tw_46 hw))) (tw_46 hw) (tw_45 hw) (tw_7 hw) (tw_47 hw) (by decide) a220 F345 (by rw [hml]; rfl) [] [] (lenOf pd_4 rfl) rfl rfl (by decide) 0 rfl (by decide) (by decide) (by decide) (dB at_189) 192 rfl (fun r404 T404 L404 X404 q404 => ?_)
          obtain ⟨rfl, Nq404, eq404⟩ := q404
          have N404 := Fr.app N342 Nq404
          dsimp only [Option.toList_some, Option.toList_none, List.cons_append, List.nil_append]
          refine w_iload X404 hx (2 : Int32) (dB at_192) 194 rfl rfl ?_
          refine w_icmp_ne X404 hx y342.toInt 2 rfl (by decide) (dB at_194) 213 197 (fun c405 => ?_) (fun c405 => ?_)
          ·exfalso; omega
          ·refine w_aload X404 hx (.ref a220) (dB at_197) 199 rfl rfl rfl ?_
           refine w_bipush X404 hx (dB at_199) 201 rfl (13 : Int32) (by decide) ?_
           refine w_virt X404 hx hZ hown eq404 (rm9 l Z a0 hw [] a220 bb226 kb226 y342 z197 z200 z203 (13 : Int32) T342.heap n0 Z342 G342_0 F346 G342_1 (by have hl_0 : (13 : Int32).toInt = 13 := (by decide); omega)) (tw_48 hw) (tw_49 hw) (notFace_of_selects (args := #[]) (mvT hZ (tw_51 hw))) (tw_51 hw) (tw_50 hw) (tw_7 hw) (tw_52 hw) (by decide) a220 F345 (by rw [hml]; rfl) [(.int (13 : Int32))] [] (lenOf pd_5 rfl) rfl rfl (by decide) 0 rfl (by decide) (by decide) (by decide) (dB at_201) 204 rfl (fun r406 T406 L406 X406 q406 => ?_)
           obtain ⟨z406, rfl, f406, Nq406, eq406⟩ := q406
           have N406 := Fr.app N404 Nq406
           try simp only [show ((13 : Int32)).toInt = 13 from by decide] at f406
           dsimp only [Option.toList_some, Option.toList_none, List.cons_append, List.nil_append]
           refine w_iload X406 hx (0 : Int32) (dB at_204) 206 rfl rfl ?_
           refine w_icmp_ne X406 hx z406.toInt 0 rfl (by decide) (dB at_206) 213 209 (fun c407 => ?_) (fun c407 => ?_)
           ·exfalso; omega
           ·refine w_iconst X406 hx (dB at_209) 210 rfl (1 : Int32) (by decide) ?_
            refine w_goto X406 hx (dB at_210) 214 ?_
            refine w_retN X406 hx hlk (t := .boolean) hret (by simp) (dB at_214) (by decide) (by decide) ?_
            rw [eq406]
            exact ⟨rfl, N406⟩
       ·refine w_iconst X342 hx (dB at_167) 168 rfl (1 : Int32) (by decide) ?_
        refine w_istore X342 hx (dB at_168) 170 rfl #[.val (.int sz), .val (.int x0), .val (.int x1), .val (.int x2), .val (.int (3 : Int32)), .val (.ref a196), .val (.ref a206), .val (.ref a220), .val (.int (2 : Int32)), .val (.int (1 : Int32))] rfl ?_
        refine w_iload X342 hx (2 : Int32) (dB at_170) 172 rfl rfl ?_
        refine w_if_le X342 hx 2 (by decide) (dB at_172) 187 175 (fun c408 => ?_) (fun c408 => ?_)
        ·exfalso; omega
        ·refine w_aload X342 hx (.ref a196) (dB at_175) 177 rfl rfl rfl ?_
         refine w_iconst X342 hx (dB at_177) 178 rfl (0 : Int32) (by decide) ?_
         refine w_baload X342 hx hZ rfl F343 ⟨by decide, by decide⟩ (v := (.int z197)) rfl (dB at_178) 179 rfl ?_
         refine w_bipush X342 hx (dB at_179) 181 rfl (13 : Int32) (by decide) ?_
         refine w_icmp_ne X342 hx z197.toInt 13 rfl (by decide) (dB at_181) 187 184 (fun c409 => ?_) (fun c409 => ?_)
         ·refine w_aload X342 hx (.ref a220) (dB at_187) 189 rfl rfl rfl ?_
          refine w_virt X342 hx hZ hown rfl (rm8 l Z a0 hw [] a220 y342 T342.heap n0 Z342 G342_1) (tw_43 hw) (tw_44 hw) (notFace_of_selects (args := #[]) (mvT hZ (tw_46 hw))) (tw_46 hw) (tw_45 hw) (tw_7 hw) (tw_47 hw) (by decide) a220 F345 (by rw [hml]; rfl) [] [] (lenOf pd_4 rfl) rfl rfl (by decide) 0 rfl (by decide) (by decide) (by decide) (dB at_189) 192 rfl (fun r410 T410 L410 X410 q410 => ?_)
          obtain ⟨rfl, Nq410, eq410⟩ := q410
          have N410 := Fr.app N342 Nq410
          dsimp only [Option.toList_some, Option.toList_none, List.cons_append, List.nil_append]
          refine w_iload X410 hx (2 : Int32) (dB at_192) 194 rfl rfl ?_
          refine w_icmp_ne X410 hx y342.toInt 2 rfl (by decide) (dB at_194) 213 197 (fun c411 => ?_) (fun c411 => ?_)
          ·exfalso; omega
          ·refine w_aload X410 hx (.ref a220) (dB at_197) 199 rfl rfl rfl ?_
           refine w_bipush X410 hx (dB at_199) 201 rfl (13 : Int32) (by decide) ?_
           refine w_virt X410 hx hZ hown eq410 (rm9 l Z a0 hw [] a220 bb226 kb226 y342 z197 z200 z203 (13 : Int32) T342.heap n0 Z342 G342_0 F346 G342_1 (by have hl_0 : (13 : Int32).toInt = 13 := (by decide); omega)) (tw_48 hw) (tw_49 hw) (notFace_of_selects (args := #[]) (mvT hZ (tw_51 hw))) (tw_51 hw) (tw_50 hw) (tw_7 hw) (tw_52 hw) (by decide) a220 F345 (by rw [hml]; rfl) [(.int (13 : Int32))] [] (lenOf pd_5 rfl) rfl rfl (by decide) 0 rfl (by decide) (by decide) (by decide) (dB at_201) 204 rfl (fun r412 T412 L412 X412 q412 => ?_)
           obtain ⟨z412, rfl, f412, Nq412, eq412⟩ := q412
           have N412 := Fr.app N410 Nq412
           try simp only [show ((13 : Int32)).toInt = 13 from by decide] at f412
           dsimp only [Option.toList_some, Option.toList_none, List.cons_append, List.nil_append]
           refine w_iload X412 hx (1 : Int32) (dB at_204) 206 rfl rfl ?_
           refine w_icmp_ne X412 hx z412.toInt 1 rfl (by decide) (dB at_206) 213 209 (fun c413 => ?_) (fun c413 => ?_)
           ·exfalso; omega
           ·refine w_iconst X412 hx (dB at_209) 210 rfl (1 : Int32) (by decide) ?_
            refine w_goto X412 hx (dB at_210) 214 ?_
            refine w_retN X412 hx hlk (t := .boolean) hret (by simp) (dB at_214) (by decide) (by decide) ?_
            rw [eq412]
            exact ⟨rfl, N412⟩
         ·refine w_iconst X342 hx (dB at_184) 185 rfl (0 : Int32) (by decide) ?_
          refine w_istore X342 hx (dB at_185) 187 rfl #[.val (.int sz), .val (.int x0), .val (.int x1), .val (.int x2), .val (.int (3 : Int32)), .val (.ref a196), .val (.ref a206), .val (.ref a220), .val (.int (2 : Int32)), .val (.int (0 : Int32))] rfl ?_
          refine w_aload X342 hx (.ref a220) (dB at_187) 189 rfl rfl rfl ?_
          refine w_virt X342 hx hZ hown rfl (rm8 l Z a0 hw [] a220 y342 T342.heap n0 Z342 G342_1) (tw_43 hw) (tw_44 hw) (notFace_of_selects (args := #[]) (mvT hZ (tw_46 hw))) (tw_46 hw) (tw_45 hw) (tw_7 hw) (tw_47 hw) (by decide) a220 F345 (by rw [hml]; rfl) [] [] (lenOf pd_4 rfl) rfl rfl (by decide) 0 rfl (by decide) (by decide) (by decide) (dB at_189) 192 rfl (fun r414 T414 L414 X414 q414 => ?_)
          obtain ⟨rfl, Nq414, eq414⟩ := q414
          have N414 := Fr.app N342 Nq414
          dsimp only [Option.toList_some, Option.toList_none, List.cons_append, List.nil_append]
          refine w_iload X414 hx (2 : Int32) (dB at_192) 194 rfl rfl ?_
          refine w_icmp_ne X414 hx y342.toInt 2 rfl (by decide) (dB at_194) 213 197 (fun c415 => ?_) (fun c415 => ?_)
          ·exfalso; omega
          ·refine w_aload X414 hx (.ref a220) (dB at_197) 199 rfl rfl rfl ?_
           refine w_bipush X414 hx (dB at_199) 201 rfl (13 : Int32) (by decide) ?_
           refine w_virt X414 hx hZ hown eq414 (rm9 l Z a0 hw [] a220 bb226 kb226 y342 z197 z200 z203 (13 : Int32) T342.heap n0 Z342 G342_0 F346 G342_1 (by have hl_0 : (13 : Int32).toInt = 13 := (by decide); omega)) (tw_48 hw) (tw_49 hw) (notFace_of_selects (args := #[]) (mvT hZ (tw_51 hw))) (tw_51 hw) (tw_50 hw) (tw_7 hw) (tw_52 hw) (by decide) a220 F345 (by rw [hml]; rfl) [(.int (13 : Int32))] [] (lenOf pd_5 rfl) rfl rfl (by decide) 0 rfl (by decide) (by decide) (by decide) (dB at_201) 204 rfl (fun r416 T416 L416 X416 q416 => ?_)
           obtain ⟨z416, rfl, f416, Nq416, eq416⟩ := q416
           have N416 := Fr.app N414 Nq416
           try simp only [show ((13 : Int32)).toInt = 13 from by decide] at f416
           dsimp only [Option.toList_some, Option.toList_none, List.cons_append, List.nil_append]
           refine w_iload X416 hx (0 : Int32) (dB at_204) 206 rfl rfl ?_
           refine w_icmp_ne X416 hx z416.toInt 0 rfl (by decide) (dB at_206) 213 209 (fun c417 => ?_) (fun c417 => ?_)
           ·exfalso; omega
           ·refine w_iconst X416 hx (dB at_209) 210 rfl (1 : Int32) (by decide) ?_
            refine w_goto X416 hx (dB at_210) 214 ?_
            refine w_retN X416 hx hlk (t := .boolean) hret (by simp) (dB at_214) (by decide) (by decide) ?_
            rw [eq416]
            exact ⟨rfl, N416⟩
     ·exfalso; omega
set_option maxRecDepth 65536 in
set_option maxHeartbeats 40000000 in
theorem comes_1 {Post : Tables → Env → Array Value → State → Outcome → State → Prop} (hpost : ∀ tb e args s v u, (limb_1_1.after args s (.returned v) u = true ∧ limb_1_2.after args s (.returned v) u = true ∧ True) → FrameEnd s (.returned v) u (Jvm.fieldLocs frame_1_writes args s ++ Jvm.arrayLocs frame_1_arrays args s ++ Jvm.staticLocs frame_1_statics s) 16 640 → Post tb e args s (.returned v) u) :
    ArmFor flags0 classFile x code maxLocals ret World_1 tables_1 room_1 Calls_1 rest_1 Pre_1 Post := by
  intro l hfl _ _ p e ha hc hk s m args below hf hA hF happ hP
  obtain ⟨hcalls, hrest, hpre⟩ := hP
  obtain ⟨-, -, -, hnamed, -, -, -, hat⟩ := (Spec.applies_iff hf).mp happ
  obtain ⟨hg, hn⟩ := and_e (Cond.before_iff.mp (show (Jvm.Cond.and given_1 narrow_1).before args s = true from hpre))
  obtain ⟨gg1, gg2⟩ := and_e hg
  obtain ⟨gg3, gg4⟩ := and_e gg2
  obtain ⟨gg5, gg6⟩ := and_e gg4
  obtain ⟨gg7, gg8⟩ := and_e gg6
  obtain ⟨w0, w1, w2, w3, rfl⟩ : ∃ w0 w1 w2 w3 : Value, args = #[w0, w1, w2, w3] := by
    have hs : args.size = 4 := by simpa [Cond.value, given_1] using gg1
    obtain ⟨L⟩ := args
    match L, hs with
    | [w0, w1, w2, w3], _ => exact ⟨w0, w1, w2, w3, rfl⟩
  have hw := fun d (hd : d ∈ tables_1) => atoms_spec (ws := Jvm.Cond.code x code maxLocals ret :: tables_1) hat d (List.mem_cons_of_mem _ hd)
  have hfit : Fit s := fun {y c} hc i hi => by
    obtain ⟨ha, rfl⟩ := Array.getElem?_eq_some_iff.mp hc
    have q := List.all_eq_true.mp ((Array.all_eq_true_iff_forall_mem.mp hF) _ (Array.getElem_mem ha)) i (List.mem_range.mpr hi)
    simpa [Array.getElem?_eq_getElem hi] using q
  obtain ⟨i0, ei0⟩ := is_v gg3
  obtain rfl : w0 = (.int i0) := Option.some.inj ei0
  obtain ⟨i1, ei1⟩ := is_v gg5
  obtain rfl : w1 = (.int i1) := Option.some.inj ei1
  obtain ⟨i2, ei2⟩ := is_v gg7
  obtain rfl : w2 = (.int i2) := Option.some.inj ei2
  obtain ⟨i3, ei3⟩ := is_v gg8
  obtain rfl : w3 = (.int i3) := Option.some.inj ei3
  obtain ⟨n, o, h1, h2, h3, _, L, rfl, ⟨rfl, N⟩, hq⟩ := rm0 l s _ hw tables_1 i0 i1 i2 i3 s.heap s.heap.size (Nat.le_refl _) p e ha hc hk s m _ below hf ((Spec.applies_iff_loose hf).mp happ).1 ⟨rfl, State.Warmed39.refl s, rfl⟩ trivial
  refine ⟨n, _, h1, h2, h3, hpost _ _ _ _ _ _ ⟨Cond.after_iff.mpr rfl, Cond.after_iff.mpr (eq_i res_at (Term.int_eval (1)) rfl), trivial⟩ ⟨hq.1, hq.2.1, (hq.2.2.sift fun y hy => Or.inr (N y hy)).mono (by decide) (by decide)⟩⟩
theorem main_1_1 : Claimed_1_1 := comes_1 fun _ _ _ _ _ _ h hF => ⟨h.1, hF⟩
theorem main_1_2 : Claimed_1_2 := comes_1 fun _ _ _ _ _ _ h hF => ⟨h.2.1, hF⟩
end Jvm.Pilot.@@N@@
namespace Jvm.Pilot.@@N@@
open Jvm Jvm.ClassFile Sem Op Lib Jvm.Free Jvm.Stand Jvm.Pilot.@@N@@.Jvm.D
/-! MADE BY PROGRAM (witnessworld.py) out of the Statement's table words and the real class files: 10 classes; the members and pool entries that the words name. The judged class is class 1, her method 2. -/
namespace start1
open Jvm.ClassFile
def u (s : String) : CpInfo := .utf8 (stringToUtf16 s)
/-- a pool by its gaps: so many unusable entries, then the entry; so many at the end -/
def gap : Nat → List CpInfo → List CpInfo
  | 0, r => r
  | n + 1, r => .unusable :: gap n r
def poolList (es : List (Nat × CpInfo)) (last : Nat) : List CpInfo := es.foldr (fun e r => gap e.1 (e.2 :: r)) (gap last [])
def pool (es : List (Nat × CpInfo)) (last : Nat) : Array CpInfo := ⟨poolList es last⟩
def fileOf (pool : Array CpInfo) (this : Nat) (attrs : Array Attribute := #[]) (ms : Array MethodInfo := #[]) (fl : Nat := 33) (sup : Nat := 0) (ifs : Array Nat := #[]) (fds : Array FieldInfo := #[]) : ClassFile where
  minorVersion := 0
  majorVersion := 65
  constantPool := pool
  accessFlags := fl
  thisClass := this
  superClass := sup
  interfaces := ifs
  fields := fds
  methods := ms
  attributes := attrs
def plain (name : String) (sup : Option ClassId) : Class where
  name := name
  kind := .ordinary
  loader := none
  accessFlags := 33
  super := sup
  interfaces := #[]
  cf := none
  fields := #[]
  methods := #[]
  instanceTypes := #[]
  staticTypes := #[]
  resolved := #[]
  callSites := []
  init := .initialized
  statics := none
  mirror := none

def pool0 : Array CpInfo := pool [(5, u "<init>"), (0, u "()V"), (1, .class_ 10), (1, u "java/lang/Object")] 113

def k0c0 : Code := { maxStack := 0, maxLocals := 1, code := object_method_1_code, exceptionTable := #[], attributes := #[] }
def k0m0 : Method := { name := "<init>", desc := "()V", sig := { parameters := [], returnType := none }, accessFlags := 1, code := some k0c0 }
/-- java/lang/Object -/
def k0 : Class := { plain "java/lang/Object" none with
  accessFlags := 33
  interfaces := #[]
  cf := some (fileOf pool0 8 #[] #[{ accessFlags := 1, nameIndex := 5, descriptorIndex := 6, attributes := #[] }] 33 0 #[] #[])
  fields := #[]
  methods := #[k0m0]
  instanceTypes := #[]
  staticTypes := #[]
  resolved := Array.replicate 124 none
  statics := none }

def pool1 : Array CpInfo := pool [(2, .class_ 4), (0, .nameAndType 5 6), (0, u "java/lang/Object"), (0, u "<init>"), (0, u "()V"), (0, .methodref 8 9), (0, .class_ 10), (0, .nameAndType 11 12), (0, u "com/example/scrinium/scrinium/io/HeaderLineDropCarriageReturnPinLaw"), (0, u "draw"), (0, u "(I)B"), (0, .class_ 14), (0, u "com/example/scrinium/scrinium/io/HeaderLine"), (0, .methodref 13 3), (0, .methodref 13 17), (0, .nameAndType 18 19), (0, u "clear"), (0, u "(I)V"), (0, .methodref 13 21), (0, .nameAndType 22 23), (0, u "append"), (0, u "([BII)V"), (0, .methodref 13 25), (0, .nameAndType 26 6), (0, u "dropCarriageReturn"), (0, .methodref 13 28), (0, .nameAndType 29 30), (0, u "length"), (0, u "()I"), (0, .methodref 13 32), (0, .nameAndType 33 34), (0, u "indexOf"), (0, u "(C)I"), (3, u "law"), (0, u "(IIII)Z")] 7

def k1m0 : Method := { name := "<init>", desc := "()V", sig := { parameters := [], returnType := none }, accessFlags := 1, code := none }
def k1c1 : Code := { maxStack := 2, maxLocals := 1, code := method_2_code, exceptionTable := #[], attributes := #[] }
def k1m1 : Method := { name := "draw", desc := "(I)B", sig := { parameters := [.int], returnType := some .byte }, accessFlags := 10, code := some k1c1 }
def k1c2 : Code := { maxStack := 4, maxLocals := 10, code := code, exceptionTable := #[], attributes := #[] }
def k1m2 : Method := { name := "law", desc := "(IIII)Z", sig := { parameters := [.int, .int, .int, .int], returnType := some .boolean }, accessFlags := 9, code := some k1c2 }
/-- com/example/scrinium/scrinium/io/HeaderLineDropCarriageReturnPinLaw -/
def k1 : Class := { plain "com/example/scrinium/scrinium/io/HeaderLineDropCarriageReturnPinLaw" (some 0) with
  accessFlags := 49
  interfaces := #[]
  cf := some (fileOf pool1 8 #[] #[{ accessFlags := 1, nameIndex := 5, descriptorIndex := 6, attributes := #[] }, { accessFlags := 10, nameIndex := 11, descriptorIndex := 12, attributes := #[] }, { accessFlags := 9, nameIndex := 38, descriptorIndex := 39, attributes := #[] }] 49 2 #[] #[])
  fields := #[]
  methods := #[k1m0, k1m1, k1m2]
  instanceTypes := #[]
  staticTypes := #[]
  resolved := Array.replicate 47 none
  statics := none }

def pool2 : Array CpInfo := pool [(1, .methodref 2 3), (0, .class_ 4), (0, .nameAndType 5 6), (0, u "java/lang/Object"), (0, u "<init>"), (0, u "()V"), (0, .fieldref 8 9), (0, .class_ 10), (0, .nameAndType 11 12), (0, u "com/example/scrinium/scrinium/io/HeaderLine"), (0, u "bytes"), (0, u "[B"), (0, .fieldref 8 14), (0, .nameAndType 15 16), (0, u "length"), (0, u "I"), (0, .fieldref 8 18), (0, .nameAndType 19 16), (0, u "longest"), (0, .methodref 8 21), (0, .nameAndType 22 23), (0, u "makeRoom"), (0, u "(I)V"), (0, .methodref 25 26), (0, .class_ 27), (0, .nameAndType 28 29), (0, u "java/lang/System"), (0, u "arraycopy"), (0, u "(Ljava/lang/Object;ILjava/lang/Object;II)V"), (2, u "clear"), (5, u "()I"), (2, u "dropCarriageReturn"), (28, u "append"), (0, u "([BII)V"), (8, u "indexOf"), (0, u "(C)I")] 19

def k2c0 : Code := { maxStack := 2, maxLocals := 1, code := prog_51_method_1_code, exceptionTable := #[], attributes := #[] }
def k2m0 : Method := { name := "<init>", desc := "()V", sig := { parameters := [], returnType := none }, accessFlags := 0, code := some k2c0 }
def k2c1 : Code := { maxStack := 2, maxLocals := 2, code := prog_51_method_2_code, exceptionTable := #[], attributes := #[] }
def k2m1 : Method := { name := "clear", desc := "(I)V", sig := { parameters := [.int], returnType := none }, accessFlags := 0, code := some k2c1 }
def k2c2 : Code := { maxStack := 5, maxLocals := 4, code := prog_51_method_3_code, exceptionTable := #[], attributes := #[] }
def k2m2 : Method := { name := "append", desc := "([BII)V", sig := { parameters := [(.array .byte), .int, .int], returnType := none }, accessFlags := 0, code := some k2c2 }
def k2c3 : Code := { maxStack := 3, maxLocals := 1, code := prog_51_method_5_code, exceptionTable := #[], attributes := #[] }
def k2m3 : Method := { name := "dropCarriageReturn", desc := "()V", sig := { parameters := [], returnType := none }, accessFlags := 0, code := some k2c3 }
def k2c4 : Code := { maxStack := 1, maxLocals := 1, code := prog_51_method_6_code, exceptionTable := #[], attributes := #[] }
def k2m4 : Method := { name := "length", desc := "()I", sig := { parameters := [], returnType := some .int }, accessFlags := 0, code := some k2c4 }
def k2c5 : Code := { maxStack := 2, maxLocals := 3, code := prog_51_method_8_code, exceptionTable := #[], attributes := #[] }
def k2m5 : Method := { name := "indexOf", desc := "(C)I", sig := { parameters := [.char], returnType := some .int }, accessFlags := 0, code := some k2c5 }
def k2c6 : Code := { maxStack := 5, maxLocals := 2, code := prog_51_method_10_code, exceptionTable := #[], attributes := #[] }
def k2m6 : Method := { name := "makeRoom", desc := "(I)V", sig := { parameters := [.int], returnType := none }, accessFlags := 2, code := some k2c6 }
/-- com/example/scrinium/scrinium/io/HeaderLine -/
def k2 : Class := { plain "com/example/scrinium/scrinium/io/HeaderLine" (some 0) with
  accessFlags := 32
  interfaces := #[]
  cf := some (fileOf pool2 8 #[] #[{ accessFlags := 0, nameIndex := 5, descriptorIndex := 6, attributes := #[] }, { accessFlags := 0, nameIndex := 32, descriptorIndex := 23, attributes := #[] }, { accessFlags := 0, nameIndex := 70, descriptorIndex := 71, attributes := #[] }, { accessFlags := 0, nameIndex := 41, descriptorIndex := 6, attributes := #[] }, { accessFlags := 0, nameIndex := 15, descriptorIndex := 38, attributes := #[] }, { accessFlags := 0, nameIndex := 80, descriptorIndex := 81, attributes := #[] }, { accessFlags := 2, nameIndex := 22, descriptorIndex := 23, attributes := #[] }] 32 2 #[] #[{ accessFlags := 2, nameIndex := 11, descriptorIndex := 12, attributes := #[] }, { accessFlags := 2, nameIndex := 15, descriptorIndex := 16, attributes := #[] }, { accessFlags := 2, nameIndex := 19, descriptorIndex := 16, attributes := #[] }])
  fields := #[{ name := "bytes", type := (.array .byte), accessFlags := 2, slot := 0, constantValue := 0 }, { name := "length", type := .int, accessFlags := 2, slot := 1, constantValue := 0 }, { name := "longest", type := .int, accessFlags := 2, slot := 2, constantValue := 0 }]
  methods := #[k2m0, k2m1, k2m2, k2m3, k2m4, k2m5, k2m6]
  instanceTypes := #[(.array .byte), .int, .int]
  staticTypes := #[]
  resolved := Array.replicate 101 none
  statics := none }

def pool3 : Array CpInfo := pool [(2, .class_ 4), (1, u "java/lang/Object"), (0, u "<init>"), (0, u "()V"), (1, .class_ 10), (1, u "java/lang/System"), (0, u "allowSecurityManager"), (0, u "I"), (16, u "cons"), (0, u "Ljava/io/Console;"), (77, .class_ 110), (1, u "java/lang/System$CallersHolder"), (43, u "initialErrStream"), (0, u "Ljava/io/PrintStream;"), (19, u "security"), (0, u "Ljava/lang/SecurityManager;"), (31, .class_ 209), (0, u "java/lang/System$1"), (7, u "props"), (0, u "Ljava/util/Properties;"), (2, u "lineSeparator"), (0, u "Ljava/lang/String;"), (96, .class_ 321), (1, u "java/lang/System$LoggerFinder"), (5, .class_ 328), (0, u "java/lang/System$Logger"), (67, u "err"), (2, u "out"), (91, u "notSupportedJnuEncoding"), (15, u "in"), (17, u "initialIn"), (0, u "Ljava/io/InputStream;"), (35, u "bootLayer"), (0, u "Ljava/lang/ModuleLayer;"), (99, .class_ 664), (0, u "java/lang/System$2"), (9, u "NEVER"), (2, u "MAYBE"), (49, u "arraycopy"), (0, u "(Ljava/lang/Object;ILjava/lang/Object;II)V"), (72, .class_ 802), (0, u "java/lang/System$Logger$Level")] 31

def k3m0 : Method := { name := "<init>", desc := "()V", sig := { parameters := [], returnType := none }, accessFlags := 2, code := none }
def k3m1 : Method := { name := "arraycopy", desc := "(Ljava/lang/Object;ILjava/lang/Object;II)V", sig := { parameters := [(.object "java/lang/Object"), .int, (.object "java/lang/Object"), .int, .int], returnType := none }, accessFlags := 265, code := none }
/-- java/lang/System -/
def k3 : Class := { plain "java/lang/System" (some 0) with
  accessFlags := 49
  interfaces := #[]
  cf := some (fileOf pool3 8 #[.nestMembers #[319, 327, 801, 108, 663, 208]] #[{ accessFlags := 2, nameIndex := 5, descriptorIndex := 6, attributes := #[] }, { accessFlags := 265, nameIndex := 727, descriptorIndex := 728, attributes := #[] }] 49 2 #[] #[{ accessFlags := 25, nameIndex := 507, descriptorIndex := 526, attributes := #[] }, { accessFlags := 25, nameIndex := 399, descriptorIndex := 155, attributes := #[] }, { accessFlags := 25, nameIndex := 396, descriptorIndex := 155, attributes := #[] }, { accessFlags := 10, nameIndex := 525, descriptorIndex := 526, attributes := #[] }, { accessFlags := 26, nameIndex := 674, descriptorIndex := 12, attributes := #[] }, { accessFlags := 26, nameIndex := 677, descriptorIndex := 12, attributes := #[] }, { accessFlags := 10, nameIndex := 11, descriptorIndex := 12, attributes := #[] }, { accessFlags := 74, nameIndex := 175, descriptorIndex := 176, attributes := #[] }, { accessFlags := 10, nameIndex := 491, descriptorIndex := 222, attributes := #[] }, { accessFlags := 74, nameIndex := 29, descriptorIndex := 30, attributes := #[] }, { accessFlags := 74, nameIndex := 154, descriptorIndex := 155, attributes := #[] }, { accessFlags := 10, nameIndex := 217, descriptorIndex := 218, attributes := #[] }, { accessFlags := 10, nameIndex := 221, descriptorIndex := 222, attributes := #[] }, { accessFlags := 8, nameIndex := 562, descriptorIndex := 563, attributes := #[] }])
  fields := #[{ name := "in", type := (.object "java/io/InputStream"), accessFlags := 25, slot := 0, constantValue := 0 }, { name := "out", type := (.object "java/io/PrintStream"), accessFlags := 25, slot := 1, constantValue := 0 }, { name := "err", type := (.object "java/io/PrintStream"), accessFlags := 25, slot := 2, constantValue := 0 }, { name := "initialIn", type := (.object "java/io/InputStream"), accessFlags := 10, slot := 3, constantValue := 0 }, { name := "NEVER", type := .int, accessFlags := 26, slot := 4, constantValue := 0 }, { name := "MAYBE", type := .int, accessFlags := 26, slot := 5, constantValue := 0 }, { name := "allowSecurityManager", type := .int, accessFlags := 10, slot := 6, constantValue := 0 }, { name := "security", type := (.object "java/lang/SecurityManager"), accessFlags := 74, slot := 7, constantValue := 0 }, { name := "notSupportedJnuEncoding", type := (.object "java/lang/String"), accessFlags := 10, slot := 8, constantValue := 0 }, { name := "cons", type := (.object "java/io/Console"), accessFlags := 74, slot := 9, constantValue := 0 }, { name := "initialErrStream", type := (.object "java/io/PrintStream"), accessFlags := 74, slot := 10, constantValue := 0 }, { name := "props", type := (.object "java/util/Properties"), accessFlags := 10, slot := 11, constantValue := 0 }, { name := "lineSeparator", type := (.object "java/lang/String"), accessFlags := 10, slot := 12, constantValue := 0 }, { name := "bootLayer", type := (.object "java/lang/ModuleLayer"), accessFlags := 8, slot := 13, constantValue := 0 }]
  methods := #[k3m0, k3m1]
  instanceTypes := #[]
  staticTypes := #[(.object "java/io/InputStream"), (.object "java/io/PrintStream"), (.object "java/io/PrintStream"), (.object "java/io/InputStream"), .int, .int, .int, (.object "java/lang/SecurityManager"), (.object "java/lang/String"), (.object "java/io/Console"), (.object "java/io/PrintStream"), (.object "java/util/Properties"), (.object "java/lang/String"), (.object "java/lang/ModuleLayer")]
  resolved := Array.replicate 834 none
  statics := none }

def pool4 : Array CpInfo := pool [(1, u "java/lang/Cloneable"), (0, .class_ 1), (0, u "java/lang/Object"), (0, .class_ 3)] 3

/-- java/lang/Cloneable -/
def k4 : Class := { plain "java/lang/Cloneable" (some 0) with
  accessFlags := 1537
  interfaces := #[]
  cf := some (fileOf pool4 2 #[] #[] 1537 4 #[] #[])
  fields := #[]
  methods := #[]
  instanceTypes := #[]
  staticTypes := #[]
  resolved := Array.replicate 8 none
  statics := none }

def pool5 : Array CpInfo := pool [(1, u "java/io/Serializable"), (0, .class_ 1), (0, u "java/lang/Object"), (0, .class_ 3)] 3

/-- java/io/Serializable -/
def k5 : Class := { plain "java/io/Serializable" (some 0) with
  accessFlags := 1537
  interfaces := #[]
  cf := some (fileOf pool5 2 #[] #[] 1537 4 #[] #[])
  fields := #[]
  methods := #[]
  instanceTypes := #[]
  staticTypes := #[]
  resolved := Array.replicate 8 none
  statics := none }

/-- the primitive byte -/
def k6 : Class := { plain "byte" none with kind := .primitive 'B', accessFlags := 0x411 }
/-- [B -/
def k7 : Class := { plain "[B" (some 0) with kind := .array 6 .byte, interfaces := #[4, 5], accessFlags := 1041 }

/-- the primitive int -/
def k8 : Class := { plain "int" none with kind := .primitive 'I', accessFlags := 0x411 }
/-- [I -/
def k9 : Class := { plain "[I" (some 0) with kind := .array 8 .int, interfaces := #[4, 5], accessFlags := 1041 }

def heap : Heap := #[]
def classes : Array Class := #[k0, k1, k2, k3, k4, k5, k6, k7, k8, k9]
def interned : List (Array UInt16 × Addr) := []
def slotsUsed : Nat := 0
def theMethod : MethodId := ⟨1, 2⟩
def args0 : Array Value := #[.int 5, .int 7, .int 1, .int 2]
def aboutOver (below : List Frame) : State where
  vm := { classes := classes, interned := interned.toArray }
  heap := heap
  slotsUsed := slotsUsed
  threads := #[{ frames := .invoking theMethod args0 :: below }]
def below0 : List Frame := [.native { method := ⟨0, 0⟩, args := #[] }]
def about1 : State := aboutOver below0
def p0 : Program := .bare "" "" ""
def e0 : Env := launch0.env 0 0 0
theorem w_frames : about1.frames = Frame.invoking theMethod args0 :: below0 := rfl
set_option maxRecDepth 65536 in
theorem w_args : argsFit about1.vm theMethod args0 = true := by decide +kernel
set_option maxRecDepth 65536 in
theorem w_heap : heapFits about1 = true := by decide +kernel
set_option maxRecDepth 65536 in
theorem w_runnable : about1.curStatus? = some .runnable := by decide +kernel
set_option maxRecDepth 65536 in
theorem w_alone : about1.alone = true := by decide +kernel
set_option maxRecDepth 65536 in
theorem w_named : about1.methodNamed? x = some theMethod := by decide +kernel
set_option maxRecDepth 65536 in
theorem w_hears : about1.hears theMethod below0 = true := by decide +kernel
set_option maxRecDepth 65536 in
theorem w_ripe : about1.ripe theMethod args0 below0 = true := by decide +kernel
theorem w_running : about1.status = .running := rfl
set_option maxRecDepth 65536 in
theorem w_room : about1.hasRoom e0.platform room_1 = true :=
  launch0.hasRoom_least _ room_1 (by decide +kernel) (by decide +kernel) (by decide +kernel) (by decide +kernel) (by decide +kernel) (by decide +kernel)
theorem allAtoms_all (ts : List Jvm.Cond) (a : Array Jvm.Value) (st : Jvm.State) : (allAtoms ts).before a st = ts.all (fun c => c.before a st) := by
  induction ts with
  | nil => rfl
  | cons c t ih =>
    show (Jvm.Cond.and c (allAtoms t)).before a st = _
    rw [Jvm.Cond.before_and, ih, List.all_cons]
def words1 : List Jvm.Cond := Jvm.Cond.code x code maxLocals ret :: tables_1
/-- a 'code' word, met by the world's own term for the bytes: nothing is compared byte by byte -/
theorem code_word {y : MethodName} {bytes : ByteArray} {mx : Nat} {rt : Option FieldType} {a : Array Value} {s : State} {m : MethodId} {meth : Method} {c : Code} (h1 : s.methodNamed? y = some m) (h2 : s.vm.method? m = some meth) (h3 : meth.code = some c) (h4 : c.code = bytes)
    (h5 : (c.maxLocals == mx && c.exceptionTable.isEmpty && decide (c.maxStack ≤ mostOperands) && decide (meth.sig.returnType = rt) && !meth.locks && decide (parseMethodDescriptor y.desc = some meth.sig)) = true) : (Jvm.Cond.code y bytes mx rt).before a s = true := by
  simp only [Bool.and_eq_true, beq_iff_eq, Bool.not_eq_true', decide_eq_true_eq] at h5
  obtain ⟨⟨⟨⟨⟨g1, g2⟩, g3⟩, g4⟩, g5⟩, g6⟩ := h5
  simp [Cond.before, Cond.holds, Cond.value, h1, h2, h3, h4, g1, g2, g3, g4, g5, g6]
def isCode : Jvm.Cond → Bool
  | .code _ _ _ _ => true
  | _ => false
theorem all_split {L : List Jvm.Cond} {P : Jvm.Cond → Bool} (h1 : L.all (fun c => isCode c || P c) = true) (h2 : ∀ c ∈ L.filter isCode, P c = true) : L.all P = true := by
  refine List.all_eq_true.mpr fun c hc => ?_
  have h := List.all_eq_true.mp h1 c hc
  rcases Bool.eq_false_or_eq_true (isCode c) with hi | hi
  · exact h2 c (List.mem_filter.mpr ⟨hc, hi⟩)
  · simpa [hi] using h
set_option maxRecDepth 65536 in
theorem w_c0 : (Jvm.Cond.code x code maxLocals ret).before args0 about1 = true := code_word (m := ⟨1, 2⟩) (meth := k1m2) (c := k1c2) (by decide +kernel) rfl rfl rfl (by decide +kernel)
set_option maxRecDepth 65536 in
theorem w_c1 : (Jvm.Cond.code ({ cls := "com/example/scrinium/scrinium/io/HeaderLineDropCarriageReturnPinLaw", name := "draw", desc := "(I)B" } : Jvm.MethodName) method_2_code (1 : Nat) (Option.some Jvm.ClassFile.FieldType.byte)).before args0 about1 = true := code_word (m := ⟨1, 1⟩) (meth := k1m1) (c := k1c1) (by decide +kernel) rfl rfl rfl (by decide +kernel)
set_option maxRecDepth 65536 in
theorem w_c2 : (Jvm.Cond.code ({ cls := "com/example/scrinium/scrinium/io/HeaderLine", name := "<init>", desc := "()V" } : Jvm.MethodName) prog_51_method_1_code (1 : Nat) (Option.none : Option Jvm.ClassFile.FieldType)).before args0 about1 = true := code_word (m := ⟨2, 0⟩) (meth := k2m0) (c := k2c0) (by decide +kernel) rfl rfl rfl (by decide +kernel)
set_option maxRecDepth 65536 in
theorem w_c3 : (Jvm.Cond.code ({ cls := "java/lang/Object", name := "<init>", desc := "()V" } : Jvm.MethodName) object_method_1_code (1 : Nat) (Option.none : Option Jvm.ClassFile.FieldType)).before args0 about1 = true := code_word (m := ⟨0, 0⟩) (meth := k0m0) (c := k0c0) (by decide +kernel) rfl rfl rfl (by decide +kernel)
set_option maxRecDepth 65536 in
theorem w_c4 : (Jvm.Cond.code ({ cls := "com/example/scrinium/scrinium/io/HeaderLine", name := "clear", desc := "(I)V" } : Jvm.MethodName) prog_51_method_2_code (2 : Nat) (Option.none : Option Jvm.ClassFile.FieldType)).before args0 about1 = true := code_word (m := ⟨2, 1⟩) (meth := k2m1) (c := k2c1) (by decide +kernel) rfl rfl rfl (by decide +kernel)
set_option maxRecDepth 65536 in
theorem w_c5 : (Jvm.Cond.code ({ cls := "com/example/scrinium/scrinium/io/HeaderLine", name := "append", desc := "([BII)V" } : Jvm.MethodName) prog_51_method_3_code (4 : Nat) (Option.none : Option Jvm.ClassFile.FieldType)).before args0 about1 = true := code_word (m := ⟨2, 2⟩) (meth := k2m2) (c := k2c2) (by decide +kernel) rfl rfl rfl (by decide +kernel)
set_option maxRecDepth 65536 in
theorem w_c6 : (Jvm.Cond.code ({ cls := "com/example/scrinium/scrinium/io/HeaderLine", name := "makeRoom", desc := "(I)V" } : Jvm.MethodName) prog_51_method_10_code (2 : Nat) (Option.none : Option Jvm.ClassFile.FieldType)).before args0 about1 = true := code_word (m := ⟨2, 6⟩) (meth := k2m6) (c := k2c6) (by decide +kernel) rfl rfl rfl (by decide +kernel)
set_option maxRecDepth 65536 in
theorem w_c7 : (Jvm.Cond.code ({ cls := "com/example/scrinium/scrinium/io/HeaderLine", name := "dropCarriageReturn", desc := "()V" } : Jvm.MethodName) prog_51_method_5_code (1 : Nat) (Option.none : Option Jvm.ClassFile.FieldType)).before args0 about1 = true := code_word (m := ⟨2, 3⟩) (meth := k2m3) (c := k2c3) (by decide +kernel) rfl rfl rfl (by decide +kernel)
set_option maxRecDepth 65536 in
theorem w_c8 : (Jvm.Cond.code ({ cls := "com/example/scrinium/scrinium/io/HeaderLine", name := "length", desc := "()I" } : Jvm.MethodName) prog_51_method_6_code (1 : Nat) (Option.some Jvm.ClassFile.FieldType.int)).before args0 about1 = true := code_word (m := ⟨2, 4⟩) (meth := k2m4) (c := k2c4) (by decide +kernel) rfl rfl rfl (by decide +kernel)
set_option maxRecDepth 65536 in
theorem w_c9 : (Jvm.Cond.code ({ cls := "com/example/scrinium/scrinium/io/HeaderLine", name := "indexOf", desc := "(C)I" } : Jvm.MethodName) prog_51_method_8_code (3 : Nat) (Option.some Jvm.ClassFile.FieldType.int)).before args0 about1 = true := code_word (m := ⟨2, 5⟩) (meth := k2m5) (c := k2c5) (by decide +kernel) rfl rfl rfl (by decide +kernel)
def codes1 : List Jvm.Cond := [Jvm.Cond.code x code maxLocals ret, Jvm.Cond.code ({ cls := "com/example/scrinium/scrinium/io/HeaderLineDropCarriageReturnPinLaw", name := "draw", desc := "(I)B" } : Jvm.MethodName) method_2_code (1 : Nat) (Option.some Jvm.ClassFile.FieldType.byte), Jvm.Cond.code ({ cls := "com/example/scrinium/scrinium/io/HeaderLine", name := "<init>", desc := "()V" } : Jvm.MethodName) prog_51_method_1_code (1 : Nat) (Option.none : Option Jvm.ClassFile.FieldType), Jvm.Cond.code ({ cls := "java/lang/Object", name := "<init>", desc := "()V" } : Jvm.MethodName) object_method_1_code (1 : Nat) (Option.none : Option Jvm.ClassFile.FieldType), Jvm.Cond.code ({ cls := "com/example/scrinium/scrinium/io/HeaderLine", name := "clear", desc := "(I)V" } : Jvm.MethodName) prog_51_method_2_code (2 : Nat) (Option.none : Option Jvm.ClassFile.FieldType), Jvm.Cond.code ({ cls := "com/example/scrinium/scrinium/io/HeaderLine", name := "append", desc := "([BII)V" } : Jvm.MethodName) prog_51_method_3_code (4 : Nat) (Option.none : Option Jvm.ClassFile.FieldType), Jvm.Cond.code ({ cls := "com/example/scrinium/scrinium/io/HeaderLine", name := "makeRoom", desc := "(I)V" } : Jvm.MethodName) prog_51_method_10_code (2 : Nat) (Option.none : Option Jvm.ClassFile.FieldType), Jvm.Cond.code ({ cls := "com/example/scrinium/scrinium/io/HeaderLine", name := "dropCarriageReturn", desc := "()V" } : Jvm.MethodName) prog_51_method_5_code (1 : Nat) (Option.none : Option Jvm.ClassFile.FieldType), Jvm.Cond.code ({ cls := "com/example/scrinium/scrinium/io/HeaderLine", name := "length", desc := "()I" } : Jvm.MethodName) prog_51_method_6_code (1 : Nat) (Option.some Jvm.ClassFile.FieldType.int), Jvm.Cond.code ({ cls := "com/example/scrinium/scrinium/io/HeaderLine", name := "indexOf", desc := "(C)I" } : Jvm.MethodName) prog_51_method_8_code (3 : Nat) (Option.some Jvm.ClassFile.FieldType.int)]
set_option maxRecDepth 65536 in
theorem codes_eq : words1.filter isCode = codes1 := rfl
theorem w_codes : ∀ c ∈ words1.filter isCode, c.before args0 about1 = true := by
  rw [codes_eq]
  intro c hc
  simp only [codes1, List.mem_cons, List.not_mem_nil, or_false] at hc
  rcases hc with rfl | rfl | rfl | rfl | rfl | rfl | rfl | rfl | rfl | rfl
  · exact w_c0
  · exact w_c1
  · exact w_c2
  · exact w_c3
  · exact w_c4
  · exact w_c5
  · exact w_c6
  · exact w_c7
  · exact w_c8
  · exact w_c9
set_option maxRecDepth 65536 in
theorem w_t1 : (words1.take 24).all (fun c => isCode c || c.before args0 about1) = true := by decide +kernel
set_option maxRecDepth 65536 in
theorem w_t2 : ((words1.drop 24).take 24).all (fun c => isCode c || c.before args0 about1) = true := by decide +kernel
set_option maxRecDepth 65536 in
theorem w_t3 : ((words1.drop 24).drop 24).all (fun c => isCode c || c.before args0 about1) = true := by decide +kernel
theorem w_tables : (allAtoms (Jvm.Cond.code x code maxLocals ret :: tables_1)).before args0 about1 = true := by
  rw [allAtoms_all]
  show words1.all (fun c => c.before args0 about1) = true
  refine all_split ?_ w_codes
  rw [← List.take_append_drop 24 words1, List.all_append, w_t1, ← List.take_append_drop 24 (words1.drop 24), List.all_append, w_t2, w_t3]
  rfl
set_option maxRecDepth 65536 in
theorem w_case : (Jvm.Cond.and given_1 narrow_1).before args0 about1 = true := by decide +kernel
theorem w_applies : (headSpec (Jvm.Cond.code x code maxLocals ret :: tables_1) room_1).applies x e0.platform about1 = true :=
  (Spec.applies_iff w_frames).mpr ⟨w_running, w_runnable, w_alone, w_named, w_hears, w_ripe, w_room, w_tables⟩
theorem atStart : AtStart classFile x code maxLocals ret World_1 tables_1 room_1 Calls_1 rest_1 Pre_1 launch0 p0 e0 about1 theMethod args0 below0 :=
  ⟨lists_1, trivial, launch0.admits_env _ _ _, launch0.least_env, fairChoices_fair.cas, fairChoices_fair.clock, w_frames, w_args, w_heap, w_applies, trivial, trivial, w_case⟩
end start1
theorem witness_1 : WitnessClaimed_1 := ⟨start1.p0, start1.e0, start1.about1, start1.theMethod, start1.args0, start1.below0, start1.atStart⟩
end Jvm.Pilot.@@N@@
